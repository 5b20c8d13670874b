import Derived.Test.YteifpcnphnhaoaaGreatMg20
open Go.Proofs.Tryz
namespace Go.Proofs.YteifpcnphnhaoaaGreat
open Go.RowKit
variable {M:MF} {a:Type} {c:List a} {f g:Nat ->Nat} {h:List (AT×Int)} {i j k o s:Nat} {t:AI} {x:a} {u:TypeId} {w:List D} {z:TypeId} {A:Nat} {C:AT} {E:Type} {F:Ak}
set_option maxRecDepth 100000
theorem Da (x:AT×Int) (l:List (AT×Int)) (r:AT):Ai (x::l) r=(if x.1=r then x.2 else 0)+Ai l r:=by simp [Ai]
theorem UP {m:List (AT×Int)} (a:h.Perm m) (r:AT):Ai h r=Ai m r:=by
 induction a with
 | nil=>rfl
 | cons x _ f=>rw [Da,Da,f]
 | swap x y h=>simp only [Da];omega
 | trans _ _ c b=>rw [c,b]
theorem Ii (a:C∉h.map Prod.fst):Ai h C=0:=by
 induction h with
 | nil=>rfl
 | cons x h b=>
  grind [Da]
theorem WK (c:(h.map Prod.fst).Nodup) {v:Int} (a:(C,v)∈h):Ai h C=v:=by
 induction h with
 | nil=>cases a
 | cons x h b=>
  grind [Da,Ii]
theorem UO (c:List (AT×Int)) (r:AT):Ai (fq c) r=Ai c r:=by grind [WK,F8,F9,Ii,Ix]
theorem lV {f c:Type} {m:List (f×c)} {B seen:List Nat} {x:f×c} (h:x∈Bz m B seen):x∈m:=by
 unfold Bz at h;obtain ⟨y,g,rfl⟩:=Θ.1 h;exact (List.of_mem_zip (a:=y.1) (b:=y.2) (gS.1 g).1).1
theorem XZ {m:List (a×E)} {B seen:List Nat}:(Bz m B seen).length<=m.length:=by grind [Bz]
def Mt (l:List AI) (r:AT):Int:=(l.map λi=>Ai (gN i) r).sum
theorem YR (l:List AI) (i:AI) (r:AT):Mt (l++ [i]) r=Mt l r+Ai (gN i) r:=by simp [Mt]
def kA (l:List Int) (i:AI):Bool:=decide (i.id∈l)
theorem Tl {l:List AI} (h:Eu l=0):∀i∈l,Ar i=0:=λi c=>by
 have f:=Ul.1 h;obtain ⟨j,a,rfl⟩:=hY c;have:=f j (Ψ.2 a);unfold Jm at this;rw [FC Af a] at this
 split at this
 .contradiction
 .rename_i b;simpa using b
theorem N8 (h:Ar t=0) (r:AT): -Mx<=Ai (gN t) r/\Ai (gN t) r<=Mx:=by
 have a:=(Fp h).2.2.2.2.2.2.2.2;unfold MP at a
 split at a
 .cases a
 .rename_i c
  by_cases b:r∈(fq (gN t)).map Prod.fst
  .grind [F9]
  grind [Ii,Ix]
theorem oL (h:Ar t=0):P2 (fq (gN t)):=λx a=>by
 have b:=((F9 (gN t) x.1 x.2).1 a).2;rw [b];simpa [Mx] using N8 h x.1
theorem ss (h:Ar t=0):(fq (gN t)).length<=1280:=by
 have a:=(Fp h).1;have c:=a.po;have b:=a.pa;have:=IN (gN t);rw [Hq] at this;omega
theorem Nl {l:List AI} (h:∀i∈l,Ar i=0) (a:l.length<=1000) (r:AT): -1000000000000000000<=Mt l r/\Mt l r<=1000000000000000000:=by
 have:=Iw (l:=l) (f:=λi=>Ai (gN i) r) (B:=1000000000000000) (λi b=>by simpa [Mx] using N8 (h i b) r) 1000 a (by omega);unfold Mt;omega
def VG (p:fj) (l:List Int):List Ac:=p.ro.map λx=>⟨x.r,x.n+Mt (p.it.filter (kA l)) x.r⟩
theorem L4 {l:List Ac} (h:Dn l=0):∀x∈l,-4000000000000000<=x.n/\x.n<=4000000000000000:=λx b=>by
 have f:=Ul.1 h;obtain ⟨j,a,rfl⟩:=hY b;have:=f j (Ψ.2 a);unfold JU at this;rw [FC IR a] at this
 split at this
 .contradiction
 .split at this
  .cases this
  .rename_i c;simp only [Mx] at c;omega
theorem UB {p:a ->Bool} (b:A<c.length):(c.take (A+1)).filter p=(c.take A).filter p++(if p c[A] then [c[A]] else []):=En b
theorem aU (p:fj) (l:List Int) (Y:E1 p) (hl:l.length<=100000) (G:p.it.length<=1000):AK prog 113 [.d (Bq p),.d (.sl none (l.map AF))] (.tup [.sl none ((if CX p l=0 then VG p l else []).map Bv),AF (CX p l)]):=by
 by_cases j:CX p l=0
 .have X:=(Ze p l Y hl j).by [(4,40)] rfl
  have h0:Az p=0:=by
   unfold CX at j;split at j
   .exact j
   .rename_i h;simpa using h
  have w:=Tl (PR h0).2.1;have K:=L4 (PR h0).1;have hb1:=Y.1;rw [ϱ j,j];refine At func113 Z Z ntmps113 Z Z Z λF u=>(AC (AE (V (Bo 1 Z Z Z Z Z Z Z) (AB Z Z ?_))));refine AB Z Z (AD (AC (AE (J (Ay Z Z Bl Z Z Z) (fZ Z Z (V (FE X Z [40] ⟨Z,trivial⟩ Z Z Z Z Z Z Z Z Z) (fZ Z Z (J (DC Z Z Z) ?_))))))));refine J (DC Z Z Z) (AB Z Z (AB Z Z (AD (AC (AC (AE (fZ Z Z (J (Cw Z Z Z) ?_))))))));refine AD (Cm Z ((by decide)) (AX (AC (AE (V (PY 2 Z Z Z Z) (AB Z Z (AD (AC ?_))))))));refine AC (AE (J (AN Z DA Z Z Z) (J (AP Z Z Z JV Z) (J (Ba Z cl Z) (fZ Z Z (AD (AZ (BO (α:=Nat×List (AT×Int)) (λq=>⟨76,[(2,(.ptr 1 0 0)),(6,(.map 40 0)),(8,(.map 2 0)),(27,(.d (.sl none (p.it.map Ag)))),(28,(.d (AF (p.it.length:Int)))),(29,(.d (AF (q.1:Int))))],[(1,[EC 39 p]),(40,[BT AF Ah (BN l)]),(2,[BT Bc AF q.2])]⟩) (λq=>q.1<=p.it.length/\∀r,Aa q.2 r 0=Mt ((p.it.take q.1).filter (kA l)) r) (λq=>p.it.length - q.1) ((0,[])) (⟨ζ _,λ_=>rfl⟩) (AY u [1,40,2] Z Z ⟨Z,Z,Z,Z,Z,Z,trivial⟩) ?_))))))));rintro ⟨k,M⟩ ⟨T,I⟩;dsimp only at T I⊢;refine AC (AE (J (BB Z Z Z) (AD (AC (A9 Z (λD=>?_) (λD=>?_))))))
  .have f:k<p.it.length:=BR D;refine AX (AC (AZ (AC (AE ?_))));have y:=w _ (ξ f);have hs:=(RB p.it[k] (Fp y).1).by [(2,41)] rfl;have g:=oL y;have hEl:=ss y;have Q:=λr=>UO (gN p.it[k]) r;have hEn:=F8 (gN p.it[k]);have hT:=Nl (l:=(p.it.take k).filter (kA l)) (λi U=>w i (iQ (gS.1 U).1)) (gJ (gz _ _) (by rw [ϖ];omega))
   obtain ⟨E,hEE⟩:∃E,fq (gN p.it[k])=E:=⟨_,Z⟩
   rw [hEE] at hs g hEl Q hEn;refine J (BJ (k) Z Z (Z) (A5 f) cl Z Co Z) (J (DM Z Z CP Z) (V (By 3 FG Z Z Z Z) ?_));refine V (B3 Z Z Z Z Z Z Z Co) (AD (AC (AC (AE (fZ Z Z (J (AN Z PQ Z Z Z) (J (AP Z Z Z An Z) (J (II (BN l) (p.it[k].id) (false) _ Z Z Z Ek IF SX Z Z) ?_))))))));rw [Xw];refine J (Jw Z Z) (AD (A9 Z (λC=>?_) (λC=>?_)))
   .refine Aw (AE (J (Al Z Z (AM (k+1) (by omega)) Z) (fZ Z Z (AD ?_))));exact ⟨(k+1,M),⟨by show k+1<=_;omega,λr=>by show Aa M r 0=Mt ((p.it.take (k+1)).filter (kA l)) r;rw [UB f,θ (by unfold kA;simpa using C),iC];exact I r⟩,by show p.it.length - (k+1)<p.it.length - k;omega,AY u [1,40,2] Z (Z) ⟨Z,Z,Z,Z,Z,Z,trivial⟩⟩
   .refine AX (AC (AE (J (Ay Z Z CP Z Z Z) (V (FE hs Z [41] ⟨Z,trivial⟩ Z Z Z Z Z Z Z Z Z) (V (Gg 4 Z Z Z CL Z Z Z Z) (AD (AZ (BO (α:=List Nat×List (AT×Int)) (λq=>⟨76,[(2,(.ptr 1 0 0)),(6,(.map 40 0)),(8,(.map 2 0)),(27,(.d (.sl none (p.it.map Ag)))),(28,(.d (AF (p.it.length:Int)))),(29,(.d (AF (k:Int)))),(40,(.ptr 4 0 0))],[(4,[.iter 41 0 E.length q.1]),(41,[BT Bc AF E]),(1,[EC 39 p]),(40,[BT AF Ah (BN l)]),(2,[BT Bc AF q.2])]⟩) (λq=>∀r,Aa q.2 r 0+Ai (Bz E (List.range E.length) q.1) r=Mt ((p.it.take k).filter (kA l)) r+Ai E r) (λq=>(Bz E (List.range E.length) q.1).length) (([],M)) (λr=>by show Aa M r 0+Ai (Bz E (List.range E.length) []) r=_;rw [nG (by simp),I r]) (AY u [4,41,1,40,2] Z Z ⟨Z,Z,Z,Z,Z,Z,Z,trivial⟩) ?_))))))));rintro ⟨seen,N⟩ R;dsimp only at R⊢;refine AC (AE (Lk (E) Z Z Z Z (λL=>?_) (λS o b c t P hB41 s=>⟨_,Z,?_⟩)))
    .have O:∀r,Aa N r 0=Mt ((p.it.take k).filter (kA l)) r+Ai (gN p.it[k]) r:=λr=>by have H:=R r;rw [L] at H;rw [<-Q r];have h2:Ai ([]:List (AT×Int)) r=0:=rfl;omega
     refine J (DC Z Z Z) (AD (AC (Cm Z Z (Aw (AE (J (Al Z Z (AM (k+1) (by omega)) Z) (fZ Z Z (AD ?_))))))));exact ⟨(k+1,N),⟨by show k+1<=_;omega,λr=>by show Aa N r 0=Mt ((p.it.take (k+1)).filter (kA l)) r;rw [UB f,ϱ (by unfold kA;simpa using C),YR];exact O r⟩,by show p.it.length - (k+1)<p.it.length - k;omega,AY u [1,40,2] Z (Z) ⟨Z,Z,Z,Z,Z,Z,trivial⟩⟩
    .refine J (DC Z Z Z) (AD (AC ?_));refine Bx Z Z (AX (AZ (AC (AE (J (Gh (E) S o Z Z Z t P Z) (J (DC Z Z Z) (J (DC Z Z Z) (V (By 5 Jy Z Z Z Z) ?_))))))));refine V (B3 Z Z Z Z Z Z Z YS) (AB Z Z (AD (CZ [[],[],[0,1],[],[0,1,2,3],[0,1,3],[0,1,3,5],rg 7] mixed Z (Z5 2 ([BT Bc AF (Bb N b 0)]) Z (Av 8 Z Z (Au [11] Z Z (λ_=>Ae (Ay Z Z Cc Z Z Z)) (JO [46,47] [] Z Z Z (λ_=>Ae (II (N) (b) (0) _ Z Z Z CL CV PU Z Z)) (λ_=>Ae (II (Bb (N) (b) (0)) (b) (0) _ Z Z Z CL CV PU (ES _ _ _ _) Z)) (Av 12 Z Z ?_))))))))
     have hNb: -6000000000000000000<=Aa N b 0+c/\Aa N b 0+c<=6000000000000000000:=by {have H:=R b;have h2:=Hr (l:=Bz E (List.range E.length) seen) (λx hx=>g x (lV hx)) b;have h3:=Hr g b;have h4:=XZ (m:=E) (B:=List.range E.length) (seen:=seen);have h5:=hT b;have h6:=g (b,c) (ϑ t);simp only at h6;omega}
     refine AU [48,49] Z (Al Z Z (Ξ _ (by omega)) Z) (HC [46,47] [2] [(51,_)] Z Z (λ_=>HD (HP (N) (b) (0) Z Z Z CL CV PU Z Z)) (.inr ⟨51,_,Z,Z,Z,Z,Z⟩) Z Z Z Z Z ?_ (hCn:=Qm Z));refine AU [51] Z (DC Z Z Z) (CB 7 Z Z Z (Ad 8 Z Z (V (HR (N) (b) (0) (Aa N b 0+c) Z Z Z CV Z Z) (AD ⟨Z,?_⟩))));refine CM ?_;exact ⟨(seen++ [o],_),(λr=>by show Aa (BS N b (Aa N b 0+c)) r 0+Ai (Bz E (List.range E.length) (seen++ [o])) r=_;have H:=R r;rw [UP s,Da] at H;rw [Gs];by_cases e:r=b; · {rw [ϱ e];rw [ϱ e.symm] at H;rw [e] at H⊢;omega}; · {rw [θ e];rw [θ (λh=>e h.symm)] at H;omega}),by show (Bz E (List.range E.length) (seen++ [o])).length<(Bz E (List.range E.length) seen).length;rw [s.length_eq];exact io _,AY u [4,41,1,40,2] Z (Z) ⟨Z,Z,Z,Z,Z,Z,Z,trivial⟩⟩
  .refine Aw (AC ?_);have v:p.it.take k=p.it:=κ (by have h:=D;omega);rw [v] at I;have hTb:=Nl (l:=p.it.filter (kA l)) (λi U=>w i (gS.1 U).1) (gJ (gz _ _) G);refine AE (AB Z Z (AD (AC (AC ?_))));refine NG 13 900 My Z Z Z Z (AE (J (AN Z Dx Z Z Z) (J (AP Z Z Z ON Z) (J (Ba Z fU Z) (fZ Z Z (AD (AZ (BO (α:=List Ac) (λa=>⟨76,[(8,(.map 2 0)),(13,(.own 900 0 a.length)),(55,(.d (.sl none (p.ro.map Bv)))),(56,(.d (AF (p.ro.length:Int)))),(57,(.d (AF (a.length:Int))))],[(900,[.rowD 88 7 (a.map Bv)]),(2,[BT Bc AF M])]⟩) (λa=>a.length<=p.ro.length/\a=(VG p l).take a.length) (λa=>p.ro.length - a.length) ([]) (⟨ζ _,by simp⟩) (AY u [900,2] Z Z ⟨Z,Z,Z,Z,Z,trivial⟩) ?_))))))));rintro a ⟨ha0,hA⟩;refine AC (AE (J (BB Z Z Z) (AD (AC (A9 Z (λA=>?_) (λA=>?_))))))
   .have z:a.length<p.ro.length:=BR A;refine AX (AC (AZ ?_));refine AC (AE (J (BJ (a.length) Z Z (Z) (A5 z) fU Z Mu Z) (J (DM Z Z VU Z) (V (By 6 Qw Z Z Z Z) (V (B3 Z Z Z Z Z Z Z Mu) (AD (CZ [[],[],[1],[],[3],[],[],[6],[5,6,7],[3,4,5,6,7,8],[1,2,3,4,5,6,7,8,9],[1,2,3,4,5,6,7,8,9,10],rg 12,rg 13] mixed Z (CG ?_))))))));refine Av 13 Z Z (AU [15] Z (AN Z Ex Z Z Z) (Au [62] Z Z (λ_=>Ae (Ay Z Z Cc Z Z Z)) (AU [15] Z (AN Z Rk Z Z Z) (Au [64] Z Z (λ_=>Ae (AP Z Z Z GE Z)) (Av 8 Z Z (AU [15] Z (AN Z Ex Z Z Z) (Au [67] Z Z (λ_=>Ae (Ay Z Z Cc Z Z Z)) (Au [66,68] Z Z (λ_=>Ae (II (M) (p.ro[a.length].r) (0) _ Z Z Z CL CV PU Z Z)) ?_))))))));have hr1:=K _ (ξ z);have hr2:=hTb p.ro[a.length].r;have hr3:=I p.ro[a.length].r;refine AU [65,69] Z (Al Z Z (Ξ _ (by omega)) Z) (AU [63,70] Z (FD Qw pB Z Z Z) (HC [71] [50] [(72,_)] Z Z (λ_=>HD (C5 50 My Z Z Z Z Z Z Z Z)) (.inr ⟨72,_,Z,Z,Z,Z,Z⟩) Z Z Z Z Z (CB 12 Z Z Z (Ad 13 Z Z (V (F2 (a) ([⟨p.ro[a.length].r,p.ro[a.length].n+Aa M p.ro[a.length].r 0⟩]) Z Z Z Z Z Z Z Z My (by simp only [ς];omega) Z Z Z Z) (AD ⟨Z,?_⟩))))));refine Ad 14 Z Z (AB Z Z (AD ⟨Z,?_⟩));refine CM (AE (J (Al Z Z (SZ a (⟨p.ro[a.length].r,p.ro[a.length].n+Aa M p.ro[a.length].r 0⟩:Ac) (by omega)) Z) (fZ Z Z (AD ?_))));exact ⟨a++ [⟨p.ro[a.length].r,p.ro[a.length].n+Aa M p.ro[a.length].r 0⟩],⟨by rw [Δ];show a.length+1<=_;omega,by rw [Δ];show _=(VG p l).take (a.length+1);rw [ψ (by unfold VG;simpa using z),<-hA];congr 1;unfold VG;simp [I]⟩,by rw [Δ];show p.ro.length - (a.length+1)<p.ro.length - a.length;omega,AY u [900,2] Z (Z) ⟨Z,Z,Z,Z,Z,trivial⟩⟩
   .refine Aw (AC ?_);have W:a=VG p l:=by rw [hA];exact κ (by unfold VG;rw [χ];have h:=A;omega)
    refine LL (emb:=Bv) 13 900 a Z Z Z Z Z Z Z (AE (fZ Z Z (AB Z Z (AB Z Z (AD (A4 ?_))))));exact ⟨_,[],[],A2 Z,Z,Z,by rw [W],Z⟩
 .have X:=WN p l Y hl j;rw [θ j];refine At func113 Z Z ntmps113 Z Z Z λF u=>(AC (AE (V (Bo 1 Z Z Z Z Z Z Z) (AB Z Z (Xv 4 Z (AB Z Z ?_))))));refine AD (AC (AE (J (Ay Z Z Bl Z Z Z) (fZ Z Z (J (As (X) Z Z) (fZ Z Z (J (Dc Z Z Z) (J (Dc Z Z Z) ?_))))))));refine AB Z Z (AB Z Z (AD (AC (AC (AE (fZ Z Z (J (Cw Z Z Z) (AD ?_))))))));refine Bx Z ((gQ j)) (AC (AE (fZ Z Z (AB Z Z (Xv 4 Z (AB Z Z (AD (A4 ?_))))))));exact ⟨_,[],[],A2 Z,Z,Z,Z,Z⟩
theorem U2 (l:List Int) (c:l.length<=1000000):AO prog 89 [.d (.sl none (l.map AF))] [] λr b=>r= .own 20 0 l.length/\b=[(20,[.rowD 3 1 (l.map AF)])]:=by
 refine At func89 Z Z ntmps89 Z Z Z λF g=>(AC (AE (AB Z Z ?_)));skip;refine AD (AC (AC (AE (fZ Z Z (Fj 3 Z (λa=>?_) ?_)))))
 .refine J (E6 ch Z Z) (AD (Bx Z (Z) (AC (AE (AB Z Z (XI 2 20 BP Z Z Z Z (AD (A4 ?_))))))));exact ⟨_,[20],_,A2 Z,Z,Z,by rw [<-χ (f:=AF),a];rfl,by rw [a]⟩
 .refine J (E6 ch Z Z) ?_;refine AD (Cm Z (Z) (AX (AC (AE (V (C5 20 BP Z Z Z Z Z Z Z Z) (fZ Z Z (V (Qq (([]:List Int)) (l) Z Z Z Z Z Z (λ_=>rfl) BP (by simp only [jB];omega) Z Z Z Z) (AB Z Z ?_))))))));skip;refine AD (A4 ?_);exact ⟨_,[20],_,A2 Z,Z,Z,by simp,by simp⟩
def B2 (p:fj) (id:Int):AI:=p.it.getD ((p.it.map AI.id).idxOf id) Af
theorem Kd {p:fj} {id:Int} (h:id∈p.it.map AI.id):∃b:(p.it.map AI.id).idxOf id<p.it.length,Vq id (p.it.map AI.id)=(((p.it.map AI.id).idxOf id:Nat):Int)/\B2 p id=p.it[(p.it.map AI.id).idxOf id]/\(B2 p id).id=id:=by
 have b:(p.it.map AI.id).idxOf id<(p.it.map AI.id).length:=List.idxOf_lt_length_iff.2 h;have a:(p.it.map AI.id).idxOf id<p.it.length:=by simpa using b
 have c:B2 p id=p.it[(p.it.map AI.id).idxOf id]:=FC Af a;refine ⟨a,ϱ h,c,?_⟩;have f:=List.getElem_idxOf b
 grind
theorem bu {m:List a} (h:c.Perm m) (f:a ->Int):(c.map f).sum=(m.map f).sum:=by
 induction h with
 | nil=>rfl
 | cons x _ i=>simp [i]
 | swap x y c=>simp;omega
 | trans _ _ g b=>rw [g,b]
abbrev Hd:=Option (Nat×Nat)
def ub:Hd ->Nat ->Value
 | none,_=> .slice none 0 0
 | some (b,c),n=>sV b n c
abbrev fy (h:Hd) (n:Nat):D:= .raw (ub h n)
structure Nd where
 it:AI
 eh:Hd
 ef:List (Nat×Int)
 ph:Hd
 pl:List (Nat×Nat)
 on:Bool
structure Po where
 r:AT
 room:Int
 sum:Int
 qh:Hd
 q:List Nat
 mi:Nat
structure fv where
 nd:List Nd
 po:List Po
 nh:Hd
 mh:Hd
abbrev vA (x:Nd):List D:=[AF x.it.id,AF x.it.pr,AF x.it.sq,.sl none (x.it.po.map B7),.sl none (x.it.pa.map Cp),.sl none (x.it.af.map AF),fy x.eh x.ef.length,fy x.ph x.pl.length,Ah x.on]
abbrev kw (y:Po):List D:=[AF y.r.k,Am y.r.acc.o,AF y.r.acc.k,Am y.r.acc.a,Am y.r.f,Am y.r.t,AF y.room,AF y.sum,fy y.qh y.q.length,AF (y.mi:Int)]
abbrev dq (pb:Nat ->Nat) (e:Nat×Int):D:= .agg [pD (pb e.1) 0,AF e.2]
abbrev jx (pb:Nat ->Nat) (e:Nat×Nat):D:= .agg [pD (pb e.1) 0,AF (e.2:Int)]
abbrev BX (b:Nat):D:=pD b 0
def BV (M:MF) (h:Hd) (t:TypeId) (k:Nat) (xs:List D):Prop:=match h with
 | none=>xs=[]
 | some (b,c)=>xs.length<=c/\M b=some (.row t k c xs)
abbrev Uv (x:Nd):Ak:= .cells 184 (vA x)
abbrev Uu (y:Po):Ak:= .cells 190 (kw y)
variable {B:Hd}
theorem VY {g:Ak} (i:M k=some (.cells u w)) {f:List D} (a:BV M B z A f):BV (BZ M k g) B z A f:=by
 match B,a with
 | none,a=>exact a
 | some (j,c),a=>
  grind [BV,BZ]
abbrev Lb (v:Value):D:= .raw v
def Ce:Po:=⟨⟨0,SI,[],[]⟩,0,0,none,[],0⟩
def CQ:Nd:=⟨Af,none,[],none,[],false⟩
structure gB where
 h:Hd
 t:TypeId
 k:Nat
 xs:List D
inductive RI where
 | e (i:Nat)
 | p (i:Nat)
 | q (j:Nat)
 | n
 | m
def Ca (nb pb:Nat ->Nat) (N:fv):RI ->gB
 | .e i=>⟨(N.nd.getD i CQ).eh,188,2,(N.nd.getD i CQ).ef.map (dq pb)⟩
 | .p i=>⟨(N.nd.getD i CQ).ph,254,2,(N.nd.getD i CQ).pl.map (jx pb)⟩
 | .q j=>⟨(N.po.getD j Ce).qh,176,1,(N.po.getD j Ce).q.map λi=>BX (nb i)⟩
 | .n=>⟨N.nh,176,1,(List.range N.nd.length).map λi=>BX (nb i)⟩
 | .m=>⟨N.mh,186,1,(List.range N.po.length).map λj=>BX (pb j)⟩
def FF (M:MF) (R:RI ->gB):Prop:=(∀r,BV M (R r).h (R r).t (R r).k (R r).xs)/\∀r r' b c c',(R r).h=some (b,c) ->(R r').h=some (b,c') ->r=r'
def Be (M:MF):Hd ->MF
 | none=>M
 | some (b,_)=>FB M b
variable {R:RI ->gB}
theorem FF.blk (h:FF M R) {r:RI} {c:Nat} (a:(R r).h=some (k,c)):M k=some (.row (R r).t (R r).k c (R r).xs):=by
 have:=h.1 r;rw [a] at this;exact this.2
theorem Ji {h:Hd} (f:M k=some F) (a:∀c,h≠some (k,c)):Be M h k=some F:=by
 match h,a with
 | none,_=>exact f
 | some (g,c),a=>
  show FB M g k=_;rw [H4 (λe=>a c (by rw [e]))];exact f
theorem i3 {a:Nat} {v:Ak} (i:Be M B k=none) (g:M a=some F) (f:∀c,B≠some (a,c)):BZ (Be M B) k v a=some F:=by grind [Ji,Hu]
theorem FF.upd {R':RI ->gB} (h:FF M R) (a:RI) (x:∀r,r≠a ->R' r=R r) {b cap:Nat} (w:Be M (R a).h b=none) (z:(R' a).h=some (b,cap)) (v:(R' a).xs.length<=cap):FF (BZ (Be M (R a).h) b (.row (R' a).t (R' a).k cap (R' a).xs)) R':=by
 have l:∀r,r≠a ->∀i c,(R r).h=some (i,c) ->i≠b:=λr u i c j e=>by
  have f:=h.blk j;have y:=Ji (h:=(R a).h) f λo g=>u (h.2 r a i c o j g)
  grind
 refine ⟨λr=>?_,λr s B c o f y=>?_⟩
 .by_cases e:r=a
  .subst e;rw [z];exact ⟨v,Fu _ _ _⟩
  .rw [x r e];have f:=h.1 r
   cases hh:(R r).h with
   | none=>rw [hh] at f;exact f
   | some p=>
    obtain ⟨i,c⟩:=p;rw [hh] at f;exact ⟨f.1,i3 w f.2 λo g=>e (h.2 r a i c o hh g)⟩
 .by_cases e:r=a<;>by_cases A:s=a
  all_goals (grind [FF])
theorem FF.cells (h:FF M R) {a:List D} (c:M k=some (.cells z w)):FF (BZ M k (.cells u a)) R:=
 ⟨λr=>VY c (h.1 r),h.2⟩
structure CU (wb mv:Nat) (nb pb:Nat ->Nat) (N:fv) (M:MF):Prop where
 n:∀(i:Nat) x,N.nd[i]? =some x ->M (nb i)=some (Uv x)
 p:∀(j:Nat) y,N.po[j]? =some y ->M (pb j)=some (Uu y)
 rs:FF M (Ca nb pb N)
 w:M wb=some (.cells 180 [fy N.nh N.nd.length,fy N.mh N.po.length,Lb (.map (some mv))])
 ni:∀i j:Nat,i<N.nd.length ->j<N.nd.length ->nb i=nb j ->i=j
 pi:∀i j:Nat,i<N.po.length ->j<N.po.length ->pb i=pb j ->i=j
 e:∀x∈N.nd,(∀e∈x.ef,e.1<N.po.length)/\∀e∈x.pl,e.1<N.po.length
 q:∀y∈N.po,∀i∈y.q,i<N.nd.length
theorem He {d:a} (h:c[o]? =some x):c.getD o d=x:=by rw [Φ,h];rfl
variable {N:fv}
theorem CU.nn (h:CU i j g f N M) (a:Nat) (x:Nd) (b:N.nd[a]? =some x):M (g a)=some (Uv x)/\BV M x.eh 188 2 (x.ef.map (dq f))/\BV M x.ph 254 2 (x.pl.map (jx f)):=by
 have k:BV M (N.nd.getD a CQ).eh 188 2 ((N.nd.getD a CQ).ef.map (dq f)):=h.rs.1 (.e a);have c:BV M (N.nd.getD a CQ).ph 254 2 ((N.nd.getD a CQ).pl.map (jx f)):=h.rs.1 (.p a);rw [He b] at k c;exact ⟨h.n a x b,k,c⟩
theorem CU.pp (h:CU i j g f N M) (a:Nat) (y:Po) (c:N.po[a]? =some y):M (f a)=some (Uu y)/\BV M y.qh 176 1 (y.q.map λb=>BX (g b)):=by
 have k:BV M (N.po.getD a Ce).qh 176 1 ((N.po.getD a Ce).q.map λb=>BX (g b)):=h.rs.1 (.q a);rw [He c] at k;exact ⟨h.p a y c,k⟩
theorem Em (b:o<c.length) (k:Nat) (d:a):(c.set o x).getD k d=if k=o then x else c.getD k d:=by grind
theorem Q7 (b:c[o]? =some x) (k:Nat) (d:a):c.getD k d=if k=o then x else c.getD k d:=by grind
variable {y:Po}
theorem CU.setPo (h:CU i j g f N M) {y':Po} (u:N.po[s]? =some y) (E:y'.q=y.q) (C:y'.qh=y.qh):CU i j g f {N with po:=N.po.set s y'} (BZ M (f s) (Uu y')):=by
 have H:=h.p s y u;have w:=(φ.1 u).1
 have I:Ca g f {N with po:=N.po.set s y'}=Ca g f N:=funext λr=>by
  cases r with
  | e a=>rfl
  | p a=>rfl
  | n=>rfl
  | m=>show (⟨_,_,_,(List.range (N.po.set s y').length).map _⟩:gB)=_;rw [gp];rfl
  | q k=>
   show (⟨((N.po.set s y').getD k Ce).qh,_,_,((N.po.set s y').getD k Ce).q.map _⟩:gB)=⟨(N.po.getD k Ce).qh,_,_,(N.po.getD k Ce).q.map _⟩
   grind
 have o:∀(b:Nat) (t:TypeId) (B:List D),t≠190 ->M b=some (.cells t B) ->BZ M (f s) (Uu y') b=some (.cells t B):=λb t B K L=>by
  grind [Hu]
 refine ⟨λa x v=>o _ _ _ (by decide) (h.n a x v),λa z l=>?_,by rw [I];exact h.rs.cells H,?_,h.ni,λa k G F=>h.pi a k (by simpa using G) (by simpa using F),λx v=>?_,λz l=>?_⟩
 .have A:a<N.po.length:=by have:=(φ.1 l).1;rw [gp] at this;exact this
  have c:(N.po.set s y')[a]? =some z:=l
  clear l
  rw [jm] at c
  split at c
  .grind [Fu]
  .rename_i e
   rw [Hu]
   .exact h.p a z c
   .intro J;exact e (h.pi a s A w J).symm
 .show BZ M (f s) (Uu y') i=some (.cells _ [fy N.nh N.nd.length,fy N.mh (N.po.set s y').length,_]);rw [gp];exact o _ _ _ (by decide) h.w
 .have:=h.e x v
  simpa using this
 .rcases jl l with l | rfl
  .exact h.q z l
  .rw [E];exact h.q y (ϑ u)
theorem CU.setNd (h:CU i j g f N M) {x x':Nd} (v:N.nd[o]? =some x) (I:x'.ef=x.ef) (P:x'.eh=x.eh) (H:x'.pl=x.pl) (O:x'.ph=x.ph):CU i j g f {N with nd:=N.nd.set o x'} (BZ M (g o) (Uv x')):=by
 have F:=h.n o x v;have A:=(φ.1 v).1
 have G:Ca g f {N with nd:=N.nd.set o x'}=Ca g f N:=funext λr=>by
  cases r with
  | q a=>rfl
  | m=>rfl
  | n=>show (⟨_,_,_,(List.range (N.nd.set o x').length).map _⟩:gB)=_;rw [gp];rfl
  | e k=>
   show (⟨((N.nd.set o x').getD k CQ).eh,_,_,((N.nd.set o x').getD k CQ).ef.map _⟩:gB)=⟨(N.nd.getD k CQ).eh,_,_,(N.nd.getD k CQ).ef.map _⟩
   grind
  | p k=>
   show (⟨((N.nd.set o x').getD k CQ).ph,_,_,((N.nd.set o x').getD k CQ).pl.map _⟩:gB)=⟨(N.nd.getD k CQ).ph,_,_,(N.nd.getD k CQ).pl.map _⟩
   grind
 have s:∀(b:Nat) (t:TypeId) (B:List D),t≠184 ->M b=some (.cells t B) ->BZ M (g o) (Uv x') b=some (.cells t B):=λb t B K L=>by
  grind [Hu]
 refine ⟨λa z l=>?_,λa y u=>s _ _ _ (by decide) (h.p a y u),by rw [G];exact h.rs.cells F,?_,λa k E C=>h.ni a k (by simpa using E) (by simpa using C),h.pi,λz l=>?_,λy u=>?_⟩
 .have w:a<N.nd.length:=by have:=(φ.1 l).1;rw [gp] at this;exact this
  have c:(N.nd.set o x')[a]? =some z:=l
  clear l
  rw [jm] at c
  split at c
  .grind [Fu]
  .rename_i e
   rw [Hu]
   .exact h.n a z c
   .intro J;exact e (h.ni a o w A J).symm
 .show BZ M (g o) (Uv x') i=some (.cells _ [fy N.nh (N.nd.set o x').length,fy N.mh N.po.length,_]);rw [gp];exact s _ _ _ (by decide) h.w
 .rcases jl l with l | rfl
  .exact h.e z l
  .rw [I,H];exact h.e x (ϑ v)
 .have:=h.q y u
  simpa using this
abbrev HN (M:MF):Hp:=[(40,[.multi M])]
def tZ (y:Po) (c:Int):Int:=max y.room 0+c
def TN (y:Po) (c:Int):Bool:=decide (c<0/\tZ y c<0)
theorem mq {b i:Nat} {g a:Nat ->Nat} {N:fv} {M:MF} (h:CU b i g a N M) {j:Nat} {y:Po} (k:N.po[j]? =some y) (c:Int) (t: -1000000000000000000<=y.room/\y.room<=1000000000000000000) (u: -2000000000000000000<=c/\c<=2000000000000000000):
  AO prog 198 [.d (pD (a j) 0),.d (AF c)] (HN M) λr s=>r= .d (AF (tZ y c))/\s=HN M:=by
 have l:=h.p j y k;have o:(if 0>y.room then 0 else y.room)=max y.room 0:=by rw [Int.max_def];split<;>split<;>omega
 refine At func198 Z Z ntmps198 Z Z Z λF v=>(AC (AE (AB Z Z (AD (AC (AE (fZ Z Z ?_)))))));refine J (Dg Z Z) (J (C9 Z Rn Z Z Z) (J (EE (f:=40) Z Z (l) Z GE Z) (J (RD Z Z (o) Z) (fZ Z Z (J (Al Z Z (Ξ _ (by omega)) Z) (AB Z Z (AD (A4 ?_))))))));exact ⟨_,[40],_,A2 Z,Z,Z,Z,Z⟩
theorem M9 (h:CU i j g f N M) (a:N.po[s]? =some y) (c:Int) (b: -1000000000000000000<=y.room/\y.room<=1000000000000000000) (k: -2000000000000000000<=c/\c<=2000000000000000000):
  AO prog 150 [.d (pD (f s) 0),.d (AF c)] (HN M) λr t=>r= .d (Ah (TN y c))/\t=HN M:=by
 have l:=mq h a c b k;refine At func150 Z Z ntmps150 Z Z Z λF u=>(AC ?_);refine AE (AB Z Z (AD (AC (AE (fZ Z Z (J (BB Z Z Z) (fZ Z Z (C3 7 Z (λo=>?_) (λo=>?_)))))))));refine AQ Z Z Z (fZ Z Z (AQ Z Z Z (fZ Z Z (AQ Z Z Z (V (FE l Z [40] ⟨Z,trivial⟩ Z Z Z Z Z Z Z Z Z) (AQ Z Z Z (J (BB Z Z Z) (J (B5 Z Z Z Z) ?_))))))))
 rotate_left
 refine AL Z Z Z Z (AL Z Z Z Z (AL Z Z Z Z (AL Z Z Z Z (J (Bk Z Z Z Z) ?_))))
 all_goals
  refine AB Z Z (AD (A4 ?_));exact ⟨_,[40],_,A2 Z,Z,Z,QE (by unfold TN;first | exact (gV (by omega)).symm | exact decide_eq_decide.2 ⟨λh=>⟨by omega,h⟩,λh=>h.2⟩),Z⟩
section
variable {P:Program} {F:Fr} {s:AS} {d:Nat} {x y:Operand} {T E:TypeId} {ty:TypeId} {pos:String} {aft:Array Edge} {g:Option (Nat×Bool)} {k:IntKind} {i:Int}
variable {h:Hd} {a:Nat}
theorem WU {h:Hd} {n:Nat} (j:h=none ->n=0) (f:s.ev x=some (.d (fy h n))) (o:P.underlying T=some (.slice E)) (l:Nat.blt d s.n=true):
  AA P F ⟨some d,.call {callee:= .builtin .len,args:= #[x],argTypes:= #[T]},ty,pos,aft,g⟩ s d (.d (AF (n:Int))):=by
 match h,j,f with
 | none,j,f=>
  have e:=j rfl;subst e;exact Wi (a:=none) (n:=0) (cap:=0) f o l
 | some (b,c),_,f=>exact Wi (a:=some ⟨b,0,none⟩) (n:=n) (cap:=c) f o l
theorem WV {b c f:Nat} (t:h=some (b,c)) (m:Nat) (l:s.ev x=some (.d (fy h a))) (j:s.ev y=some (.d (.raw (.int k i)))) (r:i=(m:Int)) (o:m<a) (v:P.underlying T=some (.slice E)) (w:A3 P E f=true) (u:Nat.blt d s.n=true):
  AA P F ⟨some d,.indexAddr T x y,ty,pos,aft,g⟩ s d (.d (pD b (m*f))):=by
 subst t;exact Y1 m l j r o v w u
end
variable {a:Type} {c:List a} {f:List Po} {M:MF} {k:Nat} {t:TypeId} {h:Hd} {g:a ->D} {i j:Nat ->Nat} {o:Nat} {N:fv} {y:Po} {s u:Nat}
theorem Um (b:BV M h t k (c.map g)):h=none ->c.length=0:=λe=>by
 subst e;have:c.map g=[]:=b
 simpa using this
theorem Uz (o:BV M h t k (c.map g)) {j:Nat} (r:j<c.length):∃b i,h=some (b,i):=by
 cases h with
 | none=>have:=Um o rfl;omega
 | some p=>exact ⟨p.1,p.2,Z⟩
theorem ST {a:List D} (f:BV M h t k a) {b c:Nat} (g:h=some (b,c)):M b=some (.row t k c a):=by
 subst g;exact f.2
def Mv (po:List Po) (e:Nat×Int):List Po:=match po[e.1]? with
 | some y=>po.set e.1 {y with sum:=y.sum - e.2}
 | none=>po
def Pc (po:List Po) (e:Nat×Nat):List Po:=match po[e.1]? with
 | some y=>po.set e.1 {y with mi:=min y.mi e.2}
 | none=>po
theorem k9 {e:Nat×Int} (h:f[e.1]? =some y):Mv f e=f.set e.1 {y with sum:=y.sum - e.2}:=by unfold Mv;rw [h]
theorem XS {e:Nat×Nat} {y:Po} (h:f[e.1]? =some y):Pc f e=f.set e.1 {y with mi:=min y.mi e.2}:=by unfold Pc;rw [h]
def Ei (x:Nd):Nd:={x with on:=false}
def sK (N:fv) (i:Nat) (x:Nd):fv:={N with nd:=N.nd.set i (Ei x),po:=x.pl.foldl Pc (x.ef.foldl Mv N.po)}
theorem Lz {g:Type} {f:g ->a ->g} (h:k<c.length) (b:g):(c.take (k+1)).foldl f b=f ((c.take k).foldl f b) c[k]:=by
 rw [ψ h,List.foldl_append];rfl
def Sa (po:List Po) (b:Int):Prop:=∀y∈po,-b<=y.sum/\y.sum<=b
theorem aj {b c:Int} (h:Sa f b) (i:b<=c) {j:Nat} (g: -c<=y.sum/\y.sum<=c):Sa (f.set j y) c:=λz a=>by
 rcases jl a with a | rfl
 .have:=h z a;omega
 .exact g
theorem bc (h:CU s u j i N M) {x:Nd} (E:N.nd[o]? =some x) (hB:Sa N.po 1000000000000000000) (he:∀e∈x.ef,-100000000000000000<=e.2/\e.2<=100000000000000000) (hel:x.ef.length<=60) (hpl:x.pl.length<=1000) (hpb:∀e∈x.pl,e.2<=1000000) (hmb:∀y∈N.po,y.mi<=1000000):
  AO prog 140 [.d (pD (j o) 0)] (HN M) λr H'=>r= .tup []/\∃M',H'=HN M'/\CU s u j i (sK N o x) M':=by
 have hxb:=(h.nn o x E).1;have hil:=(φ.1 E).1;have h1:=h.setNd (x':=Ei x) E Z Z Z Z;have G:(N.nd.set o (Ei x))[o]? =some (Ei x):=by rw [List.getElem?_set_self hil]
 have hez:=Um (h.nn o x E).2.1;have hpz:=Um (h.nn o x E).2.2;have S:=h.e x (ϑ E);refine At func140 Z Z ntmps140 Z Z Z λF hF=>(AC ?_);refine AE (fZ Z Z (J (Dg Z Z) (J (C9 Z FP Z Z Z) (V (Pk (f:=40) Z Z Z Z (hxb) ((by show _<9;omega)) Z ru) (AD (AC (AC (AE ?_))))))));refine fZ Z Z (J (Dg Z Z) (J (C9 Z Ks Z Z Z) (J (EE (f:=40) Z Z ((Fu _ _ _)) Z XC Z) (J (WU hez Z underlying181 Z) (fZ Z Z (AD (AZ (BO (α:=Nat×List Po×MF) (λq=>⟨51,[(0,.d (pD (j o) 0)),(12,(.d (fy x.eh x.ef.length))),(13,(.d (AF (x.ef.length:Int)))),(14,(.d (AF (q.1:Int))))],HN q.2.2⟩) (λq=>q.1<=x.ef.length/\q.2.1=(x.ef.take q.1).foldl Mv N.po/\CU s u j i {N with nd:=N.nd.set o (Ei x),po:=q.2.1} q.2.2/\Sa q.2.1 (1000000000000000000+100000000000000000*(q.1:Int))/\(∀y∈q.2.1,y.mi<=1000000)/\q.2.1.length=N.po.length) (λq=>x.ef.length - q.1) ((0,N.po,BZ M (j o) (Uv (Ei x)))) (⟨ζ _,Z,h1,by show Sa N.po (1000000000000000000+100000000000000000*((0:Nat):Int));simpa using hB,hmb,Z⟩) (AY hF [40] Z Z E0) ?_))))))));rintro ⟨k,po,M1⟩ ⟨hk0,I,O,hS,C,c⟩;dsimp only at hk0 I O hS C c⊢;refine AC (AE (J (BB Z Z Z) (AD (AC (A9 Z (λL=>?_) (λL=>?_))))))
 .have l:k<x.ef.length:=BR L;refine AX (AC (AZ (AC ?_)));obtain ⟨eb,ec,hee⟩:=Uz (h.nn o x E).2.1 l;have U:=ST (O.nn o (Ei x) G).2.1 hee;have hjl:x.ef[k].1<po.length:=by rw [c];exact S.1 _ (ξ l)
  obtain ⟨y,R⟩:∃y,po[x.ef[k].1]? =some y:=⟨_,ω hjl⟩
  have Q:=O.p _ y R;have hys:=hS y (ϑ R);have heb:=he _ (ξ l);refine AE ?_;refine J (WV hee (k) Z Z Z l underlying181 S9 Z) (J (EI (f:=40) (e:=k) Z (Z) Z (U) (A5 l) Z bN Z) (V (By 1 aH Z Z Z Z) (V (B3 Z Z Z Z Z Z Z S9) (AD (CZ [[],[0],[0,1],[0,1,2],[0,1,2,3],[],[5],rg 7,rg 8,rg 9,rg 10] mixed Z (CG (AU [3] Z (AN Z Rp Z Z Z) (Ao [18] [1] Z Z (λ_=>Ae (AP Z Z Z FA Z)) ?_))))))));refine AU [19] Z (Dg Z Z) (AU [20] Z (C9 Z Kq Z Z Z) (Ao [21] [40] Z Z (λ_=>Ae (EE (f:=40) Z Z (Q) Z GE Z)) (AU [3] Z (AN Z Ro Z Z Z) (Ao [23] [1] Z Z (λ_=>Ae (AP Z Z Z GE Z)) (CB 7 Z Z Z (Ad 8 Z Z (J (PS Z Z (Ξ _ (by omega)) Z) (AD ⟨Z,?_⟩))))))));refine Ad 9 Z Z (J (Dg Z Z) (AD ⟨Z,?_⟩));refine Ad 10 Z Z (J (C9 Z Kq Z Z Z) (AD ⟨Z,?_⟩));refine Ad 11 Z Z (V (Pk (f:=40) Z Z Z Z (Q) ((by show _<10;omega)) Z uF) (AD ⟨Z,?_⟩));refine CM (AE (J (Al Z Z (AM (k+1) (by omega)) Z) (fZ Z Z (AD ?_))));exact ⟨(k+1,po.set x.ef[k].1 {y with sum:=y.sum - x.ef[k].2},BZ M1 (i x.ef[k].1) (Uu {y with sum:=y.sum - x.ef[k].2})),⟨by show k+1<=_;omega,by show po.set _ _=_;rw [Lz l,<-I,k9 R],O.setPo R Z Z,by show Sa _ (1000000000000000000+100000000000000000*((k+1:Nat):Int));exact aj hS (by omega) (by show _<=y.sum - x.ef[k].2/\y.sum - x.ef[k].2<=_;omega),λz D=>by rcases jl D with D | rfl;exact C z D;exact C y (ϑ R),by show (po.set _ _).length=_;rw [gp];exact c⟩,by show x.ef.length - (k+1)<x.ef.length - k;omega,AY hF [40] Z (Z) E0⟩
 .refine Aw (AC ?_);have X:po=x.ef.foldl Mv N.po:=by rw [I,κ (by have h:=L;omega)]
  have T:=(O.nn o (Ei x) G).1;refine AE ?_;refine fZ Z Z (J (Dg Z Z) (J (C9 Z Kr Z Z Z) (J (EE (f:=40) Z Z (T) Z XB Z) (J (WU hpz Z underlying182 Z) (fZ Z Z (AD (AZ (BO (α:=Nat×List Po×MF) (λq=>⟨51,[(32,(.d (fy x.ph x.pl.length))),(33,(.d (AF (x.pl.length:Int)))),(34,(.d (AF (q.1:Int))))],HN q.2.2⟩) (λq=>q.1<=x.pl.length/\q.2.1=(x.pl.take q.1).foldl Pc (x.ef.foldl Mv N.po)/\CU s u j i {N with nd:=N.nd.set o (Ei x),po:=q.2.1} q.2.2/\(∀y∈q.2.1,y.mi<=1000000)/\q.2.1.length=N.po.length) (λq=>x.pl.length - q.1) ((0,po,M1)) (⟨ζ _,X,O,C,c⟩) (AY hF [40] Z Z Qs) ?_))))))));rintro ⟨a,g,M2⟩ ⟨hj0,t,B,v,b⟩;dsimp only at hj0 t B v b⊢;refine AC (AE (J (BB Z Z Z) (AD (AC (A9 Z (λK=>?_) (λK=>?_))))))
  .have A:a<x.pl.length:=BR K;refine AX (AC (AZ (AC ?_)));obtain ⟨pbk,pcc,Y⟩:=Uz (h.nn o x E).2.2 A;have H:=ST (B.nn o (Ei x) G).2.2 Y;have hjl2:x.pl[a].1<g.length:=by rw [b];exact S.2 _ (ξ A)
   obtain ⟨z,D⟩:∃z,g[x.pl[a].1]? =some z:=⟨_,ω hjl2⟩
   have P:=B.p _ z D;have hzm:=v z (ϑ D);have hmin:(if ((x.pl[a].2:Nat):Int)<((z.mi:Nat):Int) then ((x.pl[a].2:Nat):Int) else ((z.mi:Nat):Int))=((min z.mi x.pl[a].2:Nat):Int):=by split<;>omega
   refine AE (J (WV Y (a) Z Z Z A underlying182 Ps Z) (J (EI (f:=40) (e:=a) Z (Z) Z (H) (A5 A) Z bM Z) (V (By 2 WZ Z Z Z Z) ?_)));refine V (B3 Z Z Z Z Z Z Z Ps) (AD (CZ [[],[0],[],[2],[2,3],[2,3,4],[2,3,4,5],[],[7],[2,3,4,5,6,7,8],rg 10,rg 11,rg 12] mixed Z (CG (AU [5] Z (AN Z Hk Z Z Z) (Ao [38] [2] Z Z (λ_=>Ae (AP Z Z Z FA Z)) (AU [5] Z (AN Z Hk Z Z Z) (Ao [40] [2] Z Z (λ_=>Ae (AP Z Z Z FA Z)) (AU [41] Z (Dg Z Z) ?_))))))));refine AU [42] Z (C9 Z Kp Z Z Z) (Ao [43] [40] Z Z (λ_=>Ae (EE (f:=40) Z Z (P) Z An Z)) (AU [5] Z (AN Z Rm Z Z Z) (Ao [45] [2] Z Z (λ_=>Ae (AP Z Z Z An Z)) (AU [44,46] Z (RC Z Z (hmin) Z) (CB 10 Z Z Z (Ad 11 Z Z (J (Dg Z Z) (AD ⟨Z,?_⟩))))))));refine Ad 12 Z Z (J (C9 Z Kp Z Z Z) (AD ⟨Z,?_⟩));refine Ad 13 Z Z (V (Pk (f:=40) Z Z Z Z (P) ((by show _<10;omega)) Z BU) (AD ⟨Z,?_⟩));refine CM ?_;skip;refine AE (J (Al Z Z (AM (a+1) (by omega)) Z) (fZ Z Z (AD ?_)));exact ⟨(a+1,g.set x.pl[a].1 {z with mi:=min z.mi x.pl[a].2},BZ M2 (i x.pl[a].1) (Uu {z with mi:=min z.mi x.pl[a].2})),⟨by show a+1<=_;omega,by show g.set _ _=_;rw [Lz A,<-t,XS D],B.setPo D Z Z,λw hw=>by rcases jl hw with hw | rfl;exact v w hw;show min z.mi _<=_;omega,by show (g.set _ _).length=_;rw [gp];exact b⟩,by show x.pl.length - (a+1)<x.pl.length - a;omega,AY hF [40] Z (Z) Qs⟩
  .refine Aw ?_;have W:g=x.pl.foldl Pc (x.ef.foldl Mv N.po):=by rw [t,κ (by have h:=K;omega)]
   exact ⟨_,[40],_,A2 Z,Z,Z,Z,M2,Z,by unfold sK;rw [<-W];exact B⟩
def B4 (N:fv):List Int:=N.nd.map λx=>x.it.id
def GR (nb:Nat ->Nat) (ids:List Int):List (Int×Value):=(List.range ids.length).map λi=>(ids.getD i 0,pV (nb i) 0)
theorem SH {nb:Nat ->Nat} {a:List Int} (c:a.Nodup) (b:o<a.length):Aa (GR nb a) a[o] (.pointer none)=pV (nb o) 0:=by
 refine D7 ?_ (Θ.2 ⟨o,Ψ.2 b,by rw [FC 0 b]⟩)
 have:(GR nb a).map Prod.fst=a:=by
  unfold GR;rw [gZ];refine i7 (by simp) λj g f=>?_
  grind
 grind
abbrev HW (mv:Nat) (bs:Option (List Nat×Nat)) (L:List (Int×Value)) (M:MF):Hp:=[(40,[.multi M]),(50,[.map bs (BY AF Lb L)]),(51,[.addr 50 0 (.map (some mv))])]
structure P1 where
 id:Int
 re:Int
 r:AT
 by_:Int
def GC:AT:=⟨0,SI,[],[]⟩
def lz:P1:=⟨0,0,GC,0⟩
abbrev dg (e:P1):D:= .agg [AF e.id,AF e.re,AF e.r.k,Am e.r.acc.o,AF e.r.acc.k,Am e.r.acc.a,Am e.r.f,Am e.r.t,AF e.by_]
abbrev tO (o:Option P1):D:= .tup [dg (o.getD lz),Ah o.isSome]
def Uc (N:fv) (e:Nat×Nat):Bool:=decide ((N.po.getD e.1 Ce).mi<e.2)
def df (N:fv) (x:Nd) (e:Nat×Nat):P1:=⟨x.it.id,1,(N.po.getD e.1 Ce).r,(N.nd.getD ((N.po.getD e.1 Ce).q.getD (N.po.getD e.1 Ce).mi 0) CQ).it.id⟩
def Dq (N:fv) (id:Int):Bool:=!(N.nd.getD ((B4 N).idxOf id) CQ).on
def Hz (N:fv) (x:Nd):Option P1:=match x.pl.find? (Uc N) with
 | some e=>some (df N x e)
 | none=>match x.it.af.find? (Dq N) with
  | some id=>some ⟨x.it.id,2,GC,id⟩
  | none=>none
theorem Rg {b:Type} {p:b ->Bool}:∀{l:List b} {k:Nat} (c:k<l.length),(∀x∈l.take k,p x=false) ->p l[k]=true ->l.find? p=some l[k]
 | a::l,0,_,_,h=>by simp at h;simp [h]
 | a::l,k+1,c,f,h=>by
  have j:p a=false:=f a (by simp);have g:=Rg (l:=l) (k:=k) (by simpa using c) (λx i=>f x (by simp [i])) (by simpa using h);rw [List.find?_cons,j];simpa using g
theorem Q9 {p:a ->Bool} (h:∀x∈c,p x=false):c.find? p=none:=by grind
structure iO (N:fv):Prop where
 i:(B4 N).Nodup
 a:∀x∈N.nd,∀id∈x.it.af,id∈B4 N
 l:∀x∈N.nd,x.ef.length<=60/\x.pl.length<=1000/\x.it.af.length<=1000
 e:∀x∈N.nd,∀e∈x.ef,-100000000000000000<=e.2/\e.2<=100000000000000000
 p:∀x∈N.nd,∀e∈x.pl,e.2<(N.po.getD e.1 Ce).q.length/\e.2<=1000000
 m:∀y∈N.po,y.mi<=1000000
 rm:∀y∈N.po,-1000000000000000000<=y.room/\y.room<=1000000000000000000
 n:N.nd.length<=1000/\N.po.length<=1000
 ql:∀y∈N.po,y.q.length<=1000
set_option maxHeartbeats 1000000 in
theorem l9 {wb K:Nat} {nb pb:Nat ->Nat} {N:fv} {M:MF} (bs:Option (List Nat×Nat)) (h:CU wb K nb pb N M) (hw:iO N) {i:Nat} {x:Nd} (hx:N.nd[i]? =some x):
  AO prog 193 [.d (pD wb 0),.d (pD (nb i) 0)] (HW K bs (GR nb (B4 N)) M) λr H'=>r= .d (tO (Hz N x))/\H'=HW K bs (GR nb (B4 N)) M:=by
 have hwb:=h.w;have o:=ϑ hx;obtain ⟨s,hre,C⟩:=h.nn i x hx;have hpz:=Um C;obtain ⟨_,hpl,hafl⟩:=hw.l x o;have hxe:=h.e x o;have hxp:=hw.p x o;have hxa:=hw.a x o;refine At func193 Z Z ntmps193 Z Z Z λF hF=>(AC (AE (V (By 1 J1 Z Z Z Z) (AB Z Z (AD (AC (AC (AE ?_))))))));refine fZ Z Z (J (Dg Z Z) (J (C9 Z Kr Z Z Z) (J (EE (f:=40) Z Z (s) Z XB Z) (J (WU hpz Z underlying182 Z) (fZ Z Z (AD (AZ (BO (α:=Nat) (λk=>⟨85,[(0,.d (pD wb 0)),(1,.d (pD (nb i) 0)),(4,(.ptr 1 0 0)),(13,(.d (fy x.ph x.pl.length))),(14,(.d (AF (x.pl.length:Int)))),(15,(.d (AF (k:Int))))],(1,[.blk 245 [.d (AF 0),.d (AF 0),.d (AF 0),.d (Am []),.d (AF 0),.d (Am []),.d (Am []),.d (Am []),.d (AF 0)]])::HW K bs (GR nb (B4 N)) M⟩) (λk=>k<=x.pl.length/\∀e∈x.pl.take k,Uc N e=false) (λk=>x.pl.length - k) (0) (⟨ζ _,by simp⟩) (AY hF [1,40,50,51] Z Z No) ?_))))))));rintro k ⟨hk0,t⟩;refine AC (AE (J (BB Z Z Z) (AD (AC (A9 Z (λI=>?_) (λI=>?_))))))
 .have a:k<x.pl.length:=BR I;refine AX (AC (AZ (AC ?_)));obtain ⟨eb,ec,W⟩:=Uz C a;have P:=ST C W;have hjl:x.pl[k].1<N.po.length:=hxe.2 _ (ξ a)
  obtain ⟨y,hy⟩:∃y,N.po[x.pl[k].1]? =some y:=⟨_,ω hjl⟩
  have w:N.po.getD x.pl[k].1 Ce=y:=by rw [Φ,hy];rfl
  obtain ⟨l,O⟩:=h.pp _ y hy;have hpk:=hxp _ (ξ a);rw [w] at hpk;refine AE (J (WV W (k) Z Z Z a underlying182 Ps Z) ?_);refine J (EI (f:=40) (e:=k) Z (Z) Z (P) (A5 a) Z bM Z) (V (By 2 WZ Z Z Z Z) (V (B3 Z Z Z Z Z Z Z Ps) (AD (AC (CZ [[],[0],[0,1],[0,1,2],[0,1,2,3],[],[5],rg 7] mixed Z (CG (AU [7] Z (AN Z Hk Z Z Z) (Ao [19] [2] Z Z (λ_=>Ae (AP Z Z Z FA Z)) ?_))))))));refine AU [20] Z (Dg Z Z) (AU [21] Z (C9 Z Kp Z Z Z) (Ao [22] [40] Z Z (λ_=>Ae (EE (f:=40) Z Z (l) Z An Z)) (AU [7] Z (AN Z Rm Z Z Z) (Ao [24] [2] Z Z (λ_=>Ae (AP Z Z Z An Z)) (CB 7 Z Z Z (Ad 8 Z Z (J (BB Z Z Z) (AD ⟨Z,?_⟩))))))));refine CM (A9 Z (λA=>?_) (λA=>?_))
  .refine AC ?_;have b:y.mi<y.q.length:=by have h:=A;omega
   obtain ⟨qb,qc,Q⟩:=Uz O b;have E:=ST O Q;have hni:y.q[y.mi]<N.nd.length:=h.q y (ϑ hy) _ (ξ b)
   obtain ⟨z,L⟩:∃z,N.nd[y.q[y.mi]]? =some z:=⟨_,ω hni⟩
   obtain ⟨B,_,_⟩:=h.nn _ z L;have Y:Hz N x=some ⟨x.it.id,1,y.r,z.it.id⟩:=by unfold Hz;rw [Rg a t (by unfold Uc;rw [w];exact gQ (by have h:=A;omega))];unfold df;dsimp only;rw [w,FC 0 b,Φ,L];rfl
   refine CZ [[],[0],[0,1],[0,1,2],[0,1,2,3],[],[5],[5,6],[5,6,7],[5,6,7,8],[],[10],[10,11],[10,11,12],[10,11,12,13],[],[15],[15,16],[15,16,17],[15,16,17,18],[10,11,12,13,14,15,16,17,18,19],[10,11,12,13,14,15,16,17,18,19,20],[10,11,12,13,14,15,16,17,18,19,20,21],[10,11,12,13,14,15,16,17,18,19,20,21,22],[10,11,12,13,14,15,16,17,18,19,20,21,22,23],[10,11,12,13,14,15,16,17,18,19,20,21,22,23,24],rg 26,rg 27,rg 28] mixed Z (CG (Av 1 Z Z (AU [27] Z (Dg Z Z) (AU [28] Z (C9 Z GP Z Z Z) ?_))));refine AU [29] Z (C9 Z PQ Z Z Z) (Ao [30] [40] Z Z (λ_=>Ae (EE (f:=40) Z Z (s) Z An Z)) (AU [7] Z (AN Z Hk Z Z Z) (Ao [32] [2] Z Z (λ_=>Ae (AP Z Z Z FA Z)) (AU [33] Z (Dg Z Z) (AU [34] Z (C9 Z NV Z Z Z) (Ao [35] [40] Z Z (λ_=>Ae (D2 (f:=40) Z Z (l) Cc Z Z (by simp [D.one]) Z)) (AU [7] Z (AN Z Hk Z Z Z) (Ao [37] [2] Z Z (λ_=>Ae (AP Z Z Z FA Z)) ?_))))))));refine AU [38] Z (Dg Z Z) (AU [39] Z (C9 Z Hl Z Z Z) (Ao [40] [40] Z Z (λ_=>Ae (EE (f:=40) Z Z (l) Z Gp Z)) (AU [7] Z (AN Z Hk Z Z Z) (Ao [42] [2] Z Z (λ_=>Ae (AP Z Z Z FA Z)) (AU [43] Z (Dg Z Z) (AU [44] Z (C9 Z Kp Z Z Z) (Ao [45] [40] Z Z (λ_=>Ae (EE (f:=40) Z Z (l) Z An Z)) (AU [41,46] Z (WV Q (y.mi) Z Z Z b fS MZ Z) ?_))))))));refine Ao [47] [40] Z Z (λ_=>Ae (nH (f:=40) (e:=y.mi) (off:=0) Z (by omega) Z (E) (A5 b) Z OO Z)) (AU [48] Z (Dg Z Z) (AU [49] Z (C9 Z GP Z Z Z) (AU [50] Z (C9 Z PQ Z Z Z) (Ao [51] [40] Z Z (λ_=>Ae (EE (f:=40) Z Z (B) Z An Z)) (CB 26 Z Z Z (Ad 27 Z Z (J (FD J1 TL Z Z Z) (AD ⟨Z,?_⟩))))))));refine Ad 28 Z Z (V (B3 Z Z Z Z Z Z Z KB) (AD ⟨Z,?_⟩));refine Ad 29 Z Z (AB Z Z (AD ⟨Z,?_⟩));refine CM (A4 ?_);exact ⟨_,[40,50,51],_,A2 Z,Z,Z,by rw [Y];rfl,Z⟩
  .refine AX (AE (J (Al Z Z (AM (k+1) (by omega)) Z) (fZ Z Z (AD ?_))));exact ⟨k+1,⟨by show k+1<=_;omega,by rw [ψ a];intro e g;rcases υ.1 g with g | g;exact t e g;rw [η.1 g];unfold Uc;rw [w];exact gV (by have h:=A;omega)⟩,by show x.pl.length - (k+1)<x.pl.length - k;omega,AY hF [1,40,50,51] Z (Z) No⟩
 .refine Aw (AC (AC ?_));have R:x.pl.find? (Uc N)=none:=Q9 (by have e:k=x.pl.length:=(by have h:=I;omega);rw [e,gc] at t;exact t);refine AE (fZ Z Z ?_);refine J (Dg Z Z) (J (C9 Z GP Z Z Z) (J (C9 Z EV Z Z Z) (J (EE (f:=40) Z Z (s) Z BL Z) (J (Ba Z ch Z) (fZ Z Z (AD (AZ (BO (α:=Nat) (λj=>⟨85,[(0,.d (pD wb 0)),(1,.d (pD (nb i) 0)),(4,(.ptr 1 0 0)),(59,(.d (.sl none (x.it.af.map AF)))),(60,(.d (AF (x.it.af.length:Int)))),(61,(.d (AF (j:Int))))],(1,[.blk 245 [.d (AF 0),.d (AF 0),.d (AF 0),.d (Am []),.d (AF 0),.d (Am []),.d (Am []),.d (Am []),.d (AF 0)]])::HW K bs (GR nb (B4 N)) M⟩) (λj=>j<=x.it.af.length/\∀id∈x.it.af.take j,Dq N id=false) (λj=>x.it.af.length - j) (0) (⟨ζ _,by simp⟩) (AY hF [1,40,50,51] Z Z No) ?_))))))));rintro j ⟨hj0,u⟩;refine AC (AE (J (BB Z Z Z) (AD (AC (A9 Z (λH=>?_) (λH=>?_))))))
  .have v:j<x.it.af.length:=BR H;refine AX (AC (AZ (AC ?_)));have T:=hxa _ (ξ v);have c:=kJ T;have S:(B4 N).idxOf x.it.af[j]<N.nd.length:=by unfold B4 at c⊢;rw [χ] at c;exact c
   obtain ⟨z,L⟩:∃z,N.nd[(B4 N).idxOf x.it.af[j]]? =some z:=⟨_,ω S⟩
   have U:N.nd.getD ((B4 N).idxOf x.it.af[j]) CQ=z:=by rw [Φ,L];rfl
   obtain ⟨B,_,_⟩:=h.nn _ z L;have X:=SH (nb:=nb) hw.i c;rw [List.getElem_idxOf c] at X;refine AE (J (BJ (j) Z Z (Z) (A5 v) ch Z BU Z) ?_);refine J (CI Z Z An Z) (AB Z Z (AD (AC (AE (fZ Z Z (J (Dg Z Z) (J (C9 Z NW Z Z Z) (J (EE (f:=40) Z Z (hwb) Z XD Z) ?_))))))));refine Ds 68 51 0 Z Z (fZ Z Z (J (II (GR nb (B4 N)) x.it.af[j] (.pointer none) (pV (nb ((B4 N).idxOf x.it.af[j])) 0) Z Z Z XQ IF W0 X Z) (J (Dg Z Z) (J (C9 Z FP Z Z Z) (J (EE (f:=40) Z Z (B) Z pG Z) (J (Mp Z Z) (AD (Iq Z (λG=>?_) (λG=>?_)))))))))
   .refine AC (AE (fZ Z Z (J (Dg Z Z) (J (C9 Z GP Z Z Z) ?_))));refine J (C9 Z PQ Z Z Z) (J (EE (f:=40) Z Z (s) Z An Z) (J (FD Jy TK Z Z Z) (fZ Z Z (J (FD J1 TL Z Z Z) (V (B3 Z Z Z Z Z Z Z KB) (AB Z Z (AD (A4 ?_))))))));exact ⟨_,[40,50,51],_,A2 Z,Z,Z,by unfold Hz;rw [R];dsimp only;rw [Rg v u (by unfold Dq;rw [U];simpa using G)];rfl,Z⟩
   .refine AX (AE (J (Al Z Z (AM (j+1) (by omega)) Z) (fZ Z Z (AD ?_))));exact ⟨j+1,⟨by show j+1<=_;omega,by rw [ψ v];intro e g;rcases υ.1 g with g | g;exact u e g;rw [η.1 g];unfold Dq;rw [U];simpa using G⟩,by show x.it.af.length - (j+1)<x.it.af.length - j;omega,AY hF [1,40,50,51] Z (Z) No⟩
  .refine Aw (AC (AE (J (FD J1 TL Z Z Z) (V (B3 Z Z Z Z Z Z Z KB) (AB Z Z (AD (A4 ?_)))))));exact ⟨_,[40,50,51],_,A2 Z,Z,Z,by unfold Hz;rw [R];dsimp only;rw [Q9 (by have e:j=x.it.af.length:=(by have h:=H;omega);rw [e,gc] at u;exact u)];rfl,Z⟩
abbrev db:FuncId:=230
theorem ml (h:Hd) (n:Nat):AO prog 194 [.d (fy h n)] [] λr f=>r= .fn db [.d (.ptr (fy h n))]/\f=[]:=by
 refine At func194 Z Z ntmps194 Z Z Z λF b=>(AC (AE (V (Bo 1 Z Z Z Z Z Z Z) ?_)));refine AB Z Z (AD (AC (AE (QS 1 1 (fy h n) [] b Z Z Z (by intro c a;simp [D.cells] at a;subst a;rfl) Z Z Z (J (qw Z Z) (AB Z Z (AD (A4 ?_))))))));exact ⟨_,[],[],A2 Z,Z,Z,Z,Z⟩
def L6 (q:List Nat):Nat ->List (Nat×Nat)
 | 0=> []
 | c+1=>(c,q.getD c 0)::L6 q c
def dp (nb:Nat ->Nat) (e:Nat×Nat):List AV:=[.d (AF (e.1:Int)),.d (BX (nb e.2))]
section
variable {β:Type}
theorem mm (y:Nat ->Nat) (q:List Nat) (T:q.length<=100000) {M:MF} {h:Hd} (j:BV M h 176 1 (q.map λi=>BX (y i))) (l:Nat) (H:β ->Hp) (N:List Nat) (step:β ->Nat×Nat ->β×Bool) (g:β) (K:∀a,iK (H a)=N) (Q:∀a,Fn N (H a)=true) (I:∀a,B8 (H a) N=some (H a)) (P:∀a,fc (H a) 40=some [.multi M])
  (A:Mr prog l (dp y) H step g (L6 q q.length)):
  AO prog db [.d (.raw (DO l)),.d (.ptr (fy h q.length))] (H g) λr G=>r= .tup []/\G=H (IG step g (L6 q q.length)):=by
 have O:=Um j;have x:∀a,A1 N (H a)=true:=λa=>by have h:=Ej (H a);rw [K] at h;exact h
 have L:∀a,C1 N (H a)=some []:=λa=>by have h:=QF (H a);rw [K] at h;exact h
 refine At func230 Z Z ntmps230 Z Z Z λF U=>?_;refine AC (AE (J (CI Z Z Gp Z) (J (WU O Z fS Z) (J (PS Z Z (Ξ _ (by omega)) Z) (AB Z Z (AD (AZ (G7 (α:=Nat×β) (λp=>⟨19,[(0,.d (.raw (DO l))),(1,.d (.ptr (fy h q.length))),(3,(.d (AF ((p.1:Int) - 1))))],H p.2⟩) (λp=>p.1<=q.length/\Mr prog l (dp y) H step p.2 (L6 q p.1)/\IG step p.2 (L6 q p.1)=IG step g (L6 q q.length)) (λp=>p.1) ((q.length,g)) (⟨Γ _,A,Z⟩) (Zz Qs) ?_))))))));rintro ⟨c,a⟩ ⟨B,u,b⟩;dsimp only at B u b⊢;refine AC (AC (AE (fZ Z Z (J (EJ Z Z Z) (AD (A9 Z (λC=>?_) (λC=>?_)))))))
 .obtain ⟨k,rfl⟩:∃k,c=k+1:=⟨c - 1,by have h:=C;omega⟩
  refine AX (AC (AZ (AC ?_)));have o:k<q.length:=by omega
  obtain ⟨S,R,w⟩:=Uz j o;have t:=ST j w;have z:((k+1:Nat):Int) - 1=(k:Int):=by omega
  rw [z];refine AE (fZ Z Z (fZ Z Z (J (CI Z Z Gp Z) (fZ Z Z (J (WV w (k) Z Z Z o fS MZ Z) (J (nH (f:=40) (e:=k) (off:=0) Z (by omega) (P a) t (A5 o) Z OO Z) ?_))))));rw [<-FC 0 o];refine TW Z Z u.1 N (FZ λ_ _=>rfl) (x a) (L a) Z Z (λr G ⟨E,D⟩=>by subst E D;exact ⟨x _,Q _,Z⟩) Z λr G ⟨E,D⟩=>?_;subst E D;rw [iC];refine J (Mp Z Z) (AD (Iq Z (λv=>?_) (λv=>?_)))
  .have s:(step a (k,q.getD k 0)).2=false:=by simpa using v
   refine A4 ?_;exact ⟨_,N,_,A2 Z,I _,x _,Z,by rw [<-b];show H _=H (IG step a ((k,q.getD k 0)::L6 q k));rw [EW,θ (by rw [s];decide)]⟩
  .have s:(step a (k,q.getD k 0)).2=true:=by simpa using v
   refine AX (AE (fZ Z Z (J (PS Z Z (Ξ _ (by omega)) Z) (AB Z Z (AD ?_)))));exact ⟨(k,(step a (k,q.getD k 0)).1),⟨by show k<=_;omega,u.2 s,by show IG step (step a (k,q.getD k 0)).1 (L6 q k)=_;rw [<-b];show _=IG step a ((k,q.getD k 0)::L6 q k);rw [EW,ϱ s]⟩,by show k<k+1;omega,⟨Z,Z,λ_ _=>SU.get (l:=[(0,_),(1,_),(3,_)]) Qs⟩⟩
 .refine Aw ?_;exact ⟨_,N,_,A2 Z,I _,x _,Z,by rw [<-b];have e:c=0:=(by have h:=C;omega);rw [e];rfl⟩
end
variable {M:MF}
def gu (N:fv) (i:Nat):Bool:=(N.nd.getD i CQ).on
def XO (N:fv) (x:Nd):Option P1:=if x.on=true then Hz N x else none
def Yl (N:fv) (y:Po):Option P1:=if TN y y.sum=true then (y.q.reverse.find? (gu N)).map λi=>⟨(N.nd.getD i CQ).it.id,0,y.r,-1⟩ else none
def Fk (N:fv):Option P1:=match N.nd.findSome? (XO N) with
 | some e=>some e
 | none=>N.po.findSome? (Yl N)
theorem Ic {g c:Type} {f:g ->Option c}:∀{l:List g} {k:Nat} (i:k<l.length) {b:c},(∀x∈l.take k,f x=none) ->f l[k]=some b ->l.findSome? f=some b
 | a::l,0,_,b,_,h=>by simp at h;rw [List.findSome?_cons,h]
 | a::l,k+1,i,b,j,h=>by
  have s:f a=none:=j a (by simp);have o:=Ic (l:=l) (k:=k) (by simpa using i) (λx r=>j x (by simp [r])) (by simpa using h);rw [List.findSome?_cons,s];exact o
theorem Mh {a b:Type} {f:a ->Option b} {l:List a} (h:∀x∈l,f x=none):l.findSome? f=none:=List.findSome?_eq_none_iff.2 h
def ol:Bool ->LoopState
 | true=> .done
 | false=> .ready
def s7:Bool ->Option Code
 | true=>some .ret
 | false=>none
def IO (N:fv) (_st:Option Nat) (e:Nat×Nat):Option Nat×Bool:=if gu N e.2=true then (some e.2,false) else (none,true)
theorem d9 (N:fv) (q:List Nat):∀n,n<=q.length ->IG (IO N) none (L6 q n)=((q.take n).reverse.find? (gu N))
 | 0,_=>rfl
 | n+1,h=>by
  have a:n<q.length:=by omega
  show IG (IO N) none ((n,q.getD n 0)::L6 q n)=_;rw [EW,ψ a,List.reverse_append,List.reverse_singleton,List.singleton_append,List.find?_cons,FC 0 a];unfold IO;dsimp only
  cases ho:gu N q[n] with
  | true=>rfl
  | false=>exact d9 N q n (by omega)
theorem Xc {P:Program} {l:Nat} {c:Nat ->Nat} {H:Option Nat ->Hp} (N:fv) (q:List Nat) (g:∀k (s:k<q.length),G9 P l (dp c (k,q[k])) (H none) λv i=>v= .d (.raw (.bool (!gu N q[k])))/\i=H (if gu N q[k]=true then some q[k] else none)):∀n,n<=q.length ->Mr P l (dp c) H (IO N) none (L6 q n)
 | 0,_=>trivial
 | n+1,h=>by
  have f:n<q.length:=by omega
  have j:=g n f;show Mr P l (dp c) H (IO N) none ((n,q.getD n 0)::L6 q n);rw [FC 0 f];refine ⟨j.mono λv i ⟨r,o⟩=>⟨by rw [r];unfold IO;cases gu N q[n]<;>rfl,by rw [o];unfold IO;cases gu N q[n]<;>rfl⟩,λa=>?_⟩
  have b:gu N q[n]=false:=by
   cases ho:gu N q[n] with
   | false=>rfl
   | true=>unfold IO at a;dsimp only at a;rw [ho] at a;cases a
  have:(IO N none (n,q[n])).1=none:=by unfold IO;dsimp only;rw [b];rfl
  rw [this];exact Xc N q g n (by omega)
abbrev qU (e:P1):AJ:= .blk 245 [.d (AF e.id),.d (AF e.re),.d (AF e.r.k),.d (Am e.r.acc.o),.d (AF e.r.acc.k),.d (Am e.r.acc.a),.d (Am e.r.f),.d (Am e.r.t),.d (AF e.by_)]
def tN (N:fv) (y:Po) (o:Option Nat):P1:=match o with
 | none=>lz
 | some i=>⟨(N.nd.getD i CQ).it.id,0,y.r,-1⟩
abbrev tm (N:fv) (y:Po) (pbk mv:Nat) (bs:Option (List Nat×Nat)) (L:List (Int×Value)) (M:MF) (o:Option Nat):Hp:=[(1,[qU (tN N y o)]),(2,[.blk 4 [.d (Ah o.isSome)]]),(4,[.blk 186 [.d (BX pbk)]]),(40,[.multi M]),(50,[.map bs (BY AF Lb L)]),(51,[.addr 50 0 (.map (some mv))])]
set_option maxHeartbeats 2000000 in
theorem pQ {wb H:Nat} {nb pb:Nat ->Nat} {N:fv} (O:Option (List Nat×Nat)) (h:CU wb H nb pb N M) (hw:iO N) (hs:Sa N.po 1000000000000000000):
  AO prog 139 [.d (pD wb 0)] (HW H O (GR nb (B4 N)) M) λr H'=>r= .d (tO (Fk N))/\H'=HW H O (GR nb (B4 N)) M:=by
 have hwb:=h.w;have T:BV M N.nh 176 1 ((List.range N.nd.length).map λi=>BX (nb i)):=h.rs.1 .n;have S:BV M N.mh 186 1 ((List.range N.po.length).map λj=>BX (pb j)):=h.rs.1 .m;have hnz:=Um T;have hpz:=Um S;rw [gw] at hnz hpz;have hnl:=hw.n
 obtain ⟨L,hL⟩:∃L,GR nb (B4 N)=L:=⟨_,Z⟩
 have I:=λi x G=>l9 (i:=i) (x:=x) O h hw G;rw [hL] at I⊢;refine PP func139 Z Z ntmps139 Z Z Z λF K hFl=>(AC (AE (V (By 1 J1 Z Z Z Z) (V (By 2 vI Z Z Z Z) (AD (AC (AC (AE ?_))))))));refine fZ Z Z (J (Dg Z Z) (J (C9 Z JL Z Z Z) (J (EE (f:=40) Z Z (hwb) Z Gp Z) (J (WU hnz Z fS Z) (fZ Z Z (AD (AZ (BO (α:=Nat) (λk=>⟨74,[(0,.d (pD wb 0)),(2,(.ptr 1 0 0)),(3,(.ptr 2 0 0)),(15,(.d (fy N.nh N.nd.length))),(16,(.d (AF (N.nd.length:Int)))),(17,(.d (AF (k:Int))))],(1,[qU lz])::(2,[.blk 4 [.d (Ah false)]])::HW H O L M⟩) (λk=>k<=N.nd.length/\∀x∈N.nd.take k,XO N x=none) (λk=>N.nd.length - k) (0) (⟨ζ _,by simp⟩) (AY K [1,2,40,50,51] Z Z No) ?_))))))));rintro k ⟨hk0,w⟩;refine AC (AE (J (BB Z Z Z) (AD (AC (A9 Z (λY=>?_) (λY=>?_))))))
 .have g:k<N.nd.length:=BR Y;refine AX (AC (AZ (AC ?_)))
  obtain ⟨x,G⟩:∃x,N.nd[k]? =some x:=⟨_,ω g⟩
  have R:N.nd[k]=x:=by rw [ω g] at G;injection G
  obtain ⟨E,_,_⟩:=h.nn k x G;obtain ⟨rb,rc,u⟩:=Uz T (j:=k) (by rw [gw];exact g);have t:=ST T u;refine AE (J (WV u (k) Z Z Z g fS MZ Z) (J (nH (f:=40) (e:=k) (off:=0) Z (by omega) Z (t) ((by rw [ν,jM g];rfl)) Z OO Z) ?_));refine AB Z Z (AD (AC ?_));refine AC (AE (fZ Z Z (J (Dg Z Z) (J (C9 Z FP Z Z Z) (J (EE (f:=40) Z Z (E) Z pG Z) (J (Mp Z Z) (AD (Iq Z (λX=>?_) (λX=>?_)))))))))
  .have c:XO N x=none:=by unfold XO;rw [θ (by simpa using X)]
   refine Aw ?_
   try have c:XO N x=none:=by unfold XO;split<;>first | exact hin | rfl
   refine AE (J (Al Z Z (AM (k+1) (by omega)) Z) (fZ Z Z (AD ?_)));exact ⟨k+1,⟨by show k+1<=_;omega,by rw [ψ g];intro e a;rcases υ.1 a with a | a;exact w e a;rw [η.1 a,R];exact c⟩,by show N.nd.length - (k+1)<N.nd.length - k;omega,AY K [1,2,40,50,51] Z (Z) No⟩
  .refine AX (AC (AE (fZ Z Z (fZ Z Z (V (FE (I k x G) Z [40,50,51] ⟨Z,Z,Z,trivial⟩ Z Z Z Z Z Z Z Z Z) ?_)))));refine fZ Z Z (J (Dc Z Z Z) (J (Dc Z Z Z) (V (By 3 J1 Z Z Z Z) (V (B3 Z Z Z Z Z Z Z KB) (AB Z Z (AD (AC (AE ?_))))))))
   cases hin:Hz N x
   .refine fZ Z Z (AD (Cm Z (Z) (AX ?_)))
    try have c:XO N x=none:=by unfold XO;split<;>first | exact hin | rfl
    refine AE (J (Al Z Z (AM (k+1) (by omega)) Z) (fZ Z Z (AD ?_)));exact ⟨k+1,⟨by show k+1<=_;omega,by rw [ψ g];intro e a;rcases υ.1 a with a | a;exact w e a;rw [η.1 a,R];exact c⟩,by show N.nd.length - (k+1)<N.nd.length - k;omega,AY K [1,2,40,50,51] Z (Z) No⟩
   .refine fZ Z Z ?_;refine AD (Bx Z (Z) (AC (AE (J (Ay Z Z n9 Z Z Z) (V (B3 Z Z Z Z Z Z Z KB) (V (B3 Z Z Z Z Z Z Z ru) (AD (A4 ?_))))))));exact ⟨_,[40,50,51],_,A2 Z,Z,Z,by unfold Fk;rw [Ic g w (by rw [R];unfold XO;rw [ϱ (by simpa using X)];exact hin)];rfl,Z⟩
 .refine Aw (AC (AC ?_));have hnn:N.nd.findSome? (XO N)=none:=Mh (by have e:k=N.nd.length:=(by have h:=Y;omega);rw [e,gc] at w;exact w);refine AE ?_;refine fZ Z Z (J (Dg Z Z) (J (C9 Z Kt Z Z Z) (J (EE (f:=40) Z Z (hwb) Z XE Z) (J (WU hpz Z underlying177 Z) (fZ Z Z (AD (AZ (BO (α:=Nat) (λj=>⟨74,[(2,(.ptr 1 0 0)),(3,(.ptr 2 0 0)),(38,(.d (fy N.mh N.po.length))),(39,(.d (AF (N.po.length:Int)))),(40,(.d (AF (j:Int))))],(1,[qU lz])::(2,[.blk 4 [.d (Ah false)]])::HW H O L M⟩) (λj=>j<=N.po.length/\∀y∈N.po.take j,Yl N y=none) (λj=>N.po.length - j) (0) (⟨ζ _,by simp⟩) (AY K [1,2,40,50,51] Z Z F0) ?_))))))));rintro j ⟨hj0,z⟩;refine AC (AE (J (BB Z Z Z) (AD (AC (A9 Z (λW=>?_) (λW=>?_))))))
  .have s:j<N.po.length:=BR W;refine AX (AC (AZ (AC ?_)))
   obtain ⟨y,hy⟩:∃y,N.po[j]? =some y:=⟨_,ω s⟩
   have P:N.po[j]=y:=by rw [ω s] at hy;injection hy
   have C:=ϑ hy;obtain ⟨Q,hyq⟩:=h.pp j y hy;obtain ⟨rb,rc,u⟩:=Uz S (j:=j) (by rw [gw];exact s);have t:=ST S u;have hys:=hs y C;have hov:=M9 h hy y.sum (hw.rm y C) (by omega);have hql:=hw.ql y C;refine AE (J (WV u (j) Z Z Z s underlying177 aa Z) (J (nH (f:=40) (e:=j) (off:=0) Z (by omega) Z (t) ((by rw [ν,jM s];rfl)) Z FA Z) ?_));refine V (By 4 rW Z Z Z Z) (V (B3 Z Z Z Z Z Z Z aa) (AD (AC (AC (CZ [[],[],[1],[1,2],[1,2,3],rg 5,rg 6] mixed Z (CG ?_))))));refine Ao [9] [4] Z Z (λ_=>Ae (AP Z Z Z FA Z)) (Ao [9] [4] Z Z (λ_=>Ae (AP Z Z Z FA Z)) (AU [45] Z (Dg Z Z) (AU [46] Z (C9 Z Kq Z Z Z) (Ao [47] [40] Z Z (λ_=>Ae (EE (f:=40) Z Z (Q) Z GE Z)) (CB 5 Z Z Z (Ad 6 Z Z (V (FE hov Z [40] ⟨Z,trivial⟩ Z Z Z Z Z Z Z Z Z) (AD ⟨Z,?_⟩))))))));refine Ad 7 Z Z ?_
   cases hovy:TN y y.sum
   .refine J (Mp Z Z) (AD ⟨Z,?_⟩);refine CM (Bx Z (Z) (Aw ?_));have b:Yl N y=none:=by unfold Yl;first | (rw [θ (by rw [hovy];decide)]) | (rw [ϱ hovy,<-ho];rfl)
    refine AE (J (Al Z Z (AM (j+1) (by omega)) Z) (fZ Z Z (AD ?_)));exact ⟨j+1,⟨by show j+1<=_;omega,by rw [ψ s];intro e a;rcases υ.1 a with a | a;exact z e a;rw [η.1 a,P];exact b⟩,by show N.po.length - (j+1)<N.po.length - j;omega,AY K [1,2,40,50,51] Z (Z) F0⟩
   .refine J (Mp Z Z) (AD ⟨Z,?_⟩);refine CM (Cm Z (Z) (AX ?_));refine AC (AE (J (AP Z Z Z FA Z) (J (Dg Z Z) (J (C9 Z Hl Z Z Z) (J (EE (f:=40) Z Z (Q) Z Gp Z) (V (FE (ml y.qh y.q.length) Z [] trivial Z Z Z Z Z Z Z Z Z) (AD (AZ ?_))))))));refine fG [2,3,9,38,39,40,55] Z ?_;refine Xt (γ:=Option Nat) hFl 900 Z Z Z Z Z [1,2,4,40,50,51] (CHr:=tm N y (pb j) H O L M none) (λo=>o=y.q.reverse.find? (gu N)) (λo=>tm N y (pb j) H O L M o) (λo=>ol o.isSome) (λo=>s7 o.isSome) No Z Z Z (λ_=>rfl) (λ_=>rfl) Z (λo _=>by cases o<;>simp [ol]) (λ_ _=>⟨Z,Z⟩) [1,2,4,40,50,51] K Z Z (λ_ _=>rfl) (λl A B hA hB=>?_) (λo ho=>?_)
    .refine (mm nb y.q (by omega) hyq l (λo:Option Nat=>(900,[.loop ⟨l,74,[(2,.ptr 1 0 0),(3,.ptr 2 0 0),(9,.ptr 4 0 0),(38,.d (fy N.mh N.po.length)),(39,.d (AF (N.po.length:Int))),(40,.d (AF (j:Int))),(55,.fn db [.d (.ptr (fy y.qh y.q.length))])],ol o.isSome,s7 o.isSome, #[56,57],A,B⟩])::tm N y (pb j) H O L M o) [900,1,2,4,40,50,51] (IO N) none (λ_=>rfl) (λ_=>rfl) (λ_=>rfl) (λ_=>rfl) ?_).mono (λr H' ⟨e1,e2⟩=>⟨e1,_,Z,by rw [e2,d9 N y.q y.q.length (Γ _),gc]⟩);refine Xc N y.q (λk2 hk2=>?_) y.q.length (Γ _);have hni:y.q[k2]<N.nd.length:=h.q y C _ (ξ hk2)
     obtain ⟨x,G⟩:∃x,N.nd[y.q[k2]]? =some x:=⟨_,ω hni⟩
     obtain ⟨E,_,_⟩:=h.nn _ x G;have hgx:N.nd.getD y.q[k2] CQ=x:=by rw [Φ,G];rfl
     have hon:gu N y.q[k2]=x.on:=by unfold gu;rw [hgx]
     refine SY (lf:=900) Z Z Z Z λF K hr=>(CA.code hA (AE (AB Z Z (AD (⟨Z,_,_,Z,Z,Z,Z,?_⟩)))));refine CA.code hB ?_;refine AZ (AC (AE (fZ Z Z (J (Dg Z Z) (J (C9 Z FP Z Z Z) (J (EE (f:=40) Z Z (E) Z pG Z) (AD (Iq Z (λU=>?_) (λU=>?_)))))))))
     .refine AC (CZ [[],[0],[0,1],[0,1,2],[0,1,2,3],[],[5],[5,6],[5,6,7],rg 9,rg 10,rg 11] mixed Z (CG (Av 11 Z Z (AU [62] Z (Dg Z Z) (AU [63] Z (C9 Z GP Z Z Z) (AU [64] Z (C9 Z PQ Z Z Z) ?_))))));refine Ao [65] [40] Z Z (λ_=>Ae (EE (f:=40) Z Z (E) Z An Z)) (Ao [9] [4] Z Z (λ_=>Ae (AP Z Z Z FA Z)) (AU [67] Z (Dg Z Z) (AU [68] Z (C9 Z NV Z Z Z) (Ao [69] [40] Z Z (λ_=>Ae (D2 (f:=40) Z Z (Q) Cc Z Z (by simp [D.one]) Z)) (CB 9 Z Z Z (Ad 10 Z Z (J (FD J1 TL Z Z Z) (AD ⟨Z,?_⟩))))))));refine Ad 11 Z Z (V (B3 Z Z Z Z Z Z Z KB) (AD ⟨Z,?_⟩));refine Ad 12 Z Z (V (B3 Z Z Z Z Z Z Z ru) (AD ⟨Z,?_⟩));refine CM (A4 ?_);have v:gu N y.q[k2]=true:=by rw [hon];simpa using U
      exact ⟨some .ret,_,_,[900,1,2,4,40,50,51],_,Z,Z,Z,Z,Z,Z,by rw [v];rfl,by rw [ϱ v];simp only [tm,tN,hgx];rfl⟩
     .refine AX ?_;have v:gu N y.q[k2]=false:=by rw [hon];simpa using U
      exact ⟨none,_,_,[900,1,2,4,40,50,51],_,Z,Z,Z,Z,Z,Z,by rw [v];rfl,by rw [θ (by rw [v];decide)];rfl⟩
    .rcases o with _ | i0
     .have b:Yl N y=none:=by unfold Yl;first | (rw [θ (by rw [hovy];decide)]) | (rw [ϱ hovy,<-ho];rfl)
      refine AE (J (Al Z Z (AM (j+1) (by omega)) Z) (fZ Z Z (AD ?_)));exact ⟨j+1,⟨by show j+1<=_;omega,by rw [ψ s];intro e a;rcases υ.1 a with a | a;exact z e a;rw [η.1 a,P];exact b⟩,by show N.po.length - (j+1)<N.po.length - j;omega,AY K [1,2,40,50,51] Z (Z) F0⟩
     .show CA _ _ .ret _ _;refine A4 ?_;exact ⟨_,[40,50,51],_,A2 Z,Z,Z,by unfold Fk;rw [hnn];dsimp only;rw [Ic s z (by rw [P];unfold Yl;rw [ϱ hovy,<-ho];rfl)];rfl,Z⟩
  .refine Aw (AC (AE (J (FD J1 TL Z Z Z) (V (B3 Z Z Z Z Z Z Z KB) (V (B3 Z Z Z Z Z Z Z ru) (AD (A4 ?_)))))));exact ⟨_,[40,50,51],_,A2 Z,Z,Z,by unfold Fk;rw [hnn];dsimp only;rw [Mh (by have e:j=N.po.length:=(by have h:=W;omega);rw [e,gc] at z;exact z)];rfl,Z⟩
theorem SR.splitH {F:Fr} {s:AS} {L:Nat ->Nat ->Value} {k:Act} {w:World} (l:SR F s L k w) (t g f:Nat) {T:TypeId} {A m:Nat} {h:Hd} {I:List D} {u:List (Nat×AV)} {c hp':Hp} (C:Nat.beq g f=false)
  (B:get s.env t=some (.d (fy h m))) (Y:m=I.length) (hM:fc s.hp f=some [.multi M]) (j:BV M h T A I) (hE:A8 g s.env=some u) (J:A7 g s.hp=some c) (R:fc c g=none) (E:Bi c f (Be M h)=some hp'):
  ∃v,SR F ⟨s.n,(t,.own g 0 m)::u,(g,[.rowD T A I])::hp'⟩ (upd L g 0 v) k w:=by
 match h,B,j,E with
 | some (b,cap),B,j,E=>exact ⟨_,l.splitR t g f (cap:=cap) (b:=b) C B Y hM j.2 hE J R E⟩
 | none,B,j,E=>
  have S:I=[]:=j;subst S Y;have hgf:g≠f:=im C;refine ⟨.slice none 0 0,?_⟩
  have V:hp'=c:=by
   have P:∀(H z:Hp),fc H f=some [.multi M] ->Bi H f M=some z ->z=H:=by
    intro H
    induction H with
    | nil=>intro z h;cases h
    | cons p r ih=>
     grind [fc,Bi]
   obtain ⟨a1,a2⟩:=BA J
   have W:fc c f=some [.multi M]:=by
    have X:∀(H z:Hp),CS (Bg g) H=some z ->fc H f=some [.multi M] ->fc z f=some [.multi M]:=by
     intro H
     induction H with
     | nil=>intro z _ h;cases h
     | cons p r ih=>
      grind [CS,E8,fc,CR]
    grind
   exact P c hp' W E
  rw [V]
  have h1:SR F ⟨s.n,(t,.d (.sl (some true) []))::s.env,s.hp⟩ L k w:=⟨l.size,l.defs,λN a y=>by
   rcases MU y with ⟨rfl,rfl⟩ | ⟨_,y⟩
   .have j:=l.env t _ B
    generalize k.tmps.getD t undef=x at j⊢
    cases j with
    | d h=>cases h with
     | raw _=>exact .d (.sl 0 (λb G=>by cases G;rfl) (λ_=>rfl) Z (Γ _) (ζ _) (λx U=>by cases U) (λh=>absurd Z h) (λb o G=>by cases G))
   .exact l.env N a y,l.heap⟩
  obtain ⟨k1,k2⟩:=BA J
  have Q:∀i,fb s.hp g i=none:=λi=>by
   cases hq:fb s.hp g i with
   | none=>rfl
   | some o=>
    obtain ⟨o2,O,_⟩:=k2 _ _ _ hq;unfold fb at O;rw [R] at O;cases O
  have K:=l.set g 0 (.rowD T A []) (.slice none 0 0) (hp':=(g,[.rowD T A []])::c) hE J (λf' i=>by
   by_cases e:g=f'
   .subst e;simp only [fb,fc,iU,jR,true_and,Lw (o:= .rowD T A []) Z,R,Option.bind_none]
    cases i<;>simp
   .simp only [fb,fc,IH e]
    rw [θ (λhh=>e hh.1.symm)]) (λt cs e=>by rw [Q] at e;cases e) (λb G=>nomatch G) Z Z Z (Γ _) (λ_ _ _=>rfl) (λ_=>⟨[],World.ownsRow_nil w 0 T A,⟨by simp,by simp,λi x U=>by simp at U⟩,by simp⟩)
  refine ⟨K.size,K.defs,λN a y=>?_,K.heap⟩;rcases MU y with ⟨rfl,rfl⟩ | ⟨_,y⟩
  .have j:=l.env t _ B
   generalize k.tmps.getD t undef=x at j⊢
   cases j with
   | d h=>cases h with | raw _=>exact .own Pn (Γ _)
  .exact K.env N a y
section
variable {P:Program} {F:Fr} {Q:Exit ->AS ->Prop} {c:Code} {ops:Array Oper} {l:List Oper} {n:Nat} {env env1 env':List (Nat×AV)} {hp hp1 hp2 hp3:Hp}
theorem HT {o:Oper} (t g f:Nat) {M:MF} {T:TypeId} {y m:Nat} {h:Hd} {r:List D} {b:Hp} {x:AS} (C:BV M h T y r) (s:Nat.beq g f=false) (A:get env t=some (.d (fy h m))) (E:m=r.length) (H:fc hp f=some [.multi M]) (J:A8 g env=some env') (I:A7 g hp=some hp1) (z:fc hp1 g=none) (G:Bi hp1 f (Be M h)=some b)
  (N:AH P F o ⟨n,(t,.own g 0 m)::env',(g,[.rowD T y r])::b⟩ x (Bg g)):AH P F o ⟨n,env,hp⟩ x (Bg g):=λR u w B=>by
 obtain ⟨v,O⟩:=B.splitH t g f s A E H C J I z G;exact nI (λa S ⟨k,L,K⟩=>⟨k,L,λf i j=>(K f i j).trans (Nb λe=>SK j e.1)⟩) (N _ u w O)
end
variable {a c:Nat ->Nat} {N:fv} {M:MF} {f g i h:Nat} {x:Nd} {j:List D} {t:TypeId} {k o s:Nat} {y:Po} {u:Ak} {w:MF}
theorem CU.row {N':fv} (i:CU f g c a N M) (k:RI) {w0 w1:gB} (B:Ca c a N k=w0) (A:Ca c a N' k=w1) (y:∀r,r≠k ->Ca c a N' r=Ca c a N r) (u:Be M w0.h h=none) (z:w1.h=some (h,o)) (w:w1.xs.length<=o):
  FF (BZ (Be M w0.h) h (.row w1.t w1.k o w1.xs)) (Ca c a N')/\∀(s:Nat) (t:TypeId) (l:List D),M s=some (.cells t l) ->BZ (Be M w0.h) h (.row w1.t w1.k o w1.xs) s=some (.cells t l):=by
 subst B A;refine ⟨i.rs.upd k y u z w,λs t l v=>i3 u v λj x=>?_⟩;have:=i.rs.blk x
 grind
theorem CU.putNd (h:CU f g c a N M) {l:Nd} (C:N.nd[i]? =some x) (E:∀(F:Nat) (t:TypeId) (s:List D),M F=some (.cells t s) ->w F=some (.cells t s)) (G:FF w (Ca c a {N with nd:=N.nd.set i l})) (J:(∀e∈l.ef,e.1<N.po.length)/\∀e∈l.pl,e.1<N.po.length):
  CU f g c a {N with nd:=N.nd.set i l} (BZ w (c i) (Uv l)):=by
 have K:=h.n i x C;have B:=(φ.1 C).1
 have u:∀(b:Nat) (t:TypeId) (s:List D),t≠184 ->M b=some (.cells t s) ->BZ w (c i) (Uv l) b=some (.cells t s):=λb t s O P=>by
  grind [Hu]
 refine ⟨λj z r=>?_,λj y v=>u _ _ _ (by decide) (h.p j y v),G.cells (E _ _ _ K),?_,λj k I H=>h.ni j k (by simpa using I) (by simpa using H),h.pi,λz r=>?_,λy v=>?_⟩
 .have o:(N.nd.set i l)[j]? =some z:=r
  clear r
  have A:j<N.nd.length:=by have:=(φ.1 o).1;rw [gp] at this;exact this
  rw [jm] at o
  split at o
  .grind [Fu]
  .rename_i e
   rw [Hu]
   .exact E _ _ _ (h.n j z o)
   .intro L;exact e (h.ni j i A B L).symm
 .show BZ w (c i) (Uv l) f=some (.cells _ [fy N.nh (N.nd.set i l).length,fy N.mh N.po.length,_]);rw [gp];exact u _ _ _ (by decide) h.w
 .rcases jl r with r | rfl
  .exact h.e z r
  .exact J
 .have:=h.q y v
  simpa using this
theorem CU.putPo (h:CU f g c a N M) {r:Po} (E:N.po[k]? =some y) (F:∀(G:Nat) (t:TypeId) (u:List D),M G=some (.cells t u) ->w G=some (.cells t u)) (H:FF w (Ca c a {N with po:=N.po.set k r})) (I:∀i∈r.q,i<N.nd.length):
  CU f g c a {N with po:=N.po.set k r} (BZ w (a k) (Uu r)):=by
 have L:=h.p k y E;have B:=(φ.1 E).1
 have v:∀(b:Nat) (t:TypeId) (u:List D),t≠190 ->M b=some (.cells t u) ->BZ w (a k) (Uu r) b=some (.cells t u):=λb t u P Q=>by
  grind [Hu]
 refine ⟨λi x A=>v _ _ _ (by decide) (h.n i x A),λi z s=>?_,H.cells (F _ _ _ L),?_,h.ni,λi l K J=>h.pi i l (by simpa using K) (by simpa using J),λx A=>?_,λz s=>?_⟩
 .have o:(N.po.set k r)[i]? =some z:=s
  clear s
  have C:i<N.po.length:=by have:=(φ.1 o).1;rw [gp] at this;exact this
  rw [jm] at o
  split at o
  .grind [Fu]
  .rename_i e
   rw [Hu]
   .exact F _ _ _ (h.p i z o)
   .intro O;exact e (h.pi i k C B O).symm
 .show BZ w (a k) (Uu r) f=some (.cells _ [fy N.nh N.nd.length,fy N.mh (N.po.set k r).length,_]);rw [gp];exact v _ _ _ (by decide) h.w
 .have:=h.e x A
  simpa using this
 .rcases jl s with s | rfl
  .exact h.q z s
  .exact I
abbrev qV:TypeId:=188
abbrev pA:TypeId:=254
abbrev bj:TypeId:=176
abbrev Wq:TypeId:=186
def Ft (x:Nd) (b cap:Nat) (e:Nat×Int):Nd:={x with eh:=some (b,cap),ef:=x.ef++ [e]}
def Ip (x:Nd) (b cap:Nat) (e:Nat×Nat):Nd:={x with ph:=some (b,cap),pl:=x.pl++ [e]}
def LK (y:Po) (b cap:Nat) (i:Nat):Po:={y with qh:=some (b,cap),q:=y.q++ [i]}
theorem CU.addE (l:CU f g c a N M) (t:N.nd[i]? =some x) (e:Nat×Int) (y:e.1<N.po.length) (A:Be M x.eh h=none) (w:((x.ef++ [e]).map (dq a)).length<=o):
  CU f g c a {N with nd:=N.nd.set i (Ft x h o e)} (BZ (BZ (Be M x.eh) h (.row qV 2 o ((x.ef++ [e]).map (dq a)))) (c i) (Uv (Ft x h o e))):=by
 have s:=(φ.1 t).1
 obtain ⟨C,B⟩:=l.row (N':={N with nd:=N.nd.set i (Ft x h o e)}) (.e i) (w0:=⟨x.eh,qV,2,x.ef.map (dq a)⟩) (w1:=⟨some (h,o),qV,2,(x.ef++ [e]).map (dq a)⟩)
  (by show (⟨(N.nd.getD i CQ).eh,_,_,(N.nd.getD i CQ).ef.map _⟩:gB)=_;rw [He t])
  (by show (⟨((N.nd.set i (Ft x h o e)).getD i CQ).eh,_,_,((N.nd.set i (Ft x h o e)).getD i CQ).ef.map _⟩:gB)=_;rw [Em s,ϱ rfl];rfl)
  (λr v=>by
   cases r with
   | q j=>rfl
   | m=>rfl
   | n=>show (⟨_,_,_,(List.range (N.nd.set i (Ft x h o e)).length).map _⟩:gB)=_;rw [gp];rfl
   | e k=>
    show (⟨((N.nd.set i (Ft x h o e)).getD k CQ).eh,_,_,((N.nd.set i (Ft x h o e)).getD k CQ).ef.map _⟩:gB)=⟨(N.nd.getD k CQ).eh,_,_,(N.nd.getD k CQ).ef.map _⟩
    rw [Em s,θ (λe=>v (by rw [e]))]
   | p k=>
    show (⟨((N.nd.set i (Ft x h o e)).getD k CQ).ph,_,_,((N.nd.set i (Ft x h o e)).getD k CQ).pl.map _⟩:gB)=⟨(N.nd.getD k CQ).ph,_,_,(N.nd.getD k CQ).pl.map _⟩
    rw [Em s,Q7 t k CQ]
    split<;>rfl) A Z w
 refine l.putNd t B C ⟨λz u=>?_,(l.e x (ϑ t)).2⟩;rcases υ.1 u with u | u
 .exact (l.e x (ϑ t)).1 z u
 .rw [η.1 u];exact y
theorem CU.addP (l:CU f g c a N M) (t:N.nd[i]? =some x) (e:Nat×Nat) (y:e.1<N.po.length) (A:Be M x.ph h=none) (w:((x.pl++ [e]).map (jx a)).length<=o):
  CU f g c a {N with nd:=N.nd.set i (Ip x h o e)} (BZ (BZ (Be M x.ph) h (.row pA 2 o ((x.pl++ [e]).map (jx a)))) (c i) (Uv (Ip x h o e))):=by
 have s:=(φ.1 t).1
 obtain ⟨C,B⟩:=l.row (N':={N with nd:=N.nd.set i (Ip x h o e)}) (.p i) (w0:=⟨x.ph,pA,2,x.pl.map (jx a)⟩) (w1:=⟨some (h,o),pA,2,(x.pl++ [e]).map (jx a)⟩)
  (by show (⟨(N.nd.getD i CQ).ph,_,_,(N.nd.getD i CQ).pl.map _⟩:gB)=_;rw [He t])
  (by show (⟨((N.nd.set i (Ip x h o e)).getD i CQ).ph,_,_,((N.nd.set i (Ip x h o e)).getD i CQ).pl.map _⟩:gB)=_;rw [Em s,ϱ rfl];rfl)
  (λr v=>by
   cases r with
   | q j=>rfl
   | m=>rfl
   | n=>show (⟨_,_,_,(List.range (N.nd.set i (Ip x h o e)).length).map _⟩:gB)=_;rw [gp];rfl
   | p k=>
    show (⟨((N.nd.set i (Ip x h o e)).getD k CQ).ph,_,_,((N.nd.set i (Ip x h o e)).getD k CQ).pl.map _⟩:gB)=⟨(N.nd.getD k CQ).ph,_,_,(N.nd.getD k CQ).pl.map _⟩
    rw [Em s,θ (λe=>v (by rw [e]))]
   | e k=>
    show (⟨((N.nd.set i (Ip x h o e)).getD k CQ).eh,_,_,((N.nd.set i (Ip x h o e)).getD k CQ).ef.map _⟩:gB)=⟨(N.nd.getD k CQ).eh,_,_,(N.nd.getD k CQ).ef.map _⟩
    rw [Em s,Q7 t k CQ]
    split<;>rfl) A Z w
 refine l.putNd t B C ⟨(l.e x (ϑ t)).1,λz u=>?_⟩;rcases υ.1 u with u | u
 .exact (l.e x (ϑ t)).2 z u
 .rw [η.1 u];exact y
theorem CU.addQ (s:CU f g c a N M) (v:N.po[k]? =some y) {i:Nat} (A:i<N.nd.length) (B:Be M y.qh h=none) (x:((y.q++ [i]).map λi=>BX (c i)).length<=o):
  CU f g c a {N with po:=N.po.set k (LK y h o i)} (BZ (BZ (Be M y.qh) h (.row bj 1 o ((y.q++ [i]).map λi=>BX (c i)))) (a k) (Uu (LK y h o i))):=by
 have u:=(φ.1 v).1
 obtain ⟨D,C⟩:=s.row (N':={N with po:=N.po.set k (LK y h o i)}) (.q k) (w0:=⟨y.qh,bj,1,y.q.map λi=>BX (c i)⟩) (w1:=⟨some (h,o),bj,1,(y.q++ [i]).map λi=>BX (c i)⟩)
  (by show (⟨(N.po.getD k Ce).qh,_,_,(N.po.getD k Ce).q.map _⟩:gB)=_;rw [He v])
  (by show (⟨((N.po.set k (LK y h o i)).getD k Ce).qh,_,_,((N.po.set k (LK y h o i)).getD k Ce).q.map _⟩:gB)=_;rw [Em u,ϱ rfl];rfl)
  (λr w=>by
   cases r with
   | e l=>rfl
   | p l=>rfl
   | n=>rfl
   | m=>show (⟨_,_,_,(List.range (N.po.set k (LK y h o i)).length).map _⟩:gB)=_;rw [gp];rfl
   | q l=>
    show (⟨((N.po.set k (LK y h o i)).getD l Ce).qh,_,_,((N.po.set k (LK y h o i)).getD l Ce).q.map _⟩:gB)=⟨(N.po.getD l Ce).qh,_,_,(N.po.getD l Ce).q.map _⟩
    rw [Em u,θ (λe=>w (by rw [e]))]) B Z x
 refine s.putPo v C D λz t=>?_;rcases υ.1 t with t | t
 .exact s.q y (ϑ v) z t
 .rw [η.1 t];exact A
def Ez (x:Nd):Nd:={x with eh:=none,ph:=none}
def Cd (y:Po):Po:={y with qh:=none}
def BG (N:fv):fv:=⟨N.nd.map Ez,N.po.map Cd,none,none⟩
def pw (x:Nd) (j:Nat) (n:Nat) (a:Int):Nd:={x with ef:=x.ef++ [(j,a)],pl:=if a<0 then x.pl++ [(j,n)] else x.pl}
def pv (y:Po) (i:Nat) (a:Int):Po:={y with sum:=y.sum+a,q:=if a<0 then y.q++ [i] else y.q}
theorem CU.keepE (k:CU f g c a N M) (r:N.nd[i]? =some x) (y:Be M x.eh h=none) (o:M s=some (.cells t j)):BZ (Be M x.eh) h u s=some (.cells t j):=
 i3 y o λl w=>by have:=ST (k.nn i x r).2.1 w;rw [o] at this;cases this
theorem CU.keepP (k:CU f g c a N M) (r:N.nd[i]? =some x) (y:Be M x.ph h=none) (o:M s=some (.cells t j)):BZ (Be M x.ph) h u s=some (.cells t j):=
 i3 y o λl w=>by have:=ST (k.nn i x r).2.2 w;rw [o] at this;cases this
theorem CU.keepQ (i:CU f g c a N M) (r:N.po[k]? =some y) (x:Be M y.qh h=none) (o:M s=some (.cells t j)):BZ (Be M y.qh) h u s=some (.cells t j):=
 i3 x o λl w=>by have:=ST (i.pp k y r).2 w;rw [o] at this;cases this
set_option maxHeartbeats 1000000 in
theorem pt {Y mv:Nat} {L v:Nat ->Nat} {N:fv} {M:MF} (h:CU Y mv L v N M) {i j:Nat} {x:Nd} {y:Po} (u:N.nd[i]? =some x) (O:N.po[j]? =some y) (a:Int) (ha: -100000000000000000<=a/\a<=100000000000000000) (hs: -1000000000000000000<=y.sum/\y.sum<=1000000000000000000) (he:x.ef.length<=100000) (hp:x.pl.length<=100000) (hq:y.q.length<=100000):
  AO prog 144 [.d (pD (L i) 0),.d (pD (v j) 0),.d (AF a)] (HN M) λr H'=>r= .tup []/\∃K M',H'=HN M'/\CU Y mv L v K M'/\K.nh=N.nh/\K.mh=N.mh/\(∃X,K.nd=N.nd.set i X/\Ez X=Ez (pw x j y.q.length a))/\∃y',K.po=N.po.set j y'/\Cd y'=Cd (pv y i a):=by
 have A:=h.n i x u;have P:=(h.nn i x u).2.1;have hrp:=(h.nn i x u).2.2;have D:=(φ.1 u).1;have t:=(φ.1 O).1;have Q:=Um (h.pp j y O).2;refine At func144 Z Z ntmps144 Z Z Z λF W=>?_;refine AC (AE (fZ Z Z (fZ Z Z (J (Dg Z Z) (J (C9 Z Ks Z Z Z) (J (EE (f:=40) Z Z (A) Z XC Z) (fZ Z Z (fZ Z Z ?_))))))));refine J (FD aH s0 Z Z Z) (V (C5 1 n7 Z Z Z Z Z Z Z Z) (V (HT 10 60 40 P Z Z (by simp) Z Z Z Z Z (F2 (emb:=dq v) x.ef [(j,a)] Z Z Z Z Z Z Z Z n7 (by simp only [ς];omega) Z Z Z Z)) (FX 15 60 40 W Z Z Z (by simp) (by simp) Z Z Z Z Z Z Z (λ_ _=>rfl) λb1 c1 H T=>(J (Dg Z Z) (J (C9 Z Ks Z Z Z) (V (Pk (f:=40) Z Z Z Z (h.keepE u H A) ((by show _<9;omega)) Z sA) (AD (AC ?_))))))));have I:=h.addE u (j,a) t H T;have w:=I.p j y O;refine AE (fZ Z Z (J (Dg Z Z) ?_));refine J (C9 Z Kq Z Z Z) (J (EE (f:=40) Z Z (w) Z GE Z) (fZ Z Z (J (Al Z Z (Ξ _ (by omega)) Z) (J (Dg Z Z) (J (C9 Z Kq Z Z Z) (V (Pk (f:=40) Z Z Z Z (w) ((by show _<10;omega)) Z uF) (AD (AC ?_))))))));have b:=I.setPo (y':={y with sum:=y.sum+a}) O Z Z;have k:(N.nd.set i (Ft x b1 c1 (j,a)))[i]? =some (Ft x b1 c1 (j,a)):=List.getElem?_set_self D;have c:(N.po.set j {y with sum:=y.sum+a})[j]? =some {y with sum:=y.sum+a}:=List.getElem?_set_self t;have s:=b.n i _ k;have z:=b.p j _ c;have C:=(b.nn i _ k).2.2;refine AE (fZ Z Z (J (BB Z Z Z) (AD (A9 Z (λg=>?_) (λg=>?_)))))
 .refine AC (CZ [[],[],[1],[1,2],[1,2,3],[],[],[6],[6,7],[6,7,8],[6,7,8,9],[5,6,7,8,9,10],[5,6,7,8,9,10,11],[1,2,3,4,5,6,7,8,9,10,11,12],rg 14,rg 15,rg 16] mixed Z (CG (Av 0 Z Z ?_)));refine Av 0 Z Z (AU [29] Z (Dg Z Z) (AU [30] Z (C9 Z Kr Z Z Z) (Ao [31] [40] Z Z (λ_=>Ae (EE (f:=40) Z Z (s) Z XB Z)) (Av 1 Z Z (Av 1 Z Z (AU [34] Z (Dg Z Z) (AU [35] Z (C9 Z Hl Z Z Z) (Ao [36] [40] Z Z (λ_=>Ae (EE (f:=40) Z Z (z) Z Gp Z)) ?_))))))));refine AU [37] Z (WU Q Z fS Z) (AU [33,38] Z (FD WZ sU Z Z Z) (HC [39] [2] [(40,_)] Z Z (λ_=>HD (C5 2 n5 Z Z Z Z Z Z Z Z)) (.inr ⟨40,_,Z,Z,Z,Z,Z⟩) Z Z Z Z Z (HC [32,40] [61,40,2] [(41,_)] Z Z (λ_=>HD (HT 32 61 40 C Z Z (by simp [Ft]) Z Z Z Z Z (F2 (emb:=jx v) x.pl [(j,y.q.length)] Z Z Z Z Z Z Z Z n5 (by simp only [ς];omega) Z Z Z Z))) (.inr ⟨41,_,Z,Z,Z,Z,Z⟩) Z Z Z Z Z (CB 14 Z Z Z (Ad 15 Z Z (FX 41 61 40 W Z Z Z (by simp) (by simp) Z Z Z Z Z Z Z (λ_ _=>rfl) λb2 c2 G S=>(J (Dg Z Z) (AD ⟨Z,?_⟩))))))));refine Ad 16 Z Z (J (C9 Z Kr Z Z Z) (AD ⟨Z,?_⟩));refine Ad 17 Z Z (V (Pk (f:=40) Z Z Z Z (b.keepP k G s) ((by show _<9;omega)) Z rz) (AD ⟨Z,?_⟩));refine CM ?_;have l:=b.addP k (j,y.q.length) (by show j<(N.po.set j _).length;rw [gp];exact t) G S;have o:=l.p j _ c;have B:=(l.pp j _ c).2;refine AE (fZ Z Z (fZ Z Z (J (Dg Z Z) (J (C9 Z Hl Z Z Z) ?_))));refine J (EE (f:=40) Z Z (o) Z Gp Z) (fZ Z Z (V (C5 3 Wl Z Z Z Z Z Z Z Z) (V (HT 48 62 40 B Z Z (by simp) Z Z Z Z Z (F2 (emb:=λi=>BX (L i)) y.q [i] Z Z Z Z Z Z Z Z Wl (by simp only [ς];omega) Z Z Z Z)) (FX 51 62 40 W Z Z Z (by simp) (by simp) Z Z Z Z Z Z Z (λ_ _=>rfl) λb3 c3 E R=>(J (Dg Z Z) (J (C9 Z Hl Z Z Z) (V (Pk (f:=40) Z Z Z Z (l.keepQ c E o) ((by show _<10;omega)) Z nW) (AD ?_))))))));have U:=l.addQ c (i:=i) (by show i<((N.nd.set i _).set i _).length;rw [gp,gp];exact D) E R;exact ⟨_,[40],_,A2 Z,Z,Z,Z,_,_,Z,U,Z,Z,⟨_,List.set_set _,by unfold Ez Ip Ft pw;simp [g]⟩,⟨_,List.set_set _,by unfold Cd LK pv;simp [g]⟩⟩
 .refine AX ?_;exact ⟨_,[40],_,A2 Z,Z,Z,Z,_,_,Z,b,Z,Z,⟨_,Z,by unfold Ez Ft pw;simp [g]⟩,⟨_,Z,by unfold Cd pv;simp [g]⟩⟩
end Go.Proofs.YteifpcnphnhaoaaGreat
