import Derived.Test.YtnkkaeblokdifaaGreatMg18
open Go.Proofs.Tryz
set_option maxHeartbeats 2000000
namespace Go.Proofs.YtnkkaeblokdifaaGreat
open Go.RowKit
variable {M:MF} {a:Type} {c:List a} {f g:Nat ->Nat} {h:List (AO×Int)} {i j k o:Nat} {s:List cw} {t:Nat} {u:AG} {x:a} {w:TypeId} {z:List D} {A:TypeId} {B:Nat} {C:AO} {F:Type} {G:A7}
set_option maxRecDepth 100000
def Gy (ids l:List Int) (k:Nat):Int:=if l.getD k 0∉ids then 9 else if l.getD k 0∈l.take k then 7 else 0
def Pv (ids l:List Int):Int:=B7 ((List.range l.length).map (Gy ids l))
def DQ (p:dG) (l:List Int):Int:=if Ai p≠0 then Ai p else Pv (p.it.map AG.id) l
theorem Pu {a l:List Int} (h:Pv a l=0):l.Nodup/\∀x∈l,x∈a:=by
 have c:=Pc.1 h;refine ⟨fR.2 λi j k b g e=>?_,λx f=>?_⟩
 .have:=c j (Γ.2 b)
  grind [Gy,gg]
 .obtain ⟨j,b,rfl⟩:=eQ f;have:=c j (Γ.2 b)
  grind [Gy]
theorem Uk (p:dG) (l:List Int) (C:EP p) (H:l.length<=100000) (w:DQ p l≠0):AM prog 89 [.d (CM p),.d (.sl none (l.map AF))] (.tup [.raw (.map none),AF (DQ p l)]):=by
 have c:=Fz p C;have E:=C.2.1
 by_cases t:Ai p=0
 .have o:=WY (JA t).2.1;rw [t] at c;have y:DQ p l=Pv (p.it.map AG.id) l:=η (λh=>h t);rw [y] at w⊢
  obtain ⟨G,s⟩:∃e,Pv (p.it.map AG.id) l=e:=⟨_,Z⟩
  rw [s] at w⊢;refine Av func89 Z Z ntmps89 Z Z Z λF r=>(AC (AE (V (CQ 1 Z Z Z Z Z Z Z) (AB Z Z (AB Z Z (AD (AC (AC ?_))))))));refine AE (J (B1 Z Z Bc Z Z Z) (J (B5 (c) Z Z) (AB Z Z (AD (AC (AE (cl Z Z (J (EO Z Z Z) ?_))))))));refine AD (EV Z ((by decide)) (AZ (AC (AE (V (Pd 2 Z Z Z Z) (AB Z Z (AD (AC ?_))))))));refine AC (AE (J (A1 Z EM Z Z Z) (J (A5 Z Z Z K6 Z) (J (CV Z F0 Z) (cl Z Z (AD (A2 (Bb (α:=Nat) (λk=>⟨50,[(1,.d (.sl none (l.map AF))),(7,(.map 2 0)),(20,(.d (.sl none (p.it.map Ap)))),(21,(.d (AF (p.it.length:Int)))),(22,(.d (AF (k:Int))))],[(2,[BD AF Ac (BB ((p.it.take k).map AG.id))])]⟩) (λk=>k<=p.it.length) (λk=>p.it.length - k) (0) (ϱ _) (A0 r [2] Z Z ⟨Z,Z,Z,Z,Z,trivial⟩) ?_))))))));rintro k v;refine AC (AE (J (BW Z Z Z) (AD (AC (Ah Z (λi=>?_) (λi=>?_))))))
  .have a:k<p.it.length:=Bi i;refine AZ (AC (A2 (AC (AE ?_))));have u:p.it[k].id∉(p.it.take k).map AG.id:=λh=>by rw [List.Nodup,ep,fR] at o;obtain ⟨x,D,e⟩:=υ.1 h;obtain ⟨j,I,rfl⟩:=gg.1 D;exact o j k (by omega) a (by omega) e
   refine J (Bq (k) Z Z (Z) (Aq a) F0 Z Cu Z) (J (IX Z Z Bs Z) (V (CE 3 Fc Z Z Z Z) (V (Bk Z Z Z Z Z Z Z Cu) (AD (AE ?_)))));refine cl Z Z (J (A1 Z Ny Z Z Z) (J (A5 Z Z Z BE Z) (V (Tc (BB ((p.it.take k).map AG.id)) (p.it[k].id) (true) Z Z Z ET HI Z Z) (AD (AE (J (Aw Z Z (AQ (k+1) (by omega)) Z) (cl Z Z (AD ?_))))))));exact ⟨k+1,by show k+1<=_;omega,by show p.it.length - (k+1)<p.it.length - k;omega,A0 r [2] Z (by rw [D0 a,<-cb u];rfl) ⟨Z,Z,Z,Z,Z,trivial⟩⟩
  .refine BL (AC ?_);rw [ς (show p.it.length<=k by have h:=i;omega)];refine AE (V (Pd 4 Z Z Z Z) (AB Z Z (AD ?_)));refine AC (AC (AE (cl Z Z (J (CV Z E0 Z) (cl Z Z (AD (A2 (Bb (α:=Nat) (λk=>⟨50,[(7,(.map 2 0)),(10,(.map 4 0)),(31,(.d (.sl none (l.map AF)))),(32,(.d (AF (l.length:Int)))),(33,(.d (AF (k:Int))))],[(2,[BD AF Ac (BB (p.it.map AG.id))]),(4,[BD AF Ac (BB (l.take k))])]⟩) (λk=>k<=l.length/\G=B7 (((List.range l.length).drop k).map (Gy (p.it.map AG.id) l))) (λk=>l.length - k) (0) (⟨ϱ _,s.symm⟩) (A0 r [2,4] Z Z ⟨Z,Z,Z,Z,Z,trivial⟩) ?_))))))));rintro k ⟨v,B⟩;refine AC (AE (J (BW Z Z Z) (AD (AC (Ah Z (λg=>?_) (λg=>?_))))))
   .have a:k<l.length:=Bi g;refine AZ (AC (A2 (AC (AE ?_))));have f:=EB a B;have b:=DW 0 a;refine J (Bq (k) Z Z (Z) (Aq a) E0 Z B4 Z) (J (EJ Z Z BE Z) ?_);refine AB Z Z (AD (AC (A2 (AC (AE (cl Z Z (cl Z Z (J (HO (BB (p.it.map AG.id)) (l[k]) (false) _ Z Z Z ET HI T5 Z Z) ?_))))))));rw [W4];refine J (O2 Z Z) (AB Z Z (AD (Ah Z (λA=>?_) (λA=>?_))))
    .refine AC (AE (AB Z Z (AB Z Z (AD (A6 ?_)))));exact ⟨_,[],[],A4 Z,Z,Z,by rw [f.2 9 (by unfold Gy;rw [b,ϖ (by simp_all)]) (by decide)],Z⟩
    .refine AC (AE (cl Z Z (cl Z Z (J (HO (BB (l.take k)) (l[k]) (false) _ Z Z Z ET HI T5 Z Z) ?_))));rw [W4];refine AB Z Z (AD (Ah Z (λz=>?_) (λz=>?_)))
     .refine AC (AE (AB Z Z (AB Z Z (AD (A6 ?_)))));exact ⟨_,[],[],A4 Z,Z,Z,by rw [f.2 7 (by unfold Gy;rw [b,η (by simp_all),ϖ (by simp_all)]) (by decide)],Z⟩
     .refine AZ ?_;refine AE (cl Z Z (cl Z Z (V (Tc (BB (l.take k)) (l[k]) (true) Z Z Z ET HI Z Z) (AD (AE (J (Aw Z Z (AQ (k+1) (by omega)) Z) (cl Z Z (AD ?_))))))));exact ⟨k+1,⟨by show k+1<=_;omega,f.1 (by unfold Gy;rw [b,η (by simp_all),η (by simp_all)])⟩,by show l.length - (k+1)<l.length - k;omega,A0 r [2,4] Z (by rw [φ a,<-cb (by simp_all)];rfl) ⟨Z,Z,Z,Z,Z,trivial⟩⟩
   .refine BL (AC (AE (cl Z Z (AB Z Z (AB Z Z (AD (A6 ?_)))))));exact absurd (by rw [B,List.drop_of_length_le (by have h:=g;simp only [eT];omega)];rfl) w
 .have y:DQ p l=Ai p:=ϖ t;rw [y];refine Av func89 Z Z ntmps89 Z Z Z λF r=>(AC (AE (V (CQ 1 Z Z Z Z Z Z Z) (AB Z Z (AB Z Z (AD (AC (AC ?_))))))));refine AE (J (B1 Z Z Bc Z Z Z) (J (B5 (c) Z Z) (AB Z Z (AD (AC (AE (cl Z Z (J (EO Z Z Z) ?_))))))));refine AD (Dt Z ((dm t)) (AC (AE (cl Z Z (AB Z Z (AB Z Z (AD (A6 ?_))))))));exact ⟨_,[],[],A4 Z,Z,Z,Z,Z⟩
theorem YE (p:dG) (l:List Int) (A:EP p) (K:l.length<=100000) (c:DQ p l=0):AK prog 89 [.d (CM p),.d (.sl none (l.map AF))] [] λr H=>r= .tup [.map 4 0,.d (AF 0)]/\H=[(4,[BD AF Ac (BB l)])]:=by
 have s:=Fz p A;have E:=A.2.1
 have z:Ai p=0:=by
  unfold DQ at c;split at c
  .exact c
  .rename_i h;simpa using h
 have i:=WY (JA z).2.1;rw [z] at s;have G:DQ p l=Pv (p.it.map AG.id) l:=η (λh=>h z);rw [G] at c;refine Av func89 Z Z ntmps89 Z Z Z λF t=>(AC (AE (V (CQ 1 Z Z Z Z Z Z Z) (AB Z Z (AB Z Z (AD (AC (AC ?_))))))));refine AE (J (B1 Z Z Bc Z Z Z) (J (B5 (s) Z Z) (AB Z Z (AD (AC (AE (cl Z Z (J (EO Z Z Z) ?_))))))));refine AD (EV Z ((by decide)) (AZ (AC (AE (V (Pd 2 Z Z Z Z) (AB Z Z (AD (AC ?_))))))));refine AC (AE (J (A1 Z EM Z Z Z) (J (A5 Z Z Z K6 Z) (J (CV Z F0 Z) (cl Z Z (AD (A2 (Bb (α:=Nat) (λk=>⟨50,[(1,.d (.sl none (l.map AF))),(7,(.map 2 0)),(20,(.d (.sl none (p.it.map Ap)))),(21,(.d (AF (p.it.length:Int)))),(22,(.d (AF (k:Int))))],[(2,[BD AF Ac (BB ((p.it.take k).map AG.id))])]⟩) (λk=>k<=p.it.length) (λk=>p.it.length - k) (0) (ϱ _) (A0 t [2] Z Z ⟨Z,Z,Z,Z,Z,trivial⟩) ?_))))))));rintro k u;refine AC (AE (J (BW Z Z Z) (AD (AC (Ah Z (λg=>?_) (λg=>?_))))))
 .have a:k<p.it.length:=Bi g;refine AZ (AC (A2 (AC (AE ?_))));have b:p.it[k].id∉(p.it.take k).map AG.id:=λh=>by rw [List.Nodup,ep,fR] at i;obtain ⟨x,B,e⟩:=υ.1 h;obtain ⟨j,C,rfl⟩:=gg.1 B;exact i j k (by omega) a (by omega) e
  refine J (Bq (k) Z Z (Z) (Aq a) F0 Z Cu Z) (J (IX Z Z Bs Z) (V (CE 3 Fc Z Z Z Z) (V (Bk Z Z Z Z Z Z Z Cu) (AD (AE ?_)))));refine cl Z Z (J (A1 Z Ny Z Z Z) (J (A5 Z Z Z BE Z) (V (Tc (BB ((p.it.take k).map AG.id)) (p.it[k].id) (true) Z Z Z ET HI Z Z) (AD (AE (J (Aw Z Z (AQ (k+1) (by omega)) Z) (cl Z Z (AD ?_))))))));exact ⟨k+1,by show k+1<=_;omega,by show p.it.length - (k+1)<p.it.length - k;omega,A0 t [2] Z (by rw [D0 a,<-cb b];rfl) ⟨Z,Z,Z,Z,Z,trivial⟩⟩
 .refine BL (AC ?_);rw [ς (show p.it.length<=k by have h:=g;omega)];refine AE (V (Pd 4 Z Z Z Z) (AB Z Z (AD ?_)));refine AC (AC (AE (cl Z Z (J (CV Z E0 Z) (cl Z Z (AD (A2 (Bb (α:=Nat) (λk=>⟨50,[(7,(.map 2 0)),(10,(.map 4 0)),(31,(.d (.sl none (l.map AF)))),(32,(.d (AF (l.length:Int)))),(33,(.d (AF (k:Int))))],[(2,[BD AF Ac (BB (p.it.map AG.id))]),(4,[BD AF Ac (BB (l.take k))])]⟩) (λk=>k<=l.length) (λk=>l.length - k) (0) (ϱ _) (A0 t [2,4] Z Z ⟨Z,Z,Z,Z,Z,trivial⟩) ?_))))))));rintro k u;refine AC (AE (J (BW Z Z Z) (AD (AC (Ah Z (λf=>?_) (λf=>?_))))))
  .have a:k<l.length:=Bi f;refine AZ (AC (A2 (AC (AE ?_))));have I:=Pc.1 c k (Γ.2 a);have D:=DW 0 a;have v:l[k]∈p.it.map AG.id:=(Pu c).2 _ (θ a);have b:l[k]∉l.take k:=λh=>by have o:=(Pu c).1;rw [List.Nodup,fR] at o;obtain ⟨j,C,e⟩:=gg.1 h;exact o j k (by omega) a (by omega) e
   refine J (Bq (k) Z Z (Z) (Aq a) E0 Z B4 Z) (J (EJ Z Z BE Z) ?_);refine AB Z Z (AD (AC (A2 (AC (AE (cl Z Z (cl Z Z (J (HO (BB (p.it.map AG.id)) (l[k]) (false) _ Z Z Z ET HI T5 Z Z) ?_))))))));rw [W4];refine J (O2 Z Z) (AB Z Z (AD (Ah Z (λy=>?_) (λy=>?_))))
   .refine AC (AE (AB Z Z (AB Z Z (AD (A6 ?_)))));exact absurd v (by simp_all)
   .refine AC (AE (cl Z Z (cl Z Z (J (HO (BB (l.take k)) (l[k]) (false) _ Z Z Z ET HI T5 Z Z) ?_))));rw [W4];refine AB Z Z (AD (Ah Z (λw=>?_) (λw=>?_)))
    .refine AC (AE (AB Z Z (AB Z Z (AD (A6 ?_)))));exact absurd b (by simp_all)
    .refine AZ ?_;refine AE (cl Z Z (cl Z Z (V (Tc (BB (l.take k)) (l[k]) (true) Z Z Z ET HI Z Z) (AD (AE (J (Aw Z Z (AQ (k+1) (by omega)) Z) (cl Z Z (AD ?_))))))));exact ⟨k+1,by show k+1<=_;omega,by show l.length - (k+1)<l.length - k;omega,A0 t [2,4] Z (by rw [φ a,<-cb b];rfl) ⟨Z,Z,Z,Z,Z,trivial⟩⟩
  .refine BL (AC (AE (cl Z Z (AB Z Z (AB Z Z (AD (A6 ?_)))))));exact ⟨_,[4],_,A4 Z,Z,Z,Z,by rw [ς (show l.length<=k by have h:=f;omega)]<;>rfl⟩
theorem Cp (x:AO×Int) (l:List (AO×Int)) (r:AO):Ab (x::l) r=(if x.1=r then x.2 else 0)+Ab l r:=by simp [Ab]
theorem Ss {m:List (AO×Int)} (a:h.Perm m) (r:AO):Ab h r=Ab m r:=by
 induction a with
 | nil=>rfl
 | cons x _ f=>rw [Cp,Cp,f]
 | swap x y h=>simp only [Cp];omega
 | trans _ _ c b=>rw [c,b]
theorem F9 (a:C∉h.map Prod.fst):Ab h C=0:=by
 induction h with
 | nil=>rfl
 | cons x h b=>
  grind [Cp]
theorem Uh (c:(h.map Prod.fst).Nodup) {v:Int} (a:(C,v)∈h):Ab h C=v:=by
 induction h with
 | nil=>cases a
 | cons x h b=>
  grind [Cp,F9]
theorem Sr (c:List (AO×Int)) (r:AO):Ab (dN c) r=Ab c r:=by grind [Uh,En,Dv,F9,Hv]
theorem jX {f c:Type} {m:List (f×c)} {B seen:List Nat} {x:f×c} (h:x∈Bh m B seen):x∈m:=by
 unfold Bh at h;obtain ⟨y,g,rfl⟩:=υ.1 h;exact (List.of_mem_zip (a:=y.1) (b:=y.2) (Ψ.1 g).1).1
theorem Vt {m:List (a×F)} {B seen:List Nat}:(Bh m B seen).length<=m.length:=by grind [Bh]
def FP (l:List AG) (r:AO):Int:=(l.map λi=>Ab (dq i) r).sum
theorem We (l:List AG) (i:AG) (r:AO):FP (l++ [i]) r=FP l r+Ab (dq i) r:=by simp [FP]
def I1 (l:List Int) (i:AG):Bool:=decide (i.id∈l)
theorem F5 {l:List AG} (h:Db l=0):∀i∈l,Ak i=0:=λi c=>by
 have f:=Pc.1 h;obtain ⟨j,a,rfl⟩:=eQ c;have:=f j (Γ.2 a);unfold Mw at this;rw [DW cv a] at this
 split at this
 .contradiction
 .rename_i b;simpa using b
theorem Lx (h:Ak u=0) (r:AO): -Mx<=Ab (dq u) r/\Ab (dq u) r<=Mx:=by
 have a:=(FG h).2.2.2.2.2.2.2.2;unfold Na at a
 split at a
 .cases a
 .rename_i c
  by_cases b:r∈(dN (dq u)).map Prod.fst
  .grind [Dv]
  grind [F9,Hv]
theorem lu (h:Ak u=0):Nz (dN (dq u)):=λx a=>by
 have b:=((Dv (dq u) x.1 x.2).1 a).2;rw [b];simpa [Mx] using Lx h x.1
theorem qY (h:Ak u=0):(dN (dq u)).length<=1280:=by
 have a:=(FG h).1;have c:=a.po;have b:=a.pa;have:=HS (dq u);rw [Ix] at this;omega
theorem ML {l:List AG} (h:∀i∈l,Ak i=0) (a:l.length<=1000) (r:AO): -1000000000000000000<=FP l r/\FP l r<=1000000000000000000:=by
 have:=O9 (l:=l) (f:=λi=>Ab (dq i) r) (B:=1000000000000000) (λi b=>by simpa [Mx] using Lx (h i b) r) 1000 a (by omega);unfold FP;omega
def IY (p:dG) (l:List Int):List cw:=p.ro.map λx=>⟨x.r,x.n+FP (p.it.filter (I1 l)) x.r⟩
theorem KR (h:CY s=0):∀x∈s,-4000000000000000<=x.n/\x.n<=4000000000000000:=λx b=>by
 have f:=Pc.1 h;obtain ⟨j,a,rfl⟩:=eQ b;have:=f j (Γ.2 a);unfold L1 at this;rw [DW HD a] at this
 split at this
 .contradiction
 .split at this
  .cases this
  .rename_i c;simp only [Mx] at c;omega
theorem S9 {p:a ->Bool} (b:B<c.length):(c.take (B+1)).filter p=(c.take B).filter p++(if p c[B] then [c[B]] else []):=GF b
theorem Ye (p:dG) (l:List Int) (Y:EP p) (hl:l.length<=100000) (G:p.it.length<=1000):AM prog 38 [.d (CM p),.d (.sl none (l.map AF))] (.tup [.sl none ((if DQ p l=0 then IY p l else []).map Cv),AF (DQ p l)]):=by
 by_cases j:DQ p l=0
 .have X:=(YE p l Y hl j).by [(4,40)] rfl
  have h0:Ai p=0:=by
   unfold DQ at j;split at j
   .exact j
   .rename_i h;simpa using h
  have w:=F5 (JA h0).2.1;have K:=KR (JA h0).1;have hb1:=Y.1;rw [ϖ j,j];refine Av func38 Z Z ntmps38 Z Z Z λF u=>(AC (AE (V (CQ 1 Z Z Z Z Z Z Z) (AB Z Z ?_))));refine AB Z Z (AD (AC (AE (J (B1 Z Z Bc Z Z Z) (cl Z Z (V (Eh X Z [40] ⟨Z,trivial⟩ Z Z Z Z Z Z Z Z Z) (cl Z Z (J (C8 Z Z Z) ?_))))))));refine J (C8 Z Z Z) (AB Z Z (AB Z Z (AD (AC (AC (AE (cl Z Z (J (EO Z Z Z) ?_))))))));refine AD (EV Z ((by decide)) (AZ (AC (AE (V (Pd 2 Z Z Z Z) (AB Z Z (AD (AC ?_))))))));refine AC (AE (J (A1 Z EM Z Z Z) (J (A5 Z Z Z K6 Z) (J (CV Z F0 Z) (cl Z Z (AD (A2 (Bb (α:=Nat×List (AO×Int)) (λq=>⟨76,[(2,(.ptr 1 0 0)),(6,(.map 40 0)),(8,(.map 2 0)),(27,(.d (.sl none (p.it.map Ap)))),(28,(.d (AF (p.it.length:Int)))),(29,(.d (AF (q.1:Int))))],[(1,[VW 31 p]),(40,[BD AF Ac (BB l)]),(2,[BD C4 AF q.2])]⟩) (λq=>q.1<=p.it.length/\∀r,AY q.2 r 0=FP ((p.it.take q.1).filter (I1 l)) r) (λq=>p.it.length - q.1) ((0,[])) (⟨ϱ _,λ_=>rfl⟩) (A0 u [1,40,2] Z Z ⟨Z,Z,Z,Z,Z,Z,trivial⟩) ?_))))))));rintro ⟨k,M⟩ ⟨T,I⟩;dsimp only at T I⊢;refine AC (AE (J (BW Z Z Z) (AD (AC (Ah Z (λD=>?_) (λD=>?_))))))
  .have f:k<p.it.length:=Bi D;refine AZ (AC (A2 (AC (AE ?_))));have y:=w _ (θ f);have hs:=(Pn p.it[k] (FG y).1).by [(2,41)] rfl;have g:=lu y;have hEl:=qY y;have Q:=λr=>Sr (dq p.it[k]) r;have hEn:=En (dq p.it[k]);have hT:=ML (l:=(p.it.take k).filter (I1 l)) (λi U=>w i (fM (Ψ.1 U).1)) (dh (fx _ _) (by rw [Θ];omega))
   obtain ⟨E,hEE⟩:∃E,dN (dq p.it[k])=E:=⟨_,Z⟩
   rw [hEE] at hs g hEl Q hEn;refine J (Bq (k) Z Z (Z) (Aq f) F0 Z Cu Z) (J (IX Z Z Bs Z) (V (CE 3 Fc Z Z Z Z) ?_));refine V (Bk Z Z Z Z Z Z Z Cu) (AD (AC (AC (AE (cl Z Z (J (A1 Z Ny Z Z Z) (J (A5 Z Z Z BE Z) (J (HO (BB l) (p.it[k].id) (false) _ Z Z Z ET HI T5 Z Z) ?_))))))));rw [W4];refine J (O2 Z Z) (AD (Ah Z (λC=>?_) (λC=>?_)))
   .refine BL (AE (J (Aw Z Z (AQ (k+1) (by omega)) Z) (cl Z Z (AD ?_))));exact ⟨(k+1,M),⟨by show k+1<=_;omega,λr=>by show AY M r 0=FP ((p.it.take (k+1)).filter (I1 l)) r;rw [S9 f,η (by unfold I1;simpa using C),en];exact I r⟩,by show p.it.length - (k+1)<p.it.length - k;omega,A0 u [1,40,2] Z (Z) ⟨Z,Z,Z,Z,Z,Z,trivial⟩⟩
   .refine AZ (AC (AE (J (B1 Z Z Bs Z Z Z) (V (Eh hs Z [41] ⟨Z,trivial⟩ Z Z Z Z Z Z Z Z Z) (V (Fs 4 Z Z Z D8 Z Z Z Z) (AD (A2 (Bb (α:=List Nat×List (AO×Int)) (λq=>⟨76,[(2,(.ptr 1 0 0)),(6,(.map 40 0)),(8,(.map 2 0)),(27,(.d (.sl none (p.it.map Ap)))),(28,(.d (AF (p.it.length:Int)))),(29,(.d (AF (k:Int)))),(40,(.ptr 4 0 0))],[(4,[.iter 41 0 E.length q.1]),(41,[BD C4 AF E]),(1,[VW 31 p]),(40,[BD AF Ac (BB l)]),(2,[BD C4 AF q.2])]⟩) (λq=>∀r,AY q.2 r 0+Ab (Bh E (List.range E.length) q.1) r=FP ((p.it.take k).filter (I1 l)) r+Ab E r) (λq=>(Bh E (List.range E.length) q.1).length) (([],M)) (λr=>by show AY M r 0+Ab (Bh E (List.range E.length) []) r=_;rw [Co (by simp),I r]) (A0 u [4,41,1,40,2] Z Z ⟨Z,Z,Z,Z,Z,Z,Z,trivial⟩) ?_))))))));rintro ⟨seen,N⟩ R;dsimp only at R⊢;refine AC (AE (K7 (E) Z Z Z Z (λL=>?_) (λS o b c t P hB41 s=>⟨_,Z,?_⟩)))
    .have O:∀r,AY N r 0=FP ((p.it.take k).filter (I1 l)) r+Ab (dq p.it[k]) r:=λr=>by have H:=R r;rw [L] at H;rw [<-Q r];have h2:Ab ([]:List (AO×Int)) r=0:=rfl;omega
     refine J (C8 Z Z Z) (AD (AC (EV Z Z (BL (AE (J (Aw Z Z (AQ (k+1) (by omega)) Z) (cl Z Z (AD ?_))))))));exact ⟨(k+1,N),⟨by show k+1<=_;omega,λr=>by show AY N r 0=FP ((p.it.take (k+1)).filter (I1 l)) r;rw [S9 f,ϖ (by unfold I1;simpa using C),We];exact O r⟩,by show p.it.length - (k+1)<p.it.length - k;omega,A0 u [1,40,2] Z (Z) ⟨Z,Z,Z,Z,Z,Z,trivial⟩⟩
    .refine J (C8 Z Z Z) (AD (AC ?_));refine Dt Z Z (AZ (A2 (AC (AE (J (Ft (E) S o Z Z Z t P Z) (J (C8 Z Z Z) (J (C8 Z Z Z) (V (CE 5 LY Z Z Z Z) ?_))))))));refine V (Bk Z Z Z Z Z Z Z iT) (AB Z Z (AD (Dr [[],[],[0,1],[],[0,1,2,3],[0,1,3],[0,1,3,5],rg 7] mixed Z (Xv 2 ([BD C4 AF (BP N b 0)]) Z (At 8 Z Z (BQ [11] Z Z (λ_=>A9 (B1 Z Z CL Z Z Z)) (ch [46,47] [] Z Z Z (λ_=>A9 (HO (N) (b) (0) _ Z Z Z D8 Bv Nu Z Z)) (λ_=>A9 (HO (BP (N) (b) (0)) (b) (0) _ Z Z Z D8 Bv Nu (Da _ _ _ _) Z)) (At 12 Z Z ?_))))))))
     have hNb: -6000000000000000000<=AY N b 0+c/\AY N b 0+c<=6000000000000000000:=by {have H:=R b;have h2:=Gq (l:=Bh E (List.range E.length) seen) (λx hx=>g x (jX hx)) b;have h3:=Gq g b;have h4:=Vt (m:=E) (B:=List.range E.length) (seen:=seen);have h5:=hT b;have h6:=g (b,c) (ϑ t);simp only at h6;omega}
     refine AX [48,49] Z (Aw Z Z (Ξ _ (by omega)) Z) (IU [46,47] [2] [(51,_)] Z Z (λ_=>IV (GS (N) (b) (0) Z Z Z D8 Bv Nu Z Z)) (.inr ⟨51,_,Z,Z,Z,Z,Z⟩) Z Z Z Z Z ?_ (hCn:=P8 Z));refine AX [51] Z (C8 Z Z Z) (Dh 7 Z Z Z (An 8 Z Z (V (GX (N) (b) (0) (AY N b 0+c) Z Z Z Bv Z Z) (AD ⟨Z,?_⟩))));refine Dg ?_;exact ⟨(seen++ [o],_),(λr=>by show AY (BA N b (AY N b 0+c)) r 0+Ab (Bh E (List.range E.length) (seen++ [o])) r=_;have H:=R r;rw [Ss s,Cp] at H;rw [H5];by_cases e:r=b; · {rw [ϖ e];rw [ϖ e.symm] at H;rw [e] at H⊢;omega}; · {rw [η e];rw [η (λh=>e h.symm)] at H;omega}),by show (Bh E (List.range E.length) (seen++ [o])).length<(Bh E (List.range E.length) seen).length;rw [s.length_eq];exact gA _,A0 u [4,41,1,40,2] Z (Z) ⟨Z,Z,Z,Z,Z,Z,Z,trivial⟩⟩
  .refine BL (AC ?_);have v:p.it.take k=p.it:=ς (by have h:=D;omega);rw [v] at I;have hTb:=ML (l:=p.it.filter (I1 l)) (λi U=>w i (Ψ.1 U).1) (dh (fx _ _) G);refine AE (AB Z Z (AD (AC (AC ?_))));refine O0 13 900 Ps Z Z Z Z (AE (J (A1 Z Fj Z Z Z) (J (A5 Z Z Z Ro Z) (J (CV Z an Z) (cl Z Z (AD (A2 (Bb (α:=List cw) (λa=>⟨76,[(8,(.map 2 0)),(13,(.own 900 0 a.length)),(55,(.d (.sl none (p.ro.map Cv)))),(56,(.d (AF (p.ro.length:Int)))),(57,(.d (AF (a.length:Int))))],[(900,[.rowD 74 7 (a.map Cv)]),(2,[BD C4 AF M])]⟩) (λa=>a.length<=p.ro.length/\a=(IY p l).take a.length) (λa=>p.ro.length - a.length) ([]) (⟨ϱ _,by simp⟩) (A0 u [900,2] Z Z ⟨Z,Z,Z,Z,Z,trivial⟩) ?_))))))));rintro a ⟨ha0,hA⟩;refine AC (AE (J (BW Z Z Z) (AD (AC (Ah Z (λA=>?_) (λA=>?_))))))
   .have z:a.length<p.ro.length:=Bi A;refine AZ (AC (A2 ?_));refine AC (AE (J (Bq (a.length) Z Z (Z) (Aq z) an Z OA Z) (J (IX Z Z ZR Z) (V (CE 6 Qv Z Z Z Z) (V (Bk Z Z Z Z Z Z Z OA) (AD (Dr [[],[],[1],[],[3],[],[],[6],[5,6,7],[3,4,5,6,7,8],[1,2,3,4,5,6,7,8,9],[1,2,3,4,5,6,7,8,9,10],rg 12,rg 13] mixed Z (E6 ?_))))))));refine At 13 Z Z (AX [15] Z (A1 Z FD Z Z Z) (BQ [62] Z Z (λ_=>A9 (B1 Z Z CL Z Z Z)) (AX [15] Z (A1 Z QW Z Z Z) (BQ [64] Z Z (λ_=>A9 (A5 Z Z Z L3 Z)) (At 8 Z Z (AX [15] Z (A1 Z FD Z Z Z) (BQ [67] Z Z (λ_=>A9 (B1 Z Z CL Z Z Z)) (BQ [66,68] Z Z (λ_=>A9 (HO (M) (p.ro[a.length].r) (0) _ Z Z Z D8 Bv Nu Z Z)) ?_))))))));have hr1:=K _ (θ z);have hr2:=hTb p.ro[a.length].r;have hr3:=I p.ro[a.length].r;refine AX [65,69] Z (Aw Z Z (Ξ _ (by omega)) Z) (AX [63,70] Z (FU Qv mp Z Z Z) (IU [71] [50] [(72,_)] Z Z (λ_=>IV (EH 50 Ps Z Z Z Z Z Z Z Z)) (.inr ⟨72,_,Z,Z,Z,Z,Z⟩) Z Z Z Z Z (Dh 12 Z Z Z (An 13 Z Z (V (Ic (a) ([⟨p.ro[a.length].r,p.ro[a.length].n+AY M p.ro[a.length].r 0⟩]) Z Z Z Z Z Z Z Z Ps (by simp only [Φ];omega) Z Z Z Z) (AD ⟨Z,?_⟩))))));refine An 14 Z Z (AB Z Z (AD ⟨Z,?_⟩));refine Dg (AE (J (Aw Z Z (pJ a (⟨p.ro[a.length].r,p.ro[a.length].n+AY M p.ro[a.length].r 0⟩:cw) (by omega)) Z) (cl Z Z (AD ?_))));exact ⟨a++ [⟨p.ro[a.length].r,p.ro[a.length].n+AY M p.ro[a.length].r 0⟩],⟨by rw [Ω];show a.length+1<=_;omega,by rw [Ω];show _=(IY p l).take (a.length+1);rw [φ (by unfold IY;simpa using z),<-hA];congr 1;unfold IY;simp [I]⟩,by rw [Ω];show p.ro.length - (a.length+1)<p.ro.length - a.length;omega,A0 u [900,2] Z (Z) ⟨Z,Z,Z,Z,Z,trivial⟩⟩
   .refine BL (AC ?_);have W:a=IY p l:=by rw [hA];exact ς (by unfold IY;rw [ψ];have h:=A;omega)
    refine L6 (emb:=Cv) 13 900 a Z Z Z Z Z Z Z (AE (cl Z Z (AB Z Z (AB Z Z (AD (A6 ?_))))));exact ⟨_,[],[],A4 Z,Z,Z,by rw [W],Z⟩
 .have X:=Uk p l Y hl j;rw [η j];refine Av func38 Z Z ntmps38 Z Z Z λF u=>(AC (AE (V (CQ 1 Z Z Z Z Z Z Z) (AB Z Z (W3 4 Z (AB Z Z ?_))))));refine AD (AC (AE (J (B1 Z Z Bc Z Z Z) (cl Z Z (J (B5 (X) Z Z) (cl Z Z (J (Ds Z Z Z) (J (Ds Z Z Z) ?_))))))));refine AB Z Z (AB Z Z (AD (AC (AC (AE (cl Z Z (J (EO Z Z Z) (AD ?_))))))));refine Dt Z ((dm j)) (AC (AE (cl Z Z (AB Z Z (W3 4 Z (AB Z Z (AD (A6 ?_))))))));exact ⟨_,[],[],A4 Z,Z,Z,Z,Z⟩
def oi (S:List Int) (x:Int):Bool:=decide (x∈S)
def ON (S l:List Int):List Int:=l.filter λx=>!oi S x
theorem aw {S l:List Int} (h:∀x∈l,oi S x=false):ON S l=l:=iB.2 λx a=>by rw [h x a];rfl
theorem cH (l:List Int) (c:l.length<=1000000):AK prog 94 [.d (.sl none (l.map AF))] [] λr b=>r= .own 20 0 l.length/\b=[(20,[.rowD 3 1 (l.map AF)])]:=by
 refine Av func94 Z Z ntmps94 Z Z Z λF g=>(AC (AE (AB Z Z ?_)));skip;refine AD (AC (AC (AE (cl Z Z (Ey 3 Z (λa=>?_) ?_)))))
 .refine J (Do E0 Z Z) (AD (Dt Z (Z) (AC (AE (AB Z Z (Ve 2 20 BX Z Z Z Z (AD (A6 ?_))))))));exact ⟨_,[20],_,A4 Z,Z,Z,by rw [<-ψ (f:=AF),a];rfl,by rw [a]⟩
 .refine J (Do E0 Z Z) ?_;refine AD (EV Z (Z) (AZ (AC (AE (V (EH 20 BX Z Z Z Z Z Z Z Z) (cl Z Z (V (Fu (([]:List Int)) (l) Z Z Z Z Z Z (λ_=>rfl) BX (by simp only [List.length_nil];omega) Z Z Z Z) (AB Z Z ?_))))))));skip;refine AD (A6 ?_);exact ⟨_,[20],_,A4 Z,Z,Z,by simp,by simp⟩
def FX (l:List Int) (i:AG):AG:=⟨i.id,i.pr,i.sq,i.po,i.pa,ON l i.af⟩
def DA (l:List Int) (its:List AG):List AG:=(its.filter λi=>!I1 l i).map (FX l)
def dF (p:dG) (id:Int):AG:=p.it.getD ((p.it.map AG.id).idxOf id) cv
theorem FA {p:dG} {id:Int} (h:id∈p.it.map AG.id):∃b:(p.it.map AG.id).idxOf id<p.it.length,ja id (p.it.map AG.id)=(((p.it.map AG.id).idxOf id:Nat):Int)/\dF p id=p.it[(p.it.map AG.id).idxOf id]/\(dF p id).id=id:=by
 have b:(p.it.map AG.id).idxOf id<(p.it.map AG.id).length:=List.idxOf_lt_length_iff.2 h;have a:(p.it.map AG.id).idxOf id<p.it.length:=by simpa using b
 have c:dF p id=p.it[(p.it.map AG.id).idxOf id]:=DW cv a;refine ⟨a,ϖ h,c,?_⟩;have f:=iA b
 grind
theorem R8 (h:CY s=0):∀x∈s,Bj x.r=0:=λx b=>by
 have f:=Pc.1 h;obtain ⟨j,a,rfl⟩:=eQ b;have:=f j (Γ.2 a);unfold L1 at this;rw [DW HD a] at this
 split at this
 .contradiction
 .rename_i c;simpa using c
theorem Zq {m:List a} (h:c.Perm m) (f:a ->Int):(c.map f).sum=(m.map f).sum:=by
 induction h with
 | nil=>rfl
 | cons x _ i=>simp [i]
 | swap x y c=>simp;omega
 | trans _ _ g b=>rw [g,b]
abbrev Hd:=Option (Nat×Nat)
def sG:Hd ->Nat ->Value
 | none,_=> .slice none 0 0
 | some (b,c),n=>sV b n c
abbrev dU (h:Hd) (n:Nat):D:= .raw (sG h n)
structure Nd where
 it:AG
 eh:Hd
 ef:List (Nat×Int)
 ph:Hd
 pl:List (Nat×Nat)
 on:Bool
structure Po where
 r:AO
 room:Int
 sum:Int
 qh:Hd
 q:List Nat
 mi:Nat
structure dS where
 nd:List Nd
 po:List Po
 nh:Hd
 mh:Hd
abbrev sZ (x:Nd):List D:=[AF x.it.id,AF x.it.pr,AF x.it.sq,.sl none (x.it.po.map Ck),.sl none (x.it.pa.map I0),.sl none (x.it.af.map AF),dU x.eh x.ef.length,dU x.ph x.pl.length,Ac x.on]
abbrev iv (y:Po):List D:=[AF y.r.k,Ae y.r.acc.o,AF y.r.acc.k,Ae y.r.acc.a,Ae y.r.f,Ae y.r.t,AF y.room,AF y.sum,dU y.qh y.q.length,AF (y.mi:Int)]
abbrev bc (pb:Nat ->Nat) (e:Nat×Int):D:= .agg [pD (pb e.1) 0,AF e.2]
abbrev gx (pb:Nat ->Nat) (e:Nat×Nat):D:= .agg [pD (pb e.1) 0,AF (e.2:Int)]
abbrev BC (b:Nat):D:=pD b 0
def Ax (M:MF) (h:Hd) (t:TypeId) (k:Nat) (xs:List D):Prop:=match h with
 | none=>xs=[]
 | some (b,c)=>xs.length<=c/\M b=some (.row t k c xs)
abbrev T9 (x:Nd):A7:= .cells 107 (sZ x)
abbrev T7 (y:Po):A7:= .cells 113 (iv y)
variable {E:Hd}
theorem UB {g:A7} (i:M k=some (.cells w z)) {f:List D} (a:Ax M E A B f):Ax (BM M k g) E A B f:=by
 match E,a with
 | none,a=>exact a
 | some (j,c),a=>
  grind [Ax,BM]
abbrev KY (v:Value):D:= .raw v
def Br:Po:=⟨⟨0,TU,[],[]⟩,0,0,none,[],0⟩
def Bg:Nd:=⟨cv,none,[],none,[],false⟩
structure dY where
 h:Hd
 t:TypeId
 k:Nat
 xs:List D
inductive RI where
 | e (i:Nat)
 | p (i:Nat)
 | q (j:Nat)
 | n
 | m
def CB (nb pb:Nat ->Nat) (N:dS):RI ->dY
 | .e i=>⟨(N.nd.getD i Bg).eh,111,2,(N.nd.getD i Bg).ef.map (bc pb)⟩
 | .p i=>⟨(N.nd.getD i Bg).ph,167,2,(N.nd.getD i Bg).pl.map (gx pb)⟩
 | .q j=>⟨(N.po.getD j Br).qh,99,1,(N.po.getD j Br).q.map λi=>BC (nb i)⟩
 | .n=>⟨N.nh,99,1,(List.range N.nd.length).map λi=>BC (nb i)⟩
 | .m=>⟨N.mh,109,1,(List.range N.po.length).map λj=>BC (pb j)⟩
def EW (M:MF) (R:RI ->dY):Prop:=(∀r,Ax M (R r).h (R r).t (R r).k (R r).xs)/\∀r r' b c c',(R r).h=some (b,c) ->(R r').h=some (b,c') ->r=r'
def BV (M:MF):Hd ->MF
 | none=>M
 | some (b,_)=>EU M b
variable {R:RI ->dY}
theorem EW.blk (h:EW M R) {r:RI} {c:Nat} (a:(R r).h=some (k,c)):M k=some (.row (R r).t (R r).k c (R r).xs):=by
 have:=h.1 r;rw [a] at this;exact this.2
theorem Io {h:Hd} (f:M k=some G) (a:∀c,h≠some (k,c)):BV M h k=some G:=by
 match h,a with
 | none,_=>exact f
 | some (g,c),a=>
  show EU M g k=_;rw [G8 (λe=>a c (by rw [e]))];exact f
theorem fP {a:Nat} {v:A7} (i:BV M E k=none) (g:M a=some G) (f:∀c,E≠some (a,c)):BM (BV M E) k v a=some G:=by grind [Io,Gz]
theorem EW.upd {R':RI ->dY} (h:EW M R) (a:RI) (x:∀r,r≠a ->R' r=R r) {b cap:Nat} (w:BV M (R a).h b=none) (z:(R' a).h=some (b,cap)) (v:(R' a).xs.length<=cap):EW (BM (BV M (R a).h) b (.row (R' a).t (R' a).k cap (R' a).xs)) R':=by
 have l:∀r,r≠a ->∀i c,(R r).h=some (i,c) ->i≠b:=λr u i c j e=>by
  have f:=h.blk j;have y:=Io (h:=(R a).h) f λo g=>u (h.2 r a i c o j g)
  grind
 refine ⟨λr=>?_,λr s B c o f y=>?_⟩
 .by_cases e:r=a
  .subst e;rw [z];exact ⟨v,GM _ _ _⟩
  .rw [x r e];have f:=h.1 r
   cases hh:(R r).h with
   | none=>rw [hh] at f;exact f
   | some p=>
    obtain ⟨i,c⟩:=p;rw [hh] at f;exact ⟨f.1,fP w f.2 λo g=>e (h.2 r a i c o hh g)⟩
 .by_cases e:r=a<;>by_cases A:s=a
  all_goals (grind [EW])
theorem EW.cells (h:EW M R) {a:List D} (c:M k=some (.cells A z)):EW (BM M k (.cells w a)) R:=
 ⟨λr=>UB c (h.1 r),h.2⟩
structure Bp (wb mv:Nat) (nb pb:Nat ->Nat) (N:dS) (M:MF):Prop where
 n:∀(i:Nat) x,N.nd[i]? =some x ->M (nb i)=some (T9 x)
 p:∀(j:Nat) y,N.po[j]? =some y ->M (pb j)=some (T7 y)
 rs:EW M (CB nb pb N)
 w:M wb=some (.cells 103 [dU N.nh N.nd.length,dU N.mh N.po.length,KY (.map (some mv))])
 ni:∀i j:Nat,i<N.nd.length ->j<N.nd.length ->nb i=nb j ->i=j
 pi:∀i j:Nat,i<N.po.length ->j<N.po.length ->pb i=pb j ->i=j
 e:∀x∈N.nd,(∀e∈x.ef,e.1<N.po.length)/\∀e∈x.pl,e.1<N.po.length
 q:∀y∈N.po,∀i∈y.q,i<N.nd.length
theorem Gg {d:a} (h:c[o]? =some x):c.getD o d=x:=by rw [Δ,h];rfl
variable {N:dS}
theorem Bp.nn (h:Bp i j g f N M) (a:Nat) (x:Nd) (b:N.nd[a]? =some x):M (g a)=some (T9 x)/\Ax M x.eh 111 2 (x.ef.map (bc f))/\Ax M x.ph 167 2 (x.pl.map (gx f)):=by
 have k:Ax M (N.nd.getD a Bg).eh 111 2 ((N.nd.getD a Bg).ef.map (bc f)):=h.rs.1 (.e a);have c:Ax M (N.nd.getD a Bg).ph 167 2 ((N.nd.getD a Bg).pl.map (gx f)):=h.rs.1 (.p a);rw [Gg b] at k c;exact ⟨h.n a x b,k,c⟩
theorem Bp.pp (h:Bp i j g f N M) (a:Nat) (y:Po) (c:N.po[a]? =some y):M (f a)=some (T7 y)/\Ax M y.qh 99 1 (y.q.map λb=>BC (g b)):=by
 have k:Ax M (N.po.getD a Br).qh 99 1 ((N.po.getD a Br).q.map λb=>BC (g b)):=h.rs.1 (.q a);rw [Gg c] at k;exact ⟨h.p a y c,k⟩
theorem EG (b:o<c.length) (k:Nat) (d:a):(c.set o x).getD k d=if k=o then x else c.getD k d:=by grind
theorem PT (b:c[o]? =some x) (k:Nat) (d:a):c.getD k d=if k=o then x else c.getD k d:=by grind
variable {y:Po}
theorem Bp.setPo (h:Bp i j g f N M) {y':Po} (u:N.po[t]? =some y) (E:y'.q=y.q) (C:y'.qh=y.qh):Bp i j g f {N with po:=N.po.set t y'} (BM M (f t) (T7 y')):=by
 have H:=h.p t y u;have w:=(χ.1 u).1
 have I:CB g f {N with po:=N.po.set t y'}=CB g f N:=funext λr=>by
  cases r with
  | e c=>rfl
  | p c=>rfl
  | n=>rfl
  | m=>show (⟨_,_,_,(List.range (N.po.set t y').length).map _⟩:dY)=_;rw [eU];rfl
  | q k=>
   show (⟨((N.po.set t y').getD k Br).qh,_,_,((N.po.set t y').getD k Br).q.map _⟩:dY)=⟨(N.po.getD k Br).qh,_,_,(N.po.getD k Br).q.map _⟩
   grind
 have s:∀(b:Nat) (a:TypeId) (B:List D),a≠113 ->M b=some (.cells a B) ->BM M (f t) (T7 y') b=some (.cells a B):=λb a B K L=>by
  grind [Gz]
 refine ⟨λc x v=>s _ _ _ (by decide) (h.n c x v),λc z o=>?_,by rw [I];exact h.rs.cells H,?_,h.ni,λc k G F=>h.pi c k (by simpa using G) (by simpa using F),λx v=>?_,λz o=>?_⟩
 .have A:c<N.po.length:=by have:=(χ.1 o).1;rw [eU] at this;exact this
  have l:(N.po.set t y')[c]? =some z:=o
  clear o
  rw [gr] at l
  split at l
  .grind [GM]
  .rename_i e
   rw [Gz]
   .exact h.p c z l
   .intro J;exact e (h.pi c t A w J).symm
 .show BM M (f t) (T7 y') i=some (.cells _ [dU N.nh N.nd.length,dU N.mh (N.po.set t y').length,_]);rw [eU];exact s _ _ _ (by decide) h.w
 .have:=h.e x v
  simpa using this
 .rcases gf o with o | rfl
  .exact h.q z o
  .rw [E];exact h.q y (ϑ u)
theorem Bp.setNd (h:Bp i j g f N M) {x x':Nd} (v:N.nd[o]? =some x) (I:x'.ef=x.ef) (P:x'.eh=x.eh) (H:x'.pl=x.pl) (O:x'.ph=x.ph):Bp i j g f {N with nd:=N.nd.set o x'} (BM M (g o) (T9 x')):=by
 have F:=h.n o x v;have A:=(χ.1 v).1
 have G:CB g f {N with nd:=N.nd.set o x'}=CB g f N:=funext λr=>by
  cases r with
  | q a=>rfl
  | m=>rfl
  | n=>show (⟨_,_,_,(List.range (N.nd.set o x').length).map _⟩:dY)=_;rw [eU];rfl
  | e k=>
   show (⟨((N.nd.set o x').getD k Bg).eh,_,_,((N.nd.set o x').getD k Bg).ef.map _⟩:dY)=⟨(N.nd.getD k Bg).eh,_,_,(N.nd.getD k Bg).ef.map _⟩
   grind
  | p k=>
   show (⟨((N.nd.set o x').getD k Bg).ph,_,_,((N.nd.set o x').getD k Bg).pl.map _⟩:dY)=⟨(N.nd.getD k Bg).ph,_,_,(N.nd.getD k Bg).pl.map _⟩
   grind
 have s:∀(b:Nat) (t:TypeId) (B:List D),t≠107 ->M b=some (.cells t B) ->BM M (g o) (T9 x') b=some (.cells t B):=λb t B K L=>by
  grind [Gz]
 refine ⟨λa z l=>?_,λa y u=>s _ _ _ (by decide) (h.p a y u),by rw [G];exact h.rs.cells F,?_,λa k E C=>h.ni a k (by simpa using E) (by simpa using C),h.pi,λz l=>?_,λy u=>?_⟩
 .have w:a<N.nd.length:=by have:=(χ.1 l).1;rw [eU] at this;exact this
  have c:(N.nd.set o x')[a]? =some z:=l
  clear l
  rw [gr] at c
  split at c
  .grind [GM]
  .rename_i e
   rw [Gz]
   .exact h.n a z c
   .intro J;exact e (h.ni a o w A J).symm
 .show BM M (g o) (T9 x') i=some (.cells _ [dU N.nh (N.nd.set o x').length,dU N.mh N.po.length,_]);rw [eU];exact s _ _ _ (by decide) h.w
 .rcases gf l with l | rfl
  .exact h.e z l
  .rw [I,H];exact h.e x (ϑ v)
 .have:=h.q y u
  simpa using this
abbrev HN (M:MF):Hp:=[(40,[.multi M])]
def cZ (y:Po) (c:Int):Int:=max y.room 0+c
def OH (y:Po) (c:Int):Bool:=decide (c<0/\cZ y c<0)
theorem kc {b i:Nat} {g a:Nat ->Nat} {N:dS} {M:MF} (h:Bp b i g a N M) {j:Nat} {y:Po} (k:N.po[j]? =some y) (c:Int) (t: -1000000000000000000<=y.room/\y.room<=1000000000000000000) (u: -2000000000000000000<=c/\c<=2000000000000000000):
  AK prog 142 [.d (pD (a j) 0),.d (AF c)] (HN M) λr s=>r= .d (AF (cZ y c))/\s=HN M:=by
 have l:=h.p j y k;have o:(if 0>y.room then 0 else y.room)=max y.room 0:=by rw [Int.max_def];split<;>split<;>omega
 refine Av func142 Z Z ntmps142 Z Z Z λF v=>(AC (AE (AB Z Z (AD (AC (AE (cl Z Z ?_)))))));refine J (Cy Z Z) (J (Bz Z Q0 Z Z Z) (J (EI (f:=40) Z Z (l) Z L3 Z) (J (Pq Z Z (o) Z) (cl Z Z (J (Aw Z Z (Ξ _ (by omega)) Z) (AB Z Z (AD (A6 ?_))))))));exact ⟨_,[40],_,A4 Z,Z,Z,Z,Z⟩
theorem LH (h:Bp i j g f N M) (a:N.po[t]? =some y) (c:Int) (b: -1000000000000000000<=y.room/\y.room<=1000000000000000000) (k: -2000000000000000000<=c/\c<=2000000000000000000):
  AK prog 88 [.d (pD (f t) 0),.d (AF c)] (HN M) λr s=>r= .d (Ac (OH y c))/\s=HN M:=by
 have l:=kc h a c b k;refine Av func88 Z Z ntmps88 Z Z Z λF u=>(AC ?_);refine AE (AB Z Z (AD (AC (AE (cl Z Z (J (BW Z Z Z) (cl Z Z (Id 7 Z (λo=>?_) (λo=>?_)))))))));refine Aa Z Z Z (cl Z Z (Aa Z Z Z (cl Z Z (Aa Z Z Z (V (Eh l Z [40] ⟨Z,trivial⟩ Z Z Z Z Z Z Z Z Z) (Aa Z Z Z (J (BW Z Z Z) (J (FL Z Z Z Z) ?_))))))))
 rotate_left
 refine A8 Z Z Z Z (A8 Z Z Z Z (A8 Z Z Z Z (A8 Z Z Z Z (J (DT Z Z Z Z) ?_))))
 all_goals
  refine AB Z Z (AD (A6 ?_));exact ⟨_,[40],_,A4 Z,Z,Z,On (by unfold OH;first | exact (dw (by omega)).symm | exact decide_eq_decide.2 ⟨λh=>⟨by omega,h⟩,λh=>h.2⟩),Z⟩
section
variable {P:Program} {F:Fr} {s:AS} {d:Nat} {x y:Operand} {T E:TypeId} {ty:TypeId} {pos:String} {aft:Array Edge} {g:Option (Nat×Bool)} {k:IntKind} {i:Int}
variable {h:Hd} {a:Nat}
theorem Ut {h:Hd} {n:Nat} (j:h=none ->n=0) (f:s.ev x=some (.d (dU h n))) (o:P.underlying T=some (.slice E)) (l:Nat.blt d s.n=true):
  AA P F ⟨some d,.call {callee:= .builtin .len,args:= #[x],argTypes:= #[T]},ty,pos,aft,g⟩ s d (.d (AF (n:Int))):=by
 match h,j,f with
 | none,j,f=>
  have e:=j rfl;subst e;exact VO (a:=none) (n:=0) (cap:=0) f o l
 | some (b,c),_,f=>exact VO (a:=some ⟨b,0,none⟩) (n:=n) (cap:=c) f o l
theorem Ur {b c f:Nat} (t:h=some (b,c)) (m:Nat) (l:s.ev x=some (.d (dU h a))) (j:s.ev y=some (.d (.raw (.int k i)))) (r:i=(m:Int)) (o:m<a) (v:P.underlying T=some (.slice E)) (w:AW P E f=true) (u:Nat.blt d s.n=true):
  AA P F ⟨some d,.indexAddr T x y,ty,pos,aft,g⟩ s d (.d (pD b (m*f))):=by
 subst t;exact Wm m l j r o v w u
end
variable {a:Type} {c:List a} {f:List Po} {M:MF} {k:Nat} {t:TypeId} {h:Hd} {g:a ->D} {i j:Nat ->Nat} {o:Nat} {N:dS} {y:Po} {s u:Nat}
theorem TZ (b:Ax M h t k (c.map g)):h=none ->c.length=0:=λe=>by
 subst e;have:c.map g=[]:=b
 simpa using this
theorem Tb (o:Ax M h t k (c.map g)) {j:Nat} (r:j<c.length):∃b i,h=some (b,i):=by
 cases h with
 | none=>have:=TZ o rfl;omega
 | some p=>exact ⟨p.1,p.2,Z⟩
theorem Qt {a:List D} (f:Ax M h t k a) {b c:Nat} (g:h=some (b,c)):M b=some (.row t k c a):=by
 subst g;exact f.2
def LZ (po:List Po) (e:Nat×Int):List Po:=match po[e.1]? with
 | some y=>po.set e.1 {y with sum:=y.sum - e.2}
 | none=>po
def OL (po:List Po) (e:Nat×Nat):List Po:=match po[e.1]? with
 | some y=>po.set e.1 {y with mi:=min y.mi e.2}
 | none=>po
theorem iV {e:Nat×Int} (h:f[e.1]? =some y):LZ f e=f.set e.1 {y with sum:=y.sum - e.2}:=by unfold LZ;rw [h]
theorem Vo {e:Nat×Nat} {y:Po} (h:f[e.1]? =some y):OL f e=f.set e.1 {y with mi:=min y.mi e.2}:=by unfold OL;rw [h]
def EC (x:Nd):Nd:={x with on:=false}
def pf (N:dS) (i:Nat) (x:Nd):dS:={N with nd:=N.nd.set i (EC x),po:=x.pl.foldl OL (x.ef.foldl LZ N.po)}
theorem Km {g:Type} {f:g ->a ->g} (h:k<c.length) (b:g):(c.take (k+1)).foldl f b=f ((c.take k).foldl f b) c[k]:=by
 rw [φ h,List.foldl_append];rfl
def RM (po:List Po) (b:Int):Prop:=∀y∈po,-b<=y.sum/\y.sum<=b
theorem Yr {b c:Int} (h:RM f b) (i:b<=c) {j:Nat} (g: -c<=y.sum/\y.sum<=c):RM (f.set j y) c:=λz a=>by
 rcases gf a with a | rfl
 .have:=h z a;omega
 .exact g
theorem Zc (h:Bp s u j i N M) {x:Nd} (E:N.nd[o]? =some x) (hB:RM N.po 1000000000000000000) (he:∀e∈x.ef,-100000000000000000<=e.2/\e.2<=100000000000000000) (hel:x.ef.length<=60) (hpl:x.pl.length<=1000) (hpb:∀e∈x.pl,e.2<=1000000) (hmb:∀y∈N.po,y.mi<=1000000):
  AK prog 64 [.d (pD (j o) 0)] (HN M) λr H'=>r= .tup []/\∃M',H'=HN M'/\Bp s u j i (pf N o x) M':=by
 have hxb:=(h.nn o x E).1;have hil:=(χ.1 E).1;have h1:=h.setNd (x':=EC x) E Z Z Z Z;have G:(N.nd.set o (EC x))[o]? =some (EC x):=by rw [List.getElem?_set_self hil]
 have hez:=TZ (h.nn o x E).2.1;have hpz:=TZ (h.nn o x E).2.2;have S:=h.e x (ϑ E);refine Av func64 Z Z ntmps64 Z Z Z λF hF=>(AC ?_);refine AE (cl Z Z (J (Cy Z Z) (J (Bz Z E5 Z Z Z) (V (OZ (f:=40) Z Z Z Z (hxb) ((by show _<9;omega)) Z pP) (AD (AC (AC (AE ?_))))))));refine cl Z Z (J (Cy Z Z) (J (Bz Z Jr Z Z Z) (J (EI (f:=40) Z Z ((GM _ _ _)) Z V8 Z) (J (Ut hez Z underlying104 Z) (cl Z Z (AD (A2 (Bb (α:=Nat×List Po×MF) (λq=>⟨51,[(0,.d (pD (j o) 0)),(12,(.d (dU x.eh x.ef.length))),(13,(.d (AF (x.ef.length:Int)))),(14,(.d (AF (q.1:Int))))],HN q.2.2⟩) (λq=>q.1<=x.ef.length/\q.2.1=(x.ef.take q.1).foldl LZ N.po/\Bp s u j i {N with nd:=N.nd.set o (EC x),po:=q.2.1} q.2.2/\RM q.2.1 (1000000000000000000+100000000000000000*(q.1:Int))/\(∀y∈q.2.1,y.mi<=1000000)/\q.2.1.length=N.po.length) (λq=>x.ef.length - q.1) ((0,N.po,BM M (j o) (T9 (EC x)))) (⟨ϱ _,Z,h1,by show RM N.po (1000000000000000000+100000000000000000*((0:Nat):Int));simpa using hB,hmb,Z⟩) (A0 hF [40] Z Z ⟨Z,Z,Z,Z,trivial⟩) ?_))))))));rintro ⟨k,po,M1⟩ ⟨hk0,I,O,hS,C,c⟩;dsimp only at hk0 I O hS C c⊢;refine AC (AE (J (BW Z Z Z) (AD (AC (Ah Z (λL=>?_) (λL=>?_))))))
 .have l:k<x.ef.length:=Bi L;refine AZ (AC (A2 (AC ?_)));obtain ⟨eb,ec,hee⟩:=Tb (h.nn o x E).2.1 l;have U:=Qt (O.nn o (EC x) G).2.1 hee;have hjl:x.ef[k].1<po.length:=by rw [c];exact S.1 _ (θ l)
  obtain ⟨y,R⟩:∃y,po[x.ef[k].1]? =some y:=⟨_,ω hjl⟩
  have Q:=O.p _ y R;have hys:=hS y (ϑ R);have heb:=he _ (θ l);refine AE ?_;refine J (Ur hee (k) Z Z Z l underlying104 RJ Z) (J (D1 (f:=40) (e:=k) Z (Z) Z (U) (Aq l) Z ZU Z) (V (CE 1 Y3 Z Z Z Z) (V (Bk Z Z Z Z Z Z Z RJ) (AD (Dr [[],[0],[0,1],[0,1,2],[0,1,2,3],[],[5],rg 7,rg 8,rg 9,rg 10] mixed Z (E6 (AX [3] Z (A1 Z Q2 Z Z Z) (By [18] [1] Z Z (λ_=>A9 (A5 Z Z Z ER Z)) ?_))))))));refine AX [19] Z (Cy Z Z) (AX [20] Z (Bz Z Jp Z Z Z) (By [21] [40] Z Z (λ_=>A9 (EI (f:=40) Z Z (Q) Z L3 Z)) (AX [3] Z (A1 Z Q1 Z Z Z) (By [23] [1] Z Z (λ_=>A9 (A5 Z Z Z L3 Z)) (Dh 7 Z Z Z (An 8 Z Z (J (Pg Z Z (Ξ _ (by omega)) Z) (AD ⟨Z,?_⟩))))))));refine An 9 Z Z (J (Cy Z Z) (AD ⟨Z,?_⟩));refine An 10 Z Z (J (Bz Z Jp Z Z Z) (AD ⟨Z,?_⟩));refine An 11 Z Z (V (OZ (f:=40) Z Z Z Z (Q) ((by show _<10;omega)) Z rX) (AD ⟨Z,?_⟩));refine Dg (AE (J (Aw Z Z (AQ (k+1) (by omega)) Z) (cl Z Z (AD ?_))));exact ⟨(k+1,po.set x.ef[k].1 {y with sum:=y.sum - x.ef[k].2},BM M1 (i x.ef[k].1) (T7 {y with sum:=y.sum - x.ef[k].2})),⟨by show k+1<=_;omega,by show po.set _ _=_;rw [Km l,<-I,iV R],O.setPo R Z Z,by show RM _ (1000000000000000000+100000000000000000*((k+1:Nat):Int));exact Yr hS (by omega) (by show _<=y.sum - x.ef[k].2/\y.sum - x.ef[k].2<=_;omega),λz D=>by rcases gf D with D | rfl;exact C z D;exact C y (ϑ R),by show (po.set _ _).length=_;rw [eU];exact c⟩,by show x.ef.length - (k+1)<x.ef.length - k;omega,A0 hF [40] Z (Z) ⟨Z,Z,Z,Z,trivial⟩⟩
 .refine BL (AC ?_);have X:po=x.ef.foldl LZ N.po:=by rw [I,ς (by have h:=L;omega)]
  have T:=(O.nn o (EC x) G).1;refine AE ?_;refine cl Z Z (J (Cy Z Z) (J (Bz Z Jq Z Z Z) (J (EI (f:=40) Z Z (T) Z V7 Z) (J (Ut hpz Z underlying105 Z) (cl Z Z (AD (A2 (Bb (α:=Nat×List Po×MF) (λq=>⟨51,[(32,(.d (dU x.ph x.pl.length))),(33,(.d (AF (x.pl.length:Int)))),(34,(.d (AF (q.1:Int))))],HN q.2.2⟩) (λq=>q.1<=x.pl.length/\q.2.1=(x.pl.take q.1).foldl OL (x.ef.foldl LZ N.po)/\Bp s u j i {N with nd:=N.nd.set o (EC x),po:=q.2.1} q.2.2/\(∀y∈q.2.1,y.mi<=1000000)/\q.2.1.length=N.po.length) (λq=>x.pl.length - q.1) ((0,po,M1)) (⟨ϱ _,X,O,C,c⟩) (A0 hF [40] Z Z ⟨Z,Z,Z,trivial⟩) ?_))))))));rintro ⟨a,g,M2⟩ ⟨hj0,t,B,v,b⟩;dsimp only at hj0 t B v b⊢;refine AC (AE (J (BW Z Z Z) (AD (AC (Ah Z (λK=>?_) (λK=>?_))))))
  .have A:a<x.pl.length:=Bi K;refine AZ (AC (A2 (AC ?_)));obtain ⟨pbk,pcc,Y⟩:=Tb (h.nn o x E).2.2 A;have H:=Qt (B.nn o (EC x) G).2.2 Y;have hjl2:x.pl[a].1<g.length:=by rw [b];exact S.2 _ (θ A)
   obtain ⟨z,D⟩:∃z,g[x.pl[a].1]? =some z:=⟨_,ω hjl2⟩
   have P:=B.p _ z D;have hzm:=v z (ϑ D);have hmin:(if ((x.pl[a].2:Nat):Int)<((z.mi:Nat):Int) then ((x.pl[a].2:Nat):Int) else ((z.mi:Nat):Int))=((min z.mi x.pl[a].2:Nat):Int):=by split<;>omega
   refine AE (J (Ur Y (a) Z Z Z A underlying105 O7 Z) (J (D1 (f:=40) (e:=a) Z (Z) Z (H) (Aq A) Z ZS Z) (V (CE 2 Uw Z Z Z Z) ?_)));refine V (Bk Z Z Z Z Z Z Z O7) (AD (Dr [[],[0],[],[2],[2,3],[2,3,4],[2,3,4,5],[],[7],[2,3,4,5,6,7,8],rg 10,rg 11,rg 12] mixed Z (E6 (AX [5] Z (A1 Z Gk Z Z Z) (By [38] [2] Z Z (λ_=>A9 (A5 Z Z Z ER Z)) (AX [5] Z (A1 Z Gk Z Z Z) (By [40] [2] Z Z (λ_=>A9 (A5 Z Z Z ER Z)) (AX [41] Z (Cy Z Z) ?_))))))));refine AX [42] Z (Bz Z Jo Z Z Z) (By [43] [40] Z Z (λ_=>A9 (EI (f:=40) Z Z (P) Z BE Z)) (AX [5] Z (A1 Z QY Z Z Z) (By [45] [2] Z Z (λ_=>A9 (A5 Z Z Z BE Z)) (AX [44,46] Z (Pp Z Z (hmin) Z) (Dh 10 Z Z Z (An 11 Z Z (J (Cy Z Z) (AD ⟨Z,?_⟩))))))));refine An 12 Z Z (J (Bz Z Jo Z Z Z) (AD ⟨Z,?_⟩));refine An 13 Z Z (V (OZ (f:=40) Z Z Z Z (P) ((by show _<10;omega)) Z B4) (AD ⟨Z,?_⟩));refine Dg ?_;skip;refine AE (J (Aw Z Z (AQ (a+1) (by omega)) Z) (cl Z Z (AD ?_)));exact ⟨(a+1,g.set x.pl[a].1 {z with mi:=min z.mi x.pl[a].2},BM M2 (i x.pl[a].1) (T7 {z with mi:=min z.mi x.pl[a].2})),⟨by show a+1<=_;omega,by show g.set _ _=_;rw [Km A,<-t,Vo D],B.setPo D Z Z,λw hw=>by rcases gf hw with hw | rfl;exact v w hw;show min z.mi _<=_;omega,by show (g.set _ _).length=_;rw [eU];exact b⟩,by show x.pl.length - (a+1)<x.pl.length - a;omega,A0 hF [40] Z (Z) ⟨Z,Z,Z,trivial⟩⟩
  .refine BL ?_;have W:g=x.pl.foldl OL (x.ef.foldl LZ N.po):=by rw [t,ς (by have h:=K;omega)]
   exact ⟨_,[40],_,A4 Z,Z,Z,Z,M2,Z,by unfold pf;rw [<-W];exact B⟩
def BJ (N:dS):List Int:=N.nd.map λx=>x.it.id
def Fb (nb:Nat ->Nat) (ids:List Int):List (Int×Value):=(List.range ids.length).map λi=>(ids.getD i 0,pV (nb i) 0)
theorem Qi {nb:Nat ->Nat} {a:List Int} (c:a.Nodup) (b:o<a.length):AY (Fb nb a) a[o] (.pointer none)=pV (nb o) 0:=by
 refine cc ?_ (υ.2 ⟨o,Γ.2 b,by rw [DW 0 b]⟩)
 have:(Fb nb a).map Prod.fst=a:=by
  unfold Fb;rw [dl];refine fh (by simp) λj g f=>?_
  grind
 grind
abbrev HW (mv:Nat) (bs:Option (List Nat×Nat)) (L:List (Int×Value)) (M:MF):Hp:=[(40,[.multi M]),(50,[.map bs (BK AF KY L)]),(51,[.addr 50 0 (.map (some mv))])]
structure KG where
 id:Int
 re:Int
 r:AO
 by_:Int
def Er:AO:=⟨0,TU,[],[]⟩
def jt:KG:=⟨0,0,Er,0⟩
abbrev bY (e:KG):D:= .agg [AF e.id,AF e.re,AF e.r.k,Ae e.r.acc.o,AF e.r.acc.k,Ae e.r.acc.a,Ae e.r.f,Ae e.r.t,AF e.by_]
abbrev qq (o:Option KG):D:= .tup [bY (o.getD jt),Ac o.isSome]
def eZ (N:dS) (e:Nat×Nat):Bool:=decide ((N.po.getD e.1 Br).mi<e.2)
def Q4 (N:dS) (x:Nd) (e:Nat×Nat):KG:=⟨x.it.id,1,(N.po.getD e.1 Br).r,(N.nd.getD ((N.po.getD e.1 Br).q.getD (N.po.getD e.1 Br).mi 0) Bg).it.id⟩
def dP (N:dS) (id:Int):Bool:=!(N.nd.getD ((BJ N).idxOf id) Bg).on
def F6 (N:dS) (x:Nd):Option KG:=match x.pl.find? (eZ N) with
 | some e=>some (Q4 N x e)
 | none=>match x.it.af.find? (dP N) with
  | some id=>some ⟨x.it.id,2,Er,id⟩
  | none=>none
theorem Ln {b:Type} {p:b ->Bool}:∀{l:List b} {k:Nat} (c:k<l.length),(∀x∈l.take k,p x=false) ->p l[k]=true ->l.find? p=some l[k]
 | a::l,0,_,_,h=>by simp at h;simp [h]
 | a::l,k+1,c,f,h=>by
  have j:p a=false:=f a (by simp);have g:=Ln (l:=l) (k:=k) (by simpa using c) (λx i=>f x (by simp [i])) (by simpa using h);rw [List.find?_cons,j];simpa using g
theorem PW {p:a ->Bool} (h:∀x∈c,p x=false):c.find? p=none:=by grind
structure fD (N:dS):Prop where
 i:(BJ N).Nodup
 a:∀x∈N.nd,∀id∈x.it.af,id∈BJ N
 l:∀x∈N.nd,x.ef.length<=60/\x.pl.length<=1000/\x.it.af.length<=1000
 e:∀x∈N.nd,∀e∈x.ef,-100000000000000000<=e.2/\e.2<=100000000000000000
 p:∀x∈N.nd,∀e∈x.pl,e.2<(N.po.getD e.1 Br).q.length/\e.2<=1000000
 m:∀y∈N.po,y.mi<=1000000
 rm:∀y∈N.po,-1000000000000000000<=y.room/\y.room<=1000000000000000000
 n:N.nd.length<=1000/\N.po.length<=1000
 ql:∀y∈N.po,y.q.length<=1000
theorem jc {wb K:Nat} {nb pb:Nat ->Nat} {N:dS} {M:MF} (bs:Option (List Nat×Nat)) (h:Bp wb K nb pb N M) (hw:fD N) {i:Nat} {x:Nd} (hx:N.nd[i]? =some x):
  AK prog 123 [.d (pD wb 0),.d (pD (nb i) 0)] (HW K bs (Fb nb (BJ N)) M) λr H'=>r= .d (qq (F6 N x))/\H'=HW K bs (Fb nb (BJ N)) M:=by
 have hwb:=h.w;have o:=ϑ hx;obtain ⟨s,hre,C⟩:=h.nn i x hx;have hpz:=TZ C;obtain ⟨_,hpl,hafl⟩:=hw.l x o;have hxe:=h.e x o;have hxp:=hw.p x o;have hxa:=hw.a x o;refine Av func123 Z Z ntmps123 Z Z Z λF hF=>(AC (AE (V (CE 1 I4 Z Z Z Z) (AB Z Z (AD (AC (AC (AE ?_))))))));refine cl Z Z (J (Cy Z Z) (J (Bz Z Jq Z Z Z) (J (EI (f:=40) Z Z (s) Z V7 Z) (J (Ut hpz Z underlying105 Z) (cl Z Z (AD (A2 (Bb (α:=Nat) (λk=>⟨85,[(0,.d (pD wb 0)),(1,.d (pD (nb i) 0)),(4,(.ptr 1 0 0)),(13,(.d (dU x.ph x.pl.length))),(14,(.d (AF (x.pl.length:Int)))),(15,(.d (AF (k:Int))))],(1,[.blk 148 [.d (AF 0),.d (AF 0),.d (AF 0),.d (Ae []),.d (AF 0),.d (Ae []),.d (Ae []),.d (Ae []),.d (AF 0)]])::HW K bs (Fb nb (BJ N)) M⟩) (λk=>k<=x.pl.length/\∀e∈x.pl.take k,eZ N e=false) (λk=>x.pl.length - k) (0) (⟨ϱ _,by simp⟩) (A0 hF [1,40,50,51] Z Z ⟨Z,Z,Z,Z,Z,Z,trivial⟩) ?_))))))));rintro k ⟨hk0,t⟩;refine AC (AE (J (BW Z Z Z) (AD (AC (Ah Z (λI=>?_) (λI=>?_))))))
 .have a:k<x.pl.length:=Bi I;refine AZ (AC (A2 (AC ?_)));obtain ⟨eb,ec,W⟩:=Tb C a;have P:=Qt C W;have hjl:x.pl[k].1<N.po.length:=hxe.2 _ (θ a)
  obtain ⟨y,hy⟩:∃y,N.po[x.pl[k].1]? =some y:=⟨_,ω hjl⟩
  have w:N.po.getD x.pl[k].1 Br=y:=by rw [Δ,hy];rfl
  obtain ⟨l,O⟩:=h.pp _ y hy;have hpk:=hxp _ (θ a);rw [w] at hpk;refine AE (J (Ur W (k) Z Z Z a underlying105 O7 Z) ?_);refine J (D1 (f:=40) (e:=k) Z (Z) Z (P) (Aq a) Z ZS Z) (V (CE 2 Uw Z Z Z Z) (V (Bk Z Z Z Z Z Z Z O7) (AD (AC (Dr [[],[0],[0,1],[0,1,2],[0,1,2,3],[],[5],rg 7] mixed Z (E6 (AX [7] Z (A1 Z Gk Z Z Z) (By [19] [2] Z Z (λ_=>A9 (A5 Z Z Z ER Z)) ?_))))))));refine AX [20] Z (Cy Z Z) (AX [21] Z (Bz Z Jo Z Z Z) (By [22] [40] Z Z (λ_=>A9 (EI (f:=40) Z Z (l) Z BE Z)) (AX [7] Z (A1 Z QY Z Z Z) (By [24] [2] Z Z (λ_=>A9 (A5 Z Z Z BE Z)) (Dh 7 Z Z Z (An 8 Z Z (J (BW Z Z Z) (AD ⟨Z,?_⟩))))))));refine Dg (Ah Z (λA=>?_) (λA=>?_))
  .refine AC ?_;have b:y.mi<y.q.length:=by have h:=A;omega
   obtain ⟨qb,qc,Q⟩:=Tb O b;have E:=Qt O Q;have hni:y.q[y.mi]<N.nd.length:=h.q y (ϑ hy) _ (θ b)
   obtain ⟨z,L⟩:∃z,N.nd[y.q[y.mi]]? =some z:=⟨_,ω hni⟩
   obtain ⟨B,_,_⟩:=h.nn _ z L;have Y:F6 N x=some ⟨x.it.id,1,y.r,z.it.id⟩:=by unfold F6;rw [Ln a t (by unfold eZ;rw [w];exact dm (by have h:=A;omega))];unfold Q4;dsimp only;rw [w,DW 0 b,Δ,L];rfl
   refine Dr [[],[0],[0,1],[0,1,2],[0,1,2,3],[],[5],[5,6],[5,6,7],[5,6,7,8],[],[10],[10,11],[10,11,12],[10,11,12,13],[],[15],[15,16],[15,16,17],[15,16,17,18],[10,11,12,13,14,15,16,17,18,19],[10,11,12,13,14,15,16,17,18,19,20],[10,11,12,13,14,15,16,17,18,19,20,21],[10,11,12,13,14,15,16,17,18,19,20,21,22],[10,11,12,13,14,15,16,17,18,19,20,21,22,23],[10,11,12,13,14,15,16,17,18,19,20,21,22,23,24],rg 26,rg 27,rg 28] mixed Z (E6 (At 1 Z Z (AX [27] Z (Cy Z Z) (AX [28] Z (Bz Z F8 Z Z Z) ?_))));refine AX [29] Z (Bz Z Ny Z Z Z) (By [30] [40] Z Z (λ_=>A9 (EI (f:=40) Z Z (s) Z BE Z)) (AX [7] Z (A1 Z Gk Z Z Z) (By [32] [2] Z Z (λ_=>A9 (A5 Z Z Z ER Z)) (AX [33] Z (Cy Z Z) (AX [34] Z (Bz Z Lp Z Z Z) (By [35] [40] Z Z (λ_=>A9 (Cj (f:=40) Z Z (l) CL Z Z (by simp [D.one]) Z)) (AX [7] Z (A1 Z Gk Z Z Z) (By [37] [2] Z Z (λ_=>A9 (A5 Z Z Z ER Z)) ?_))))))));refine AX [38] Z (Cy Z Z) (AX [39] Z (Bz Z Gl Z Z Z) (By [40] [40] Z Z (λ_=>A9 (EI (f:=40) Z Z (l) Z K5 Z)) (AX [7] Z (A1 Z Gk Z Z Z) (By [42] [2] Z Z (λ_=>A9 (A5 Z Z Z ER Z)) (AX [43] Z (Cy Z Z) (AX [44] Z (Bz Z Jo Z Z Z) (By [45] [40] Z Z (λ_=>A9 (EI (f:=40) Z Z (l) Z BE Z)) (AX [41,46] Z (Ur Q (y.mi) Z Z Z b S1 RH Z) ?_))))))));refine By [47] [40] Z Z (λ_=>A9 (km (f:=40) (e:=y.mi) (off:=0) Z (by omega) Z (E) (Aq b) Z UR Z)) (AX [48] Z (Cy Z Z) (AX [49] Z (Bz Z F8 Z Z Z) (AX [50] Z (Bz Z Ny Z Z Z) (By [51] [40] Z Z (λ_=>A9 (EI (f:=40) Z Z (B) Z BE Z)) (Dh 26 Z Z Z (An 27 Z Z (J (FU I4 Rg Z Z Z) (AD ⟨Z,?_⟩))))))));refine An 28 Z Z (V (Bk Z Z Z Z Z Z Z JF) (AD ⟨Z,?_⟩));refine An 29 Z Z (AB Z Z (AD ⟨Z,?_⟩));refine Dg (A6 ?_);exact ⟨_,[40,50,51],_,A4 Z,Z,Z,by rw [Y];rfl,Z⟩
  .refine AZ (AE (J (Aw Z Z (AQ (k+1) (by omega)) Z) (cl Z Z (AD ?_))));exact ⟨k+1,⟨by show k+1<=_;omega,by rw [φ a];intro e g;rcases ν.1 g with g | g;exact t e g;rw [ξ.1 g];unfold eZ;rw [w];exact dw (by have h:=A;omega)⟩,by show x.pl.length - (k+1)<x.pl.length - k;omega,A0 hF [1,40,50,51] Z (Z) ⟨Z,Z,Z,Z,Z,Z,trivial⟩⟩
 .refine BL (AC (AC ?_));have R:x.pl.find? (eZ N)=none:=PW (by have e:k=x.pl.length:=(by have h:=I;omega);rw [e,eo] at t;exact t);refine AE (cl Z Z ?_);refine J (Cy Z Z) (J (Bz Z F8 Z Z Z) (J (Bz Z FE Z Z Z) (J (EI (f:=40) Z Z (s) Z BI Z) (J (CV Z E0 Z) (cl Z Z (AD (A2 (Bb (α:=Nat) (λj=>⟨85,[(0,.d (pD wb 0)),(1,.d (pD (nb i) 0)),(4,(.ptr 1 0 0)),(59,(.d (.sl none (x.it.af.map AF)))),(60,(.d (AF (x.it.af.length:Int)))),(61,(.d (AF (j:Int))))],(1,[.blk 148 [.d (AF 0),.d (AF 0),.d (AF 0),.d (Ae []),.d (AF 0),.d (Ae []),.d (Ae []),.d (Ae []),.d (AF 0)]])::HW K bs (Fb nb (BJ N)) M⟩) (λj=>j<=x.it.af.length/\∀id∈x.it.af.take j,dP N id=false) (λj=>x.it.af.length - j) (0) (⟨ϱ _,by simp⟩) (A0 hF [1,40,50,51] Z Z ⟨Z,Z,Z,Z,Z,Z,trivial⟩) ?_))))))));rintro j ⟨hj0,u⟩;refine AC (AE (J (BW Z Z Z) (AD (AC (Ah Z (λH=>?_) (λH=>?_))))))
  .have v:j<x.it.af.length:=Bi H;refine AZ (AC (A2 (AC ?_)));have T:=hxa _ (θ v);have c:=gi T;have S:(BJ N).idxOf x.it.af[j]<N.nd.length:=by unfold BJ at c⊢;rw [ψ] at c;exact c
   obtain ⟨z,L⟩:∃z,N.nd[(BJ N).idxOf x.it.af[j]]? =some z:=⟨_,ω S⟩
   have U:N.nd.getD ((BJ N).idxOf x.it.af[j]) Bg=z:=by rw [Δ,L];rfl
   obtain ⟨B,_,_⟩:=h.nn _ z L;have X:=Qi (nb:=nb) hw.i c;rw [iA c] at X;refine AE (J (Bq (j) Z Z (Z) (Aq v) E0 Z B4 Z) ?_);refine J (EJ Z Z BE Z) (AB Z Z (AD (AC (AE (cl Z Z (J (Cy Z Z) (J (Bz Z Lq Z Z Z) (J (EI (f:=40) Z Z (hwb) Z V9 Z) ?_))))))));refine DJ 68 51 0 Z Z (cl Z Z (J (HO (Fb nb (BJ N)) x.it.af[j] (.pointer none) (pV (nb ((BJ N).idxOf x.it.af[j])) 0) Z Z Z Vm HI iE X Z) (J (Cy Z Z) (J (Bz Z E5 Z Z Z) (J (EI (f:=40) Z Z (B) Z ms Z) (J (CF Z Z) (AD (KH Z (λG=>?_) (λG=>?_)))))))))
   .refine AC (AE (cl Z Z (J (Cy Z Z) (J (Bz Z F8 Z Z Z) ?_))));refine J (Bz Z Ny Z Z Z) (J (EI (f:=40) Z Z (s) Z BE Z) (J (FU LY Rf Z Z Z) (cl Z Z (J (FU I4 Rg Z Z Z) (V (Bk Z Z Z Z Z Z Z JF) (AB Z Z (AD (A6 ?_))))))));exact ⟨_,[40,50,51],_,A4 Z,Z,Z,by unfold F6;rw [R];dsimp only;rw [Ln v u (by unfold dP;rw [U];simpa using G)];rfl,Z⟩
   .refine AZ (AE (J (Aw Z Z (AQ (j+1) (by omega)) Z) (cl Z Z (AD ?_))));exact ⟨j+1,⟨by show j+1<=_;omega,by rw [φ v];intro e g;rcases ν.1 g with g | g;exact u e g;rw [ξ.1 g];unfold dP;rw [U];simpa using G⟩,by show x.it.af.length - (j+1)<x.it.af.length - j;omega,A0 hF [1,40,50,51] Z (Z) ⟨Z,Z,Z,Z,Z,Z,trivial⟩⟩
  .refine BL (AC (AE (J (FU I4 Rg Z Z Z) (V (Bk Z Z Z Z Z Z Z JF) (AB Z Z (AD (A6 ?_)))))));exact ⟨_,[40,50,51],_,A4 Z,Z,Z,by unfold F6;rw [R];dsimp only;rw [PW (by have e:j=x.it.af.length:=(by have h:=H;omega);rw [e,eo] at u;exact u)];rfl,Z⟩
abbrev bW:FuncId:=168
theorem k8 (h:Hd) (n:Nat):AK prog 124 [.d (dU h n)] [] λr f=>r= .fn bW [.d (.ptr (dU h n))]/\f=[]:=by
 refine Av func124 Z Z ntmps124 Z Z Z λF b=>(AC (AE (V (CQ 1 Z Z Z Z Z Z Z) ?_)));refine AB Z Z (AD (AC (AE (PA 1 1 (dU h n) [] b Z Z Z (by intro c a;simp [D.cells] at a;subst a;rfl) Z Z Z (J (oZ Z Z) (AB Z Z (AD (A6 ?_))))))));exact ⟨_,[],[],A4 Z,Z,Z,Z,Z⟩
def KV (q:List Nat):Nat ->List (Nat×Nat)
 | 0=> []
 | c+1=>(c,q.getD c 0)::KV q c
def bb (nb:Nat ->Nat) (e:Nat×Nat):List AV:=[.d (AF (e.1:Int)),.d (BC (nb e.2))]
section
variable {β:Type}
theorem k9 (y:Nat ->Nat) (q:List Nat) (T:q.length<=100000) {M:MF} {h:Hd} (j:Ax M h 99 1 (q.map λi=>BC (y i))) (l:Nat) (H:β ->Hp) (N:List Nat) (step:β ->Nat×Nat ->β×Bool) (g:β) (K:∀a,fE (H a)=N) (Q:∀a,cj N (H a)=true) (I:∀a,BN (H a) N=some (H a)) (P:∀a,cu (H a) 40=some [.multi M])
  (A:LX prog l (bb y) H step g (KV q q.length)):
  AK prog bW [.d (.raw (C9 l)),.d (.ptr (dU h q.length))] (H g) λr G=>r= .tup []/\G=H (HF step g (KV q q.length)):=by
 have O:=TZ j;have x:∀a,AP N (H a)=true:=λa=>by have h:=ED (H a);rw [K] at h;exact h
 have L:∀a,CC N (H a)=some []:=λa=>by have h:=Oo (H a);rw [K] at h;exact h
 refine Av func168 Z Z ntmps168 Z Z Z λF U=>?_;refine AC (AE (J (EJ Z Z K5 Z) (J (Ut O Z S1 Z) (J (Pg Z Z (Ξ _ (by omega)) Z) (AB Z Z (AD (A2 (Hq (α:=Nat×β) (λp=>⟨19,[(0,.d (.raw (C9 l))),(1,.d (.ptr (dU h q.length))),(3,(.d (AF ((p.1:Int) - 1))))],H p.2⟩) (λp=>p.1<=q.length/\LX prog l (bb y) H step p.2 (KV q p.1)/\HF step p.2 (KV q p.1)=HF step g (KV q q.length)) (λp=>p.1) ((q.length,g)) (⟨κ _,A,Z⟩) (hG ⟨Z,Z,Z,trivial⟩) ?_))))))));rintro ⟨c,a⟩ ⟨B,u,b⟩;dsimp only at B u b⊢;refine AC (AC (AE (cl Z Z (J (D2 Z Z Z) (AD (Ah Z (λC=>?_) (λC=>?_)))))))
 .obtain ⟨k,rfl⟩:∃k,c=k+1:=⟨c - 1,by have h:=C;omega⟩
  refine AZ (AC (A2 (AC ?_)));have o:k<q.length:=by omega
  obtain ⟨S,R,w⟩:=Tb j o;have t:=Qt j w;have z:((k+1:Nat):Int) - 1=(k:Int):=by omega
  rw [z];refine AE (cl Z Z (cl Z Z (J (EJ Z Z K5 Z) (cl Z Z (J (Ur w (k) Z Z Z o S1 RH Z) (J (km (f:=40) (e:=k) (off:=0) Z (by omega) (P a) t (Aq o) Z UR Z) ?_))))));rw [<-DW 0 o];refine Ru Z Z u.1 N (Ef λ_ _=>rfl) (x a) (L a) Z Z (λr G ⟨E,D⟩=>by subst E D;exact ⟨x _,Q _,Z⟩) Z λr G ⟨E,D⟩=>?_;subst E D;rw [en];refine J (CF Z Z) (AD (KH Z (λv=>?_) (λv=>?_)))
  .have s:(step a (k,q.getD k 0)).2=false:=by simpa using v
   refine A6 ?_;exact ⟨_,N,_,A4 Z,I _,x _,Z,by rw [<-b];show H _=H (HF step a ((k,q.getD k 0)::KV q k));rw [Df,η (by rw [s];decide)]⟩
  .have s:(step a (k,q.getD k 0)).2=true:=by simpa using v
   refine AZ (AE (cl Z Z (J (Pg Z Z (Ξ _ (by omega)) Z) (AB Z Z (AD ?_)))));exact ⟨(k,(step a (k,q.getD k 0)).1),⟨by show k<=_;omega,u.2 s,by show HF step (step a (k,q.getD k 0)).1 (KV q k)=_;rw [<-b];show _=HF step a ((k,q.getD k 0)::KV q k);rw [Df,ϖ s]⟩,by show k<k+1;omega,⟨Z,Z,λ_ _=>Td.get (l:=[(0,_),(1,_),(3,_)]) ⟨Z,Z,Z,trivial⟩⟩⟩
 .refine BL ?_;exact ⟨_,N,_,A4 Z,I _,x _,Z,by rw [<-b];have e:c=0:=(by have h:=C;omega);rw [e];rfl⟩
end
variable {M:MF}
def eB (N:dS) (i:Nat):Bool:=(N.nd.getD i Bg).on
def PH (N:dS) (x:Nd):Option KG:=if x.on=true then F6 N x else none
def T6 (N:dS) (y:Po):Option KG:=if OH y y.sum=true then (y.q.reverse.find? (eB N)).map λi=>⟨(N.nd.getD i Bg).it.id,0,y.r,-1⟩ else none
def CG (N:dS):Option KG:=match N.nd.findSome? (PH N) with
 | some e=>some e
 | none=>N.po.findSome? (T6 N)
theorem Hf {g c:Type} {f:g ->Option c}:∀{l:List g} {k:Nat} (i:k<l.length) {b:c},(∀x∈l.take k,f x=none) ->f l[k]=some b ->l.findSome? f=some b
 | a::l,0,_,b,_,h=>by simp at h;rw [lD,h]
 | a::l,k+1,i,b,j,h=>by
  have s:f a=none:=j a (by simp);have o:=Hf (l:=l) (k:=k) (by simpa using i) (λx r=>j x (by simp [r])) (by simpa using h);rw [lD,s];exact o
theorem He {a b:Type} {f:a ->Option b} {l:List a} (h:∀x∈l,f x=none):l.findSome? f=none:=List.findSome?_eq_none_iff.2 h
def m0:Bool ->LoopState
 | true=> .done
 | false=> .ready
def qM:Bool ->Option Code
 | true=>some .ret
 | false=>none
def HT (N:dS) (_st:Option Nat) (e:Nat×Nat):Option Nat×Bool:=if eB N e.2=true then (some e.2,false) else (none,true)
theorem bV (N:dS) (q:List Nat):∀n,n<=q.length ->HF (HT N) none (KV q n)=((q.take n).reverse.find? (eB N))
 | 0,_=>rfl
 | n+1,h=>by
  have a:n<q.length:=by omega
  show HF (HT N) none ((n,q.getD n 0)::KV q n)=_;rw [Df,φ a,List.reverse_append,List.reverse_singleton,List.singleton_append,List.find?_cons,DW 0 a];unfold HT;dsimp only
  cases ho:eB N q[n] with
  | true=>rfl
  | false=>exact bV N q n (by omega)
theorem WD {P:Program} {l:Nat} {c:Nat ->Nat} {H:Option Nat ->Hp} (N:dS) (q:List Nat) (g:∀k (s:k<q.length),Fm P l (bb c (k,q[k])) (H none) λv i=>v= .d (.raw (.bool (!eB N q[k])))/\i=H (if eB N q[k]=true then some q[k] else none)):∀n,n<=q.length ->LX P l (bb c) H (HT N) none (KV q n)
 | 0,_=>trivial
 | n+1,h=>by
  have f:n<q.length:=by omega
  have j:=g n f;show LX P l (bb c) H (HT N) none ((n,q.getD n 0)::KV q n);rw [DW 0 f];refine ⟨j.mono λv i ⟨r,o⟩=>⟨by rw [r];unfold HT;cases eB N q[n]<;>rfl,by rw [o];unfold HT;cases eB N q[n]<;>rfl⟩,λa=>?_⟩
  have b:eB N q[n]=false:=by
   cases ho:eB N q[n] with
   | false=>rfl
   | true=>unfold HT at a;dsimp only at a;rw [ho] at a;cases a
  have:(HT N none (n,q[n])).1=none:=by unfold HT;dsimp only;rw [b];rfl
  rw [this];exact WD N q g n (by omega)
abbrev nq (e:KG):AJ:= .blk 148 [.d (AF e.id),.d (AF e.re),.d (AF e.r.k),.d (Ae e.r.acc.o),.d (AF e.r.acc.k),.d (Ae e.r.acc.a),.d (Ae e.r.f),.d (Ae e.r.t),.d (AF e.by_)]
def qp (N:dS) (y:Po) (o:Option Nat):KG:=match o with
 | none=>jt
 | some i=>⟨(N.nd.getD i Bg).it.id,0,y.r,-1⟩
abbrev rJ (N:dS) (y:Po) (pbk mv:Nat) (bs:Option (List Nat×Nat)) (L:List (Int×Value)) (M:MF) (o:Option Nat):Hp:=[(1,[nq (qp N y o)]),(2,[.blk 4 [.d (Ac o.isSome)]]),(4,[.blk 109 [.d (BC pbk)]]),(40,[.multi M]),(50,[.map bs (BK AF KY L)]),(51,[.addr 50 0 (.map (some mv))])]
theorem nE {wb H:Nat} {nb pb:Nat ->Nat} {N:dS} (O:Option (List Nat×Nat)) (h:Bp wb H nb pb N M) (hw:fD N) (hs:RM N.po 1000000000000000000):
  AK prog 63 [.d (pD wb 0)] (HW H O (Fb nb (BJ N)) M) λr H'=>r= .d (qq (CG N))/\H'=HW H O (Fb nb (BJ N)) M:=by
 have hwb:=h.w;have T:Ax M N.nh 99 1 ((List.range N.nd.length).map λi=>BC (nb i)):=h.rs.1 .n;have S:Ax M N.mh 109 1 ((List.range N.po.length).map λj=>BC (pb j)):=h.rs.1 .m;have hnz:=TZ T;have hpz:=TZ S;rw [eT] at hnz hpz;have hnl:=hw.n
 obtain ⟨L,hL⟩:∃L,Fb nb (BJ N)=L:=⟨_,Z⟩
 have I:=λi x G=>jc (i:=i) (x:=x) O h hw G;rw [hL] at I⊢;refine Np func63 Z Z ntmps63 Z Z Z λF K hFl=>(AC (AE (V (CE 1 I4 Z Z Z Z) (V (CE 2 s7 Z Z Z Z) (AD (AC (AC (AE ?_))))))));refine cl Z Z (J (Cy Z Z) (J (Bz Z IN Z Z Z) (J (EI (f:=40) Z Z (hwb) Z K5 Z) (J (Ut hnz Z S1 Z) (cl Z Z (AD (A2 (Bb (α:=Nat) (λk=>⟨74,[(0,.d (pD wb 0)),(2,(.ptr 1 0 0)),(3,(.ptr 2 0 0)),(15,(.d (dU N.nh N.nd.length))),(16,(.d (AF (N.nd.length:Int)))),(17,(.d (AF (k:Int))))],(1,[nq jt])::(2,[.blk 4 [.d (Ac false)]])::HW H O L M⟩) (λk=>k<=N.nd.length/\∀x∈N.nd.take k,PH N x=none) (λk=>N.nd.length - k) (0) (⟨ϱ _,by simp⟩) (A0 K [1,2,40,50,51] Z Z ⟨Z,Z,Z,Z,Z,Z,trivial⟩) ?_))))))));rintro k ⟨hk0,w⟩;refine AC (AE (J (BW Z Z Z) (AD (AC (Ah Z (λY=>?_) (λY=>?_))))))
 .have g:k<N.nd.length:=Bi Y;refine AZ (AC (A2 (AC ?_)))
  obtain ⟨x,G⟩:∃x,N.nd[k]? =some x:=⟨_,ω g⟩
  have R:N.nd[k]=x:=by rw [ω g] at G;injection G
  obtain ⟨E,_,_⟩:=h.nn k x G;obtain ⟨rb,rc,u⟩:=Tb T (j:=k) (by rw [eT];exact g);have t:=Qt T u;refine AE (J (Ur u (k) Z Z Z g S1 RH Z) (J (km (f:=40) (e:=k) (off:=0) Z (by omega) Z (t) ((by rw [ζ,gG g];rfl)) Z UR Z) ?_));refine AB Z Z (AD (AC ?_));refine AC (AE (cl Z Z (J (Cy Z Z) (J (Bz Z E5 Z Z Z) (J (EI (f:=40) Z Z (E) Z ms Z) (J (CF Z Z) (AD (KH Z (λX=>?_) (λX=>?_)))))))))
  .have c:PH N x=none:=by unfold PH;rw [η (by simpa using X)]
   refine BL ?_
   try have c:PH N x=none:=by unfold PH;split<;>first | exact hin | rfl
   refine AE (J (Aw Z Z (AQ (k+1) (by omega)) Z) (cl Z Z (AD ?_)));exact ⟨k+1,⟨by show k+1<=_;omega,by rw [φ g];intro e a;rcases ν.1 a with a | a;exact w e a;rw [ξ.1 a,R];exact c⟩,by show N.nd.length - (k+1)<N.nd.length - k;omega,A0 K [1,2,40,50,51] Z (Z) ⟨Z,Z,Z,Z,Z,Z,trivial⟩⟩
  .refine AZ (AC (AE (cl Z Z (cl Z Z (V (Eh (I k x G) Z [40,50,51] ⟨Z,Z,Z,trivial⟩ Z Z Z Z Z Z Z Z Z) ?_)))));refine cl Z Z (J (Ds Z Z Z) (J (Ds Z Z Z) (V (CE 3 I4 Z Z Z Z) (V (Bk Z Z Z Z Z Z Z JF) (AB Z Z (AD (AC (AE ?_))))))))
   cases hin:F6 N x
   .refine cl Z Z (AD (EV Z (Z) (AZ ?_)))
    try have c:PH N x=none:=by unfold PH;split<;>first | exact hin | rfl
    refine AE (J (Aw Z Z (AQ (k+1) (by omega)) Z) (cl Z Z (AD ?_)));exact ⟨k+1,⟨by show k+1<=_;omega,by rw [φ g];intro e a;rcases ν.1 a with a | a;exact w e a;rw [ξ.1 a,R];exact c⟩,by show N.nd.length - (k+1)<N.nd.length - k;omega,A0 K [1,2,40,50,51] Z (Z) ⟨Z,Z,Z,Z,Z,Z,trivial⟩⟩
   .refine cl Z Z ?_;refine AD (Dt Z (Z) (AC (AE (J (B1 Z Z lX Z Z Z) (V (Bk Z Z Z Z Z Z Z JF) (V (Bk Z Z Z Z Z Z Z pP) (AD (A6 ?_))))))));exact ⟨_,[40,50,51],_,A4 Z,Z,Z,by unfold CG;rw [Hf g w (by rw [R];unfold PH;rw [ϖ (by simpa using X)];exact hin)];rfl,Z⟩
 .refine BL (AC (AC ?_));have hnn:N.nd.findSome? (PH N)=none:=He (by have e:k=N.nd.length:=(by have h:=Y;omega);rw [e,eo] at w;exact w);refine AE ?_;refine cl Z Z (J (Cy Z Z) (J (Bz Z Js Z Z Z) (J (EI (f:=40) Z Z (hwb) Z Va Z) (J (Ut hpz Z underlying100 Z) (cl Z Z (AD (A2 (Bb (α:=Nat) (λj=>⟨74,[(2,(.ptr 1 0 0)),(3,(.ptr 2 0 0)),(38,(.d (dU N.mh N.po.length))),(39,(.d (AF (N.po.length:Int)))),(40,(.d (AF (j:Int))))],(1,[nq jt])::(2,[.blk 4 [.d (Ac false)]])::HW H O L M⟩) (λj=>j<=N.po.length/\∀y∈N.po.take j,T6 N y=none) (λj=>N.po.length - j) (0) (⟨ϱ _,by simp⟩) (A0 K [1,2,40,50,51] Z Z ⟨Z,Z,Z,Z,Z,trivial⟩) ?_))))))));rintro j ⟨hj0,z⟩;refine AC (AE (J (BW Z Z Z) (AD (AC (Ah Z (λW=>?_) (λW=>?_))))))
  .have s:j<N.po.length:=Bi W;refine AZ (AC (A2 (AC ?_)))
   obtain ⟨y,hy⟩:∃y,N.po[j]? =some y:=⟨_,ω s⟩
   have P:N.po[j]=y:=by rw [ω s] at hy;injection hy
   have C:=ϑ hy;obtain ⟨Q,hyq⟩:=h.pp j y hy;obtain ⟨rb,rc,u⟩:=Tb S (j:=j) (by rw [eT];exact s);have t:=Qt S u;have hys:=hs y C;have hov:=LH h hy y.sum (hw.rm y C) (by omega);have hql:=hw.ql y C;refine AE (J (Ur u (j) Z Z Z s underlying100 Yn Z) (J (km (f:=40) (e:=j) (off:=0) Z (by omega) Z (t) ((by rw [ζ,gG s];rfl)) Z ER Z) ?_));refine V (CE 4 pF Z Z Z Z) (V (Bk Z Z Z Z Z Z Z Yn) (AD (AC (AC (Dr [[],[],[1],[1,2],[1,2,3],rg 5,rg 6] mixed Z (E6 ?_))))));refine By [9] [4] Z Z (λ_=>A9 (A5 Z Z Z ER Z)) (By [9] [4] Z Z (λ_=>A9 (A5 Z Z Z ER Z)) (AX [45] Z (Cy Z Z) (AX [46] Z (Bz Z Jp Z Z Z) (By [47] [40] Z Z (λ_=>A9 (EI (f:=40) Z Z (Q) Z L3 Z)) (Dh 5 Z Z Z (An 6 Z Z (V (Eh hov Z [40] ⟨Z,trivial⟩ Z Z Z Z Z Z Z Z Z) (AD ⟨Z,?_⟩))))))));refine An 7 Z Z ?_
   cases hovy:OH y y.sum
   .refine J (CF Z Z) (AD ⟨Z,?_⟩);refine Dg (Dt Z (Z) (BL ?_));have b:T6 N y=none:=by unfold T6;first | (rw [η (by rw [hovy];decide)]) | (rw [ϖ hovy,<-ho];rfl)
    refine AE (J (Aw Z Z (AQ (j+1) (by omega)) Z) (cl Z Z (AD ?_)));exact ⟨j+1,⟨by show j+1<=_;omega,by rw [φ s];intro e a;rcases ν.1 a with a | a;exact z e a;rw [ξ.1 a,P];exact b⟩,by show N.po.length - (j+1)<N.po.length - j;omega,A0 K [1,2,40,50,51] Z (Z) ⟨Z,Z,Z,Z,Z,trivial⟩⟩
   .refine J (CF Z Z) (AD ⟨Z,?_⟩);refine Dg (EV Z (Z) (AZ ?_));refine AC (AE (J (A5 Z Z Z ER Z) (J (Cy Z Z) (J (Bz Z Gl Z Z Z) (J (EI (f:=40) Z Z (Q) Z K5 Z) (V (Eh (k8 y.qh y.q.length) Z [] trivial Z Z Z Z Z Z Z Z Z) (AD (A2 ?_))))))));refine c8 [2,3,9,38,39,40,55] Z ?_;refine WV (γ:=Option Nat) hFl 900 Z Z Z Z Z [1,2,4,40,50,51] (CHr:=rJ N y (pb j) H O L M none) (λo=>o=y.q.reverse.find? (eB N)) (λo=>rJ N y (pb j) H O L M o) (λo=>m0 o.isSome) (λo=>qM o.isSome) ⟨Z,Z,Z,Z,Z,Z,trivial⟩ Z Z Z (λ_=>rfl) (λ_=>rfl) Z (λo _=>by cases o<;>simp [m0]) (λ_ _=>⟨Z,Z⟩) [1,2,4,40,50,51] K Z Z (λ_ _=>rfl) (λl A B hA hB=>?_) (λo ho=>?_)
    .refine (k9 nb y.q (by omega) hyq l (λo:Option Nat=>(900,[.loop ⟨l,74,[(2,.ptr 1 0 0),(3,.ptr 2 0 0),(9,.ptr 4 0 0),(38,.d (dU N.mh N.po.length)),(39,.d (AF (N.po.length:Int))),(40,.d (AF (j:Int))),(55,.fn bW [.d (.ptr (dU y.qh y.q.length))])],m0 o.isSome,qM o.isSome, #[56,57],A,B⟩])::rJ N y (pb j) H O L M o) [900,1,2,4,40,50,51] (HT N) none (λ_=>rfl) (λ_=>rfl) (λ_=>rfl) (λ_=>rfl) ?_).mono (λr H' ⟨e1,e2⟩=>⟨e1,_,Z,by rw [e2,bV N y.q y.q.length (κ _),eo]⟩);refine WD N y.q (λk2 hk2=>?_) y.q.length (κ _);have hni:y.q[k2]<N.nd.length:=h.q y C _ (θ hk2)
     obtain ⟨x,G⟩:∃x,N.nd[y.q[k2]]? =some x:=⟨_,ω hni⟩
     obtain ⟨E,_,_⟩:=h.nn _ x G;have hgx:N.nd.getD y.q[k2] Bg=x:=by rw [Δ,G];rfl
     have hon:eB N y.q[k2]=x.on:=by unfold eB;rw [hgx]
     refine Qx (lf:=900) Z Z Z Z λF K hr=>(Bf.code hA (AE (AB Z Z (AD (⟨Z,_,_,Z,Z,Z,Z,?_⟩)))));refine Bf.code hB ?_;refine A2 (AC (AE (cl Z Z (J (Cy Z Z) (J (Bz Z E5 Z Z Z) (J (EI (f:=40) Z Z (E) Z ms Z) (AD (KH Z (λU=>?_) (λU=>?_)))))))))
     .refine AC (Dr [[],[0],[0,1],[0,1,2],[0,1,2,3],[],[5],[5,6],[5,6,7],rg 9,rg 10,rg 11] mixed Z (E6 (At 11 Z Z (AX [62] Z (Cy Z Z) (AX [63] Z (Bz Z F8 Z Z Z) (AX [64] Z (Bz Z Ny Z Z Z) ?_))))));refine By [65] [40] Z Z (λ_=>A9 (EI (f:=40) Z Z (E) Z BE Z)) (By [9] [4] Z Z (λ_=>A9 (A5 Z Z Z ER Z)) (AX [67] Z (Cy Z Z) (AX [68] Z (Bz Z Lp Z Z Z) (By [69] [40] Z Z (λ_=>A9 (Cj (f:=40) Z Z (Q) CL Z Z (by simp [D.one]) Z)) (Dh 9 Z Z Z (An 10 Z Z (J (FU I4 Rg Z Z Z) (AD ⟨Z,?_⟩))))))));refine An 11 Z Z (V (Bk Z Z Z Z Z Z Z JF) (AD ⟨Z,?_⟩));refine An 12 Z Z (V (Bk Z Z Z Z Z Z Z pP) (AD ⟨Z,?_⟩));refine Dg (A6 ?_);have v:eB N y.q[k2]=true:=by rw [hon];simpa using U
      exact ⟨some .ret,_,_,[900,1,2,4,40,50,51],_,Z,Z,Z,Z,Z,Z,by rw [v];rfl,by rw [ϖ v];simp only [rJ,qp,hgx];rfl⟩
     .refine AZ ?_;have v:eB N y.q[k2]=false:=by rw [hon];simpa using U
      exact ⟨none,_,_,[900,1,2,4,40,50,51],_,Z,Z,Z,Z,Z,Z,by rw [v];rfl,by rw [η (by rw [v];decide)];rfl⟩
    .rcases o with _ | i0
     .have b:T6 N y=none:=by unfold T6;first | (rw [η (by rw [hovy];decide)]) | (rw [ϖ hovy,<-ho];rfl)
      refine AE (J (Aw Z Z (AQ (j+1) (by omega)) Z) (cl Z Z (AD ?_)));exact ⟨j+1,⟨by show j+1<=_;omega,by rw [φ s];intro e a;rcases ν.1 a with a | a;exact z e a;rw [ξ.1 a,P];exact b⟩,by show N.po.length - (j+1)<N.po.length - j;omega,A0 K [1,2,40,50,51] Z (Z) ⟨Z,Z,Z,Z,Z,trivial⟩⟩
     .show Bf _ _ .ret _ _;refine A6 ?_;exact ⟨_,[40,50,51],_,A4 Z,Z,Z,by unfold CG;rw [hnn];dsimp only;rw [Hf s z (by rw [P];unfold T6;rw [ϖ hovy,<-ho];rfl)];rfl,Z⟩
  .refine BL (AC (AE (J (FU I4 Rg Z Z Z) (V (Bk Z Z Z Z Z Z Z JF) (V (Bk Z Z Z Z Z Z Z pP) (AD (A6 ?_)))))));exact ⟨_,[40,50,51],_,A4 Z,Z,Z,by unfold CG;rw [hnn];dsimp only;rw [He (by have e:j=N.po.length:=(by have h:=W;omega);rw [e,eo] at z;exact z)];rfl,Z⟩
theorem SR.splitH {F:Fr} {s:AS} {L:Nat ->Nat ->Value} {k:Act} {w:World} (l:SR F s L k w) (t g f:Nat) {T:TypeId} {A m:Nat} {h:Hd} {I:List D} {u:List (Nat×AV)} {c hp':Hp} (C:Nat.beq g f=false)
  (B:get s.env t=some (.d (dU h m))) (Y:m=I.length) (hM:cu s.hp f=some [.multi M]) (j:Ax M h T A I) (hE:AT g s.env=some u) (J:AR g s.hp=some c) (R:cu c g=none) (E:BZ c f (BV M h)=some hp'):
  ∃v,SR F ⟨s.n,(t,.own g 0 m)::u,(g,[.rowD T A I])::hp'⟩ (upd L g 0 v) k w:=by
 match h,B,j,E with
 | some (b,cap),B,j,E=>exact ⟨_,l.splitR t g f (cap:=cap) (b:=b) C B Y hM j.2 hE J R E⟩
 | none,B,j,E=>
  have S:I=[]:=j;subst S Y;have hgf:g≠f:=fg C;refine ⟨.slice none 0 0,?_⟩
  have V:hp'=c:=by
   have P:∀(H z:Hp),cu H f=some [.multi M] ->BZ H f M=some z ->z=H:=by
    intro H
    induction H with
    | nil=>intro z h;cases h
    | cons p r ih=>
     grind [cu,BZ]
   obtain ⟨a1,a2⟩:=Aj J
   have W:cu c f=some [.multi M]:=by
    have X:∀(H z:Hp),Bt (BS g) H=some z ->cu H f=some [.multi M] ->cu z f=some [.multi M]:=by
     intro H
     induction H with
     | nil=>intro z _ h;cases h
     | cons p r ih=>
      grind [Bt,Dq,cu,Bm]
    grind
   exact P c hp' W E
  rw [V]
  have h1:SR F ⟨s.n,(t,.d (.sl (some true) []))::s.env,s.hp⟩ L k w:=⟨l.size,l.defs,λN a y=>by
   rcases Ky y with ⟨rfl,rfl⟩ | ⟨_,y⟩
   .have j:=l.env t _ B
    generalize k.tmps.getD t undef=x at j⊢
    cases j with
    | d h=>cases h with
     | raw _=>exact .d (.sl 0 (λb G=>by cases G;rfl) (λ_=>rfl) Z (κ _) (ϱ _) (λx U=>by cases U) (λh=>absurd Z h) (λb o G=>by cases G))
   .exact l.env N a y,l.heap⟩
  obtain ⟨k1,k2⟩:=Aj J
  have Q:∀i,cr s.hp g i=none:=λi=>by
   cases hq:cr s.hp g i with
   | none=>rfl
   | some o=>
    obtain ⟨o2,O,_⟩:=k2 _ _ _ hq;unfold cr at O;rw [R] at O;cases O
  have K:=l.set g 0 (.rowD T A []) (.slice none 0 0) (hp':=(g,[.rowD T A []])::c) hE J (λf' i=>by
   by_cases e:g=f'
   .subst e;simp only [cr,cu,fH,gL,true_and,Kh (o:= .rowD T A []) Z,R,Option.bind_none]
    cases i<;>simp
   .simp only [cr,cu,HK e]
    rw [η (λhh=>e hh.1.symm)]) (λt cs e=>by rw [Q] at e;cases e) (λb G=>by cases G) Z Z Z (κ _) (λ_ _ _=>rfl) (λ_=>⟨[],World.ownsRow_nil w 0 T A,⟨by simp,by simp,λi x U=>by simp at U⟩,by simp⟩)
  refine ⟨K.size,K.defs,λN a y=>?_,K.heap⟩;rcases Ky y with ⟨rfl,rfl⟩ | ⟨_,y⟩
  .have j:=l.env t _ B
   generalize k.tmps.getD t undef=x at j⊢
   cases j with
   | d h=>cases h with | raw _=>exact .own OY (κ _)
  .exact K.env N a y
section
variable {P:Program} {F:Fr} {Q:Exit ->AS ->Prop} {c:Code} {ops:Array Oper} {l:List Oper} {n:Nat} {env env1 env':List (Nat×AV)} {hp hp1 hp2 hp3:Hp}
theorem GZ {o:Oper} (t g f:Nat) {M:MF} {T:TypeId} {y m:Nat} {h:Hd} {r:List D} {b:Hp} {x:AS} (C:Ax M h T y r) (s:Nat.beq g f=false) (A:get env t=some (.d (dU h m))) (E:m=r.length) (H:cu hp f=some [.multi M]) (J:AT g env=some env') (I:AR g hp=some hp1) (z:cu hp1 g=none) (G:BZ hp1 f (BV M h)=some b)
  (N:AH P F o ⟨n,(t,.own g 0 m)::env',(g,[.rowD T y r])::b⟩ x (BS g)):AH P F o ⟨n,env,hp⟩ x (BS g):=λR u w B=>by
 obtain ⟨v,O⟩:=B.splitH t g f s A E H C J I z G;exact hQ (λa S ⟨k,L,K⟩=>⟨k,L,λf i j=>(K f i j).trans (MA λe=>Ql j e.1)⟩) (N _ u w O)
end
variable {a c:Nat ->Nat} {N:dS} {M:MF} {f g i h:Nat} {x:Nd} {j:List D} {t:TypeId} {k o s:Nat} {y:Po} {u:A7} {w:MF}
theorem Bp.row {N':dS} (i:Bp f g c a N M) (k:RI) {w0 w1:dY} (B:CB c a N k=w0) (A:CB c a N' k=w1) (y:∀r,r≠k ->CB c a N' r=CB c a N r) (u:BV M w0.h h=none) (z:w1.h=some (h,o)) (w:w1.xs.length<=o):
  EW (BM (BV M w0.h) h (.row w1.t w1.k o w1.xs)) (CB c a N')/\∀(s:Nat) (t:TypeId) (l:List D),M s=some (.cells t l) ->BM (BV M w0.h) h (.row w1.t w1.k o w1.xs) s=some (.cells t l):=by
 subst B A;refine ⟨i.rs.upd k y u z w,λs t l v=>fP u v λj x=>?_⟩;have:=i.rs.blk x
 grind
theorem Bp.putNd (h:Bp f g c a N M) {l:Nd} (C:N.nd[i]? =some x) (E:∀(F:Nat) (t:TypeId) (s:List D),M F=some (.cells t s) ->w F=some (.cells t s)) (G:EW w (CB c a {N with nd:=N.nd.set i l})) (J:(∀e∈l.ef,e.1<N.po.length)/\∀e∈l.pl,e.1<N.po.length):
  Bp f g c a {N with nd:=N.nd.set i l} (BM w (c i) (T9 l)):=by
 have K:=h.n i x C;have B:=(χ.1 C).1
 have u:∀(b:Nat) (t:TypeId) (s:List D),t≠107 ->M b=some (.cells t s) ->BM w (c i) (T9 l) b=some (.cells t s):=λb t s O P=>by
  grind [Gz]
 refine ⟨λj z r=>?_,λj y v=>u _ _ _ (by decide) (h.p j y v),G.cells (E _ _ _ K),?_,λj k I H=>h.ni j k (by simpa using I) (by simpa using H),h.pi,λz r=>?_,λy v=>?_⟩
 .have o:(N.nd.set i l)[j]? =some z:=r
  clear r
  have A:j<N.nd.length:=by have:=(χ.1 o).1;rw [eU] at this;exact this
  rw [gr] at o
  split at o
  .grind [GM]
  .rename_i e
   rw [Gz]
   .exact E _ _ _ (h.n j z o)
   .intro L;exact e (h.ni j i A B L).symm
 .show BM w (c i) (T9 l) f=some (.cells _ [dU N.nh (N.nd.set i l).length,dU N.mh N.po.length,_]);rw [eU];exact u _ _ _ (by decide) h.w
 .rcases gf r with r | rfl
  .exact h.e z r
  .exact J
 .have:=h.q y v
  simpa using this
theorem Bp.putPo (h:Bp f g c a N M) {r:Po} (E:N.po[k]? =some y) (F:∀(G:Nat) (t:TypeId) (u:List D),M G=some (.cells t u) ->w G=some (.cells t u)) (H:EW w (CB c a {N with po:=N.po.set k r})) (I:∀i∈r.q,i<N.nd.length):
  Bp f g c a {N with po:=N.po.set k r} (BM w (a k) (T7 r)):=by
 have L:=h.p k y E;have B:=(χ.1 E).1
 have v:∀(b:Nat) (t:TypeId) (u:List D),t≠113 ->M b=some (.cells t u) ->BM w (a k) (T7 r) b=some (.cells t u):=λb t u P Q=>by
  grind [Gz]
 refine ⟨λi x A=>v _ _ _ (by decide) (h.n i x A),λi z s=>?_,H.cells (F _ _ _ L),?_,h.ni,λi l K J=>h.pi i l (by simpa using K) (by simpa using J),λx A=>?_,λz s=>?_⟩
 .have o:(N.po.set k r)[i]? =some z:=s
  clear s
  have C:i<N.po.length:=by have:=(χ.1 o).1;rw [eU] at this;exact this
  rw [gr] at o
  split at o
  .grind [GM]
  .rename_i e
   rw [Gz]
   .exact F _ _ _ (h.p i z o)
   .intro O;exact e (h.pi i k C B O).symm
 .show BM w (a k) (T7 r) f=some (.cells _ [dU N.nh N.nd.length,dU N.mh (N.po.set k r).length,_]);rw [eU];exact v _ _ _ (by decide) h.w
 .have:=h.e x A
  simpa using this
 .rcases gf s with s | rfl
  .exact h.q z s
  .exact I
abbrev ns:TypeId:=111
abbrev mo:TypeId:=167
abbrev Zm:TypeId:=99
abbrev VX:TypeId:=109
def FK (x:Nd) (b cap:Nat) (e:Nat×Int):Nd:={x with eh:=some (b,cap),ef:=x.ef++ [e]}
def Ho (x:Nd) (b cap:Nat) (e:Nat×Nat):Nd:={x with ph:=some (b,cap),pl:=x.pl++ [e]}
def KC (y:Po) (b cap:Nat) (i:Nat):Po:={y with qh:=some (b,cap),q:=y.q++ [i]}
theorem Bp.addE (l:Bp f g c a N M) (t:N.nd[i]? =some x) (e:Nat×Int) (y:e.1<N.po.length) (A:BV M x.eh h=none) (w:((x.ef++ [e]).map (bc a)).length<=o):
  Bp f g c a {N with nd:=N.nd.set i (FK x h o e)} (BM (BM (BV M x.eh) h (.row ns 2 o ((x.ef++ [e]).map (bc a)))) (c i) (T9 (FK x h o e))):=by
 have s:=(χ.1 t).1
 obtain ⟨C,B⟩:=l.row (N':={N with nd:=N.nd.set i (FK x h o e)}) (.e i) (w0:=⟨x.eh,ns,2,x.ef.map (bc a)⟩) (w1:=⟨some (h,o),ns,2,(x.ef++ [e]).map (bc a)⟩)
  (by show (⟨(N.nd.getD i Bg).eh,_,_,(N.nd.getD i Bg).ef.map _⟩:dY)=_;rw [Gg t])
  (by show (⟨((N.nd.set i (FK x h o e)).getD i Bg).eh,_,_,((N.nd.set i (FK x h o e)).getD i Bg).ef.map _⟩:dY)=_;rw [EG s,ϖ rfl];rfl)
  (λr v=>by
   cases r with
   | q j=>rfl
   | m=>rfl
   | n=>show (⟨_,_,_,(List.range (N.nd.set i (FK x h o e)).length).map _⟩:dY)=_;rw [eU];rfl
   | e k=>
    show (⟨((N.nd.set i (FK x h o e)).getD k Bg).eh,_,_,((N.nd.set i (FK x h o e)).getD k Bg).ef.map _⟩:dY)=⟨(N.nd.getD k Bg).eh,_,_,(N.nd.getD k Bg).ef.map _⟩
    rw [EG s,η (λe=>v (by rw [e]))]
   | p k=>
    show (⟨((N.nd.set i (FK x h o e)).getD k Bg).ph,_,_,((N.nd.set i (FK x h o e)).getD k Bg).pl.map _⟩:dY)=⟨(N.nd.getD k Bg).ph,_,_,(N.nd.getD k Bg).pl.map _⟩
    rw [EG s,PT t k Bg]
    split<;>rfl) A Z w
 refine l.putNd t B C ⟨λz u=>?_,(l.e x (ϑ t)).2⟩;rcases ν.1 u with u | u
 .exact (l.e x (ϑ t)).1 z u
 .rw [ξ.1 u];exact y
theorem Bp.addP (l:Bp f g c a N M) (t:N.nd[i]? =some x) (e:Nat×Nat) (y:e.1<N.po.length) (A:BV M x.ph h=none) (w:((x.pl++ [e]).map (gx a)).length<=o):
  Bp f g c a {N with nd:=N.nd.set i (Ho x h o e)} (BM (BM (BV M x.ph) h (.row mo 2 o ((x.pl++ [e]).map (gx a)))) (c i) (T9 (Ho x h o e))):=by
 have s:=(χ.1 t).1
 obtain ⟨C,B⟩:=l.row (N':={N with nd:=N.nd.set i (Ho x h o e)}) (.p i) (w0:=⟨x.ph,mo,2,x.pl.map (gx a)⟩) (w1:=⟨some (h,o),mo,2,(x.pl++ [e]).map (gx a)⟩)
  (by show (⟨(N.nd.getD i Bg).ph,_,_,(N.nd.getD i Bg).pl.map _⟩:dY)=_;rw [Gg t])
  (by show (⟨((N.nd.set i (Ho x h o e)).getD i Bg).ph,_,_,((N.nd.set i (Ho x h o e)).getD i Bg).pl.map _⟩:dY)=_;rw [EG s,ϖ rfl];rfl)
  (λr v=>by
   cases r with
   | q j=>rfl
   | m=>rfl
   | n=>show (⟨_,_,_,(List.range (N.nd.set i (Ho x h o e)).length).map _⟩:dY)=_;rw [eU];rfl
   | p k=>
    show (⟨((N.nd.set i (Ho x h o e)).getD k Bg).ph,_,_,((N.nd.set i (Ho x h o e)).getD k Bg).pl.map _⟩:dY)=⟨(N.nd.getD k Bg).ph,_,_,(N.nd.getD k Bg).pl.map _⟩
    rw [EG s,η (λe=>v (by rw [e]))]
   | e k=>
    show (⟨((N.nd.set i (Ho x h o e)).getD k Bg).eh,_,_,((N.nd.set i (Ho x h o e)).getD k Bg).ef.map _⟩:dY)=⟨(N.nd.getD k Bg).eh,_,_,(N.nd.getD k Bg).ef.map _⟩
    rw [EG s,PT t k Bg]
    split<;>rfl) A Z w
 refine l.putNd t B C ⟨(l.e x (ϑ t)).1,λz u=>?_⟩;rcases ν.1 u with u | u
 .exact (l.e x (ϑ t)).2 z u
 .rw [ξ.1 u];exact y
theorem Bp.addQ (s:Bp f g c a N M) (v:N.po[k]? =some y) {i:Nat} (A:i<N.nd.length) (B:BV M y.qh h=none) (x:((y.q++ [i]).map λi=>BC (c i)).length<=o):
  Bp f g c a {N with po:=N.po.set k (KC y h o i)} (BM (BM (BV M y.qh) h (.row Zm 1 o ((y.q++ [i]).map λi=>BC (c i)))) (a k) (T7 (KC y h o i))):=by
 have u:=(χ.1 v).1
 obtain ⟨D,C⟩:=s.row (N':={N with po:=N.po.set k (KC y h o i)}) (.q k) (w0:=⟨y.qh,Zm,1,y.q.map λi=>BC (c i)⟩) (w1:=⟨some (h,o),Zm,1,(y.q++ [i]).map λi=>BC (c i)⟩)
  (by show (⟨(N.po.getD k Br).qh,_,_,(N.po.getD k Br).q.map _⟩:dY)=_;rw [Gg v])
  (by show (⟨((N.po.set k (KC y h o i)).getD k Br).qh,_,_,((N.po.set k (KC y h o i)).getD k Br).q.map _⟩:dY)=_;rw [EG u,ϖ rfl];rfl)
  (λr w=>by
   cases r with
   | e l=>rfl
   | p l=>rfl
   | n=>rfl
   | m=>show (⟨_,_,_,(List.range (N.po.set k (KC y h o i)).length).map _⟩:dY)=_;rw [eU];rfl
   | q l=>
    show (⟨((N.po.set k (KC y h o i)).getD l Br).qh,_,_,((N.po.set k (KC y h o i)).getD l Br).q.map _⟩:dY)=⟨(N.po.getD l Br).qh,_,_,(N.po.getD l Br).q.map _⟩
    rw [EG u,η (λe=>w (by rw [e]))]) B Z x
 refine s.putPo v C D λz t=>?_;rcases ν.1 t with t | t
 .exact s.q y (ϑ v) z t
 .rw [ξ.1 t];exact A
def EN (x:Nd):Nd:={x with eh:=none,ph:=none}
def CD (y:Po):Po:={y with qh:=none}
def Am (N:dS):dS:=⟨N.nd.map EN,N.po.map CD,none,none⟩
def nY (x:Nd) (j:Nat) (n:Nat) (a:Int):Nd:={x with ef:=x.ef++ [(j,a)],pl:=if a<0 then x.pl++ [(j,n)] else x.pl}
def nX (y:Po) (i:Nat) (a:Int):Po:={y with sum:=y.sum+a,q:=if a<0 then y.q++ [i] else y.q}
theorem Bp.keepE (k:Bp f g c a N M) (r:N.nd[i]? =some x) (y:BV M x.eh h=none) (o:M s=some (.cells t j)):BM (BV M x.eh) h u s=some (.cells t j):=
 fP y o λl w=>by have:=Qt (k.nn i x r).2.1 w;rw [o] at this;cases this
theorem Bp.keepP (k:Bp f g c a N M) (r:N.nd[i]? =some x) (y:BV M x.ph h=none) (o:M s=some (.cells t j)):BM (BV M x.ph) h u s=some (.cells t j):=
 fP y o λl w=>by have:=Qt (k.nn i x r).2.2 w;rw [o] at this;cases this
theorem Bp.keepQ (i:Bp f g c a N M) (r:N.po[k]? =some y) (x:BV M y.qh h=none) (o:M s=some (.cells t j)):BM (BV M y.qh) h u s=some (.cells t j):=
 fP x o λl w=>by have:=Qt (i.pp k y r).2 w;rw [o] at this;cases this
theorem nV {Y mv:Nat} {L v:Nat ->Nat} {N:dS} {M:MF} (h:Bp Y mv L v N M) {i j:Nat} {x:Nd} {y:Po} (u:N.nd[i]? =some x) (O:N.po[j]? =some y) (a:Int) (ha: -100000000000000000<=a/\a<=100000000000000000) (hs: -1000000000000000000<=y.sum/\y.sum<=1000000000000000000) (he:x.ef.length<=100000) (hp:x.pl.length<=100000) (hq:y.q.length<=100000):
  AK prog 81 [.d (pD (L i) 0),.d (pD (v j) 0),.d (AF a)] (HN M) λr H'=>r= .tup []/\∃K M',H'=HN M'/\Bp Y mv L v K M'/\K.nh=N.nh/\K.mh=N.mh/\(∃X,K.nd=N.nd.set i X/\EN X=EN (nY x j y.q.length a))/\∃y',K.po=N.po.set j y'/\CD y'=CD (nX y i a):=by
 have A:=h.n i x u;have P:=(h.nn i x u).2.1;have hrp:=(h.nn i x u).2.2;have D:=(χ.1 u).1;have t:=(χ.1 O).1;have Q:=TZ (h.pp j y O).2;refine Av func81 Z Z ntmps81 Z Z Z λF W=>?_;refine AC (AE (cl Z Z (cl Z Z (J (Cy Z Z) (J (Bz Z Jr Z Z Z) (J (EI (f:=40) Z Z (A) Z V8 Z) (cl Z Z (cl Z Z ?_))))))));refine J (FU Y3 qJ Z Z Z) (V (EH 1 lU Z Z Z Z Z Z Z Z) (V (GZ 10 60 40 P Z Z (by simp) Z Z Z Z Z (Ic (emb:=bc v) x.ef [(j,a)] Z Z Z Z Z Z Z Z lU (by simp only [Φ];omega) Z Z Z Z)) (Ee 15 60 40 W Z Z Z (by simp) (by simp) Z Z Z Z Z Z Z (λ_ _=>rfl) λb1 c1 H T=>(J (Cy Z Z) (J (Bz Z Jr Z Z Z) (V (OZ (f:=40) Z Z Z Z (h.keepE u H A) ((by show _<9;omega)) Z pU) (AD (AC ?_))))))));have I:=h.addE u (j,a) t H T;have w:=I.p j y O;refine AE (cl Z Z (J (Cy Z Z) ?_));refine J (Bz Z Jp Z Z Z) (J (EI (f:=40) Z Z (w) Z L3 Z) (cl Z Z (J (Aw Z Z (Ξ _ (by omega)) Z) (J (Cy Z Z) (J (Bz Z Jp Z Z Z) (V (OZ (f:=40) Z Z Z Z (w) ((by show _<10;omega)) Z rX) (AD (AC ?_))))))));have b:=I.setPo (y':={y with sum:=y.sum+a}) O Z Z;have k:(N.nd.set i (FK x b1 c1 (j,a)))[i]? =some (FK x b1 c1 (j,a)):=List.getElem?_set_self D;have c:(N.po.set j {y with sum:=y.sum+a})[j]? =some {y with sum:=y.sum+a}:=List.getElem?_set_self t;have s:=b.n i _ k;have z:=b.p j _ c;have C:=(b.nn i _ k).2.2;refine AE (cl Z Z (J (BW Z Z Z) (AD (Ah Z (λg=>?_) (λg=>?_)))))
 .refine AC (Dr [[],[],[1],[1,2],[1,2,3],[],[],[6],[6,7],[6,7,8],[6,7,8,9],[5,6,7,8,9,10],[5,6,7,8,9,10,11],[1,2,3,4,5,6,7,8,9,10,11,12],rg 14,rg 15,rg 16] mixed Z (E6 (At 0 Z Z ?_)));refine At 0 Z Z (AX [29] Z (Cy Z Z) (AX [30] Z (Bz Z Jq Z Z Z) (By [31] [40] Z Z (λ_=>A9 (EI (f:=40) Z Z (s) Z V7 Z)) (At 1 Z Z (At 1 Z Z (AX [34] Z (Cy Z Z) (AX [35] Z (Bz Z Gl Z Z Z) (By [36] [40] Z Z (λ_=>A9 (EI (f:=40) Z Z (z) Z K5 Z)) ?_))))))));refine AX [37] Z (Ut Q Z S1 Z) (AX [33,38] Z (FU Uw qH Z Z Z) (IU [39] [2] [(40,_)] Z Z (λ_=>IV (EH 2 lT Z Z Z Z Z Z Z Z)) (.inr ⟨40,_,Z,Z,Z,Z,Z⟩) Z Z Z Z Z (IU [32,40] [61,40,2] [(41,_)] Z Z (λ_=>IV (GZ 32 61 40 C Z Z (by simp [FK]) Z Z Z Z Z (Ic (emb:=gx v) x.pl [(j,y.q.length)] Z Z Z Z Z Z Z Z lT (by simp only [Φ];omega) Z Z Z Z))) (.inr ⟨41,_,Z,Z,Z,Z,Z⟩) Z Z Z Z Z (Dh 14 Z Z Z (An 15 Z Z (Ee 41 61 40 W Z Z Z (by simp) (by simp) Z Z Z Z Z Z Z (λ_ _=>rfl) λb2 c2 G S=>(J (Cy Z Z) (AD ⟨Z,?_⟩))))))));refine An 16 Z Z (J (Bz Z Jq Z Z Z) (AD ⟨Z,?_⟩));refine An 17 Z Z (V (OZ (f:=40) Z Z Z Z (b.keepP k G s) ((by show _<9;omega)) Z pT) (AD ⟨Z,?_⟩));refine Dg ?_;have l:=b.addP k (j,y.q.length) (by show j<(N.po.set j _).length;rw [eU];exact t) G S;have o:=l.p j _ c;have B:=(l.pp j _ c).2;refine AE (cl Z Z (cl Z Z (J (Cy Z Z) (J (Bz Z Gl Z Z Z) ?_))));refine J (EI (f:=40) Z Z (o) Z K5 Z) (cl Z Z (V (EH 3 i6 Z Z Z Z Z Z Z Z) (V (GZ 48 62 40 B Z Z (by simp) Z Z Z Z Z (Ic (emb:=λi=>BC (L i)) y.q [i] Z Z Z Z Z Z Z Z i6 (by simp only [Φ];omega) Z Z Z Z)) (Ee 51 62 40 W Z Z Z (by simp) (by simp) Z Z Z Z Z Z Z (λ_ _=>rfl) λb3 c3 E R=>(J (Cy Z Z) (J (Bz Z Gl Z Z Z) (V (OZ (f:=40) Z Z Z Z (l.keepQ c E o) ((by show _<10;omega)) Z pN) (AD ?_))))))));have U:=l.addQ c (i:=i) (by show i<((N.nd.set i _).set i _).length;rw [eU,eU];exact D) E R;exact ⟨_,[40],_,A4 Z,Z,Z,Z,_,_,Z,U,Z,Z,⟨_,List.set_set _,by unfold EN Ho FK nY;simp [g]⟩,⟨_,List.set_set _,by unfold CD KC nX;simp [g]⟩⟩
 .refine AZ ?_;exact ⟨_,[40],_,A4 Z,Z,Z,Z,_,_,Z,b,Z,Z,⟨_,Z,by unfold EN FK nY;simp [g]⟩,⟨_,Z,by unfold CD nX;simp [g]⟩⟩
end Go.Proofs.YtnkkaeblokdifaaGreat
