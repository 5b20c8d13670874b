import Derived.Test.YteifpcnphnhaoaaGreatMg18
open Go.Proofs.Tryz
namespace Go.Proofs.YteifpcnphnhaoaaGreat
open Go.RowKit
set_option maxRecDepth 100000
theorem sd {a:Hp} {f:Nat} {o:AI} (h:eQ a f=none) (b:S9 o=true:=by rfl):CP a f o=some ((f,[o])::a):=by simp only [CP,h,b]
theorem nD {b:Hp} {f:Nat} {x:List AI}:∀{a:List Nat},ed f a=false ->BQ ((f,x)::b) a=BQ b a
 | [],_=>rfl
 | g::r,h=>by
  have i:Nat.beq f g=false:=by
   cases hb:Nat.beq f g with
   | false=>rfl
   | true=>
    have e:=fx hb;subst e
    simp [ed] at h
  have c:ed f r=false:=by
   cases hb:ed f r with
   | false=>rfl
   | true=>simp [ed,hb] at h
  simp only [BQ];rw [nD c];simp only [eQ,i]
theorem Xk (l:List Nat):JR l l=true:=by
 have b:∀(l m:List Nat),(∀x∈l,x∈m) ->JR l m=true:=λl=>by
  induction l with
  | nil=>intro m _;rfl
  | cons a r c=>intro m h;simp only [JR,fV];exact ⟨Fd.2 (h a (by simp)),c m λx f=>h x (by simp [f])⟩
 grind
theorem Dq {c a:Type} {step:a ->c ->a×Bool} {b:a} {x:c} {r:List c}:HT step b (x::r)=if (step b x).2=true then HT step (step b x).1 r else (step b x).1:=by grind [HT]
def encI (x:eR):List AV:=[.d (Af x)]
section
variable {β:Type}
theorem oD (a:List eR) (y:a.length<=1000000) (l:Nat) (H:β ->Hp) (N:List Nat) (step:β ->eR ->β×Bool) (b:β) (o:∀c,gW (H c)=N) (C:∀c,FJ N (H c)=true) (v:∀c,BQ (H c) N=some (H c))
  (B:∀c,AT 990 (H c)=some (H c)) (z:∀c,eQ (H c) 990=none) (A:ed 990 N=false)
  (u:Lk prog l encI H step b a):
  AJ prog 164 [.d (.raw (Cs l)),.d (.ptr (.sl none (a.map Af)))] (H b) λr E=>r= .tup []/\E=H (HT step b a):=by
 refine As func164 Z Z ntmps164 Z Z Z λF D=>(AC (AE (J (D2 Z Z Is Z) (J (CB Z F0 Z) (dd Z Z (AD (A0 (HD (α:=Nat×β) (λp=>⟨16,[(0,.d (.raw (Cs l))),(5,(.d (.sl none (a.map Af)))),(6,(.d (AF (a.length:Int)))),(7,(.d (AF (p.1:Int))))],H p.2⟩) (λp=>p.1<=a.length/\Lk prog l encI H step p.2 (a.drop p.1)/\HT step p.2 (a.drop p.1)=HT step b a) (λp=>a.length - p.1) ((0,b)) (⟨υ _,u,Z⟩) (eF ⟨Z,Z,Z,Z,trivial⟩) ?_))))))));rintro ⟨k,c⟩ ⟨t,i,f⟩;dsimp only at t i f⊢;refine AC (AE (J (BN Z Z Z) (AD (AC (Ac Z (λx=>?_) (λx=>?_))))))
 .have s:k<a.length:=Ba x;refine AZ (AC (A0 (AC (AE ?_))));have w:a.drop k=a[k]::a.drop (k+1):=m0 s;rw [w] at i;refine J (Bh (k) Z Z (Z) (Ab s) F0 Z CY Z) (J (GW Z Z Bs Z) (V (Bn 990 E4 Z (B _) (sd (z _)) Z) (V (B1 Z Z Z Z Z Z Z CY) (AD (AC ?_)))));refine AE (dd Z Z (J (BE Z Z Bs Z Z Z) (o7 [0,5,6,7,11,12] Z (o6 N (D.trans (o b)) (Xk N) ((nD A).trans (v _)) (bY i.1 Z Z (by rw [o,o]) (by rw [o];exact C _) Z Z (J (OZ Z Z) (AD (JJ Z (λj=>?_) (λj=>?_)))))))))
  .have g:(step c a[k]).2=false:=by simpa using j
   refine A4 ?_;exact ⟨_,N,_,A3 Z,v _,by rw [<-o b];exact EK _,Z,by rw [<-f,w,Dq,θ (by rw [g];decide)]⟩
  .have g:(step c a[k]).2=true:=by simpa using j
   refine AZ (AE (J (Ar Z Z (AO (k+1) (by omega)) Z) (dd Z Z (AD ?_))));exact ⟨(k+1,(step c a[k]).1),⟨by show k+1<=_;omega,i.2 g,by rw [<-f,w,Dq,ϱ g]⟩,by show a.length - (k+1)<a.length - k;omega,⟨Z,Z,λ_ _=>R8.get (l:=[(0,_),(5,_),(6,_),(7,_)]) ⟨Z,Z,Z,Z,trivial⟩⟩⟩
 .refine BC ?_;exact ⟨_,N,_,A3 Z,v _,by rw [<-o b];exact EK _,Z,by rw [<-f,List.drop_of_length_le (by have h:=x;omega)];rfl⟩
end
variable {a:List eR} {M:MF} {c:Type} {f:List c} {g h:Nat ->Nat} {i:List (AM×Int)} {j k o s:Nat} {t:eR} {u:List Nat} {w:List AV} {x y:Nat} {T:TypeId} {z:c} {B:TypeId} {C:List D} {E:TypeId} {F:Hp} {G:AM} {H:Fr} {K:Type} {L:A7}
theorem SR.freezeB {s:AS} {G:Nat ->Nat ->Value} {y:Act} {g:World} (h:SR H s G y g) (t f:Nat) (x:D) (L:List Nat) (hF:H.pn=u) (ht:get s.env t=some (.ptr f 0 0)) (J:eQ s.hp f=some [.blk T w]) (K:w=x.cells.map .d) (V:∀c∈x.cells,c.one=true) (hf:ed f L=false) (I:JR u L=true) (C:BQ s.hp L=some F):SR H ⟨s.n,(t,.d (.ptr x))::s.env,F⟩ G y g:=by
 have Q:=h.only L hF I C;refine ⟨Q.size,Q.defs,λt' a Y=>?_,Q.heap⟩;rcases LR Y with ⟨rfl,rfl⟩ | ⟨_,Y⟩
 .have Z:=h.env t _ ht;have O:dr s.hp f 0=some (.blk T w):=by simp [dr,J,gl,gV]
  obtain ⟨b,z,R,e2,e3,e4,e5⟩:=h.heap.sim f 0 _ O;show AR _ _ _ _ (y.tmps.getD t undef)
  generalize y.tmps.getD t undef=v at Z
  cases Z with
  | @ptr _ _ _ E B=>
   rw [R] at B;injection B with B;injection B with B;injection B with B;subst B
   have hO:∀E,H.O G F E ->H.O G s.hp E:=λE k=>k.imp id λ⟨r,N,U,i,S⟩=>by
    obtain ⟨M,_⟩:=Dh C;refine ⟨r,N,U,?_,S⟩;simp only [dr] at i⊢
    cases hh:eQ F r with
    | none=>rw [hh] at i;cases i
    | some l=>rw [(M r l hh).2];rw [hh] at i;exact i
   have W:¬H.O G F b:=λk=>by
    rcases k with k | ⟨r,N,U,i,S⟩
    .exact h.heap.notOf ⟨f,0,_,O,by rw [R];rfl⟩ k
    .obtain ⟨M,_⟩:=Dh C;simp only [dr] at i
     cases hh:eQ F r with
     | none=>rw [hh] at i;cases i
     | some l=>
      have q3:dr s.hp r N=some U:=by simp only [dr];rw [(M r l hh).2];rw [hh] at i;exact i
      obtain ⟨e1',_⟩:=h.heap.inj r N f 0 _ _ b q3 O S (by rw [R];rfl);have:=Fd.2 (M r l hh).1
      grind
   have A:z.length=x.cells.length:=by rw [e3,K,ψ]
   refine .d (.ptr (λj=>z.getD j undef) (h.heap.ltO (.inr ⟨f,0,_,O,by rw [R];rfl⟩)) W V (λj c P=>?_) (λj c P=>?_))
   .have o:j<z.length:=by rw [A];exact (φ.1 P).1
    rw [gf,cell_of_row g b j z.toArray T (0,0) e2]
    simp [o]
   .have o:j<z.length:=by rw [A];exact (φ.1 P).1
    have X:=e4 j (.d c) z[j] (by rw [K,η,P];rfl) (ω o);have hg:z.getD j undef=z[j]:=by simp [o]
    rw [hg]
    cases X with
    | d X=>exact X.mono (ϖ _) (λ_ _ _=>rfl) λE _=>hO E
 .exact Q.env t' a Y
theorem P5 {P:Program} {Q:Exit ->AS ->Prop} {g:Array Oper} {z:List Oper} {y:Nat} {b:List (Nat×AV)} {r:Hp} (t f:Nat) (x:D) (k:List Nat) (G:H.pn=u) (B:get b t=some (.ptr f 0 0)) (j:eQ r f=some [.blk T w]) (s:w=x.cells.map .d) (l:∀c∈x.cells,c.one=true) (E:ed f k=false) (i:JR u k=true) (o:BQ r k=some F)
  (h:A8 P H g z Q ⟨y,(t,.d (.ptr x))::b,F⟩):A8 P H g z Q ⟨y,b,r⟩:=λA v a C=>h A v a (C.freezeB t f x k G B j s l E i o)
theorem Z6 (a:List eR):AJ prog 121 [.d (.sl none (a.map Af))] [] λr g=>r= .fn 164 [.d (.ptr (.sl none (a.map Af)))]/\g=[]:=by
 refine As func121 Z Z ntmps121 Z Z Z λF f=>(AC (AE (V (Bz 1 Z Z Z Z Z Z Z) ?_)));refine AB Z Z (AD (AC (AE (P5 1 1 (.sl none (a.map Af)) [] f Z Z Z (by intro c b;simp [D.cells] at b;subst b;rfl) Z Z Z (J (qX Z Z) (AB Z Z (AD (A4 ?_))))))));exact ⟨_,[],[],A3 Z,Z,Z,Z,Z⟩
abbrev hV (q:List eR):Hp:=[(920,[.rowD 55 6 (q.map Af)]),(1,[.blk 37 [.own 920 0 q.length]])]
def WH (q:List eR) (x:eR):List eR×Bool:=(q++ [x],true)
theorem TR:∀(l q:List eR),HT WH q l=q++l
 | [],q=>by simp [HT]
 | x::l,q=>by rw [Dq];show (if true=true then HT WH (q++ [x]) l else _)=_;rw [ϱ Z,TR l];simp
theorem Pr {P:Program} {l:Nat} {H:List eR ->Hp} {n:Nat} (b:∀q x,q.length<n ->Fu P l (encI x) (H q) λv c=>v= .d (.raw (.bool true))/\c=H (q++ [x])):∀(a q:List eR),q.length+a.length<=n ->Lk P l encI H WH q a
 | [],_,_=>trivial
 | x::a,q,h=>⟨b q x (by simp at h;omega),λ_=>Pr b a (q++ [x]) (by simp at h⊢;omega)⟩
theorem dm (a:List eR) (b:a.length<=1000000):AJ prog 210 [.d (.sl (some true) []),.fn 164 [.d (.ptr (.sl none (a.map Af)))]] [] λr g=>r= .own 920 0 a.length/\g=[(920,[.rowD 55 6 (a.map Af)])]:=by
 refine OW func210 Z Z ntmps210 Z Z Z λF f c=>(AC (AE (V (Bz 1 Z Z Z Z Z Z Z) ?_)));refine AB Z Z (AD (AC (AC (Cp 1 0 0 920 K8 Z Z Z Z Z Z Z (AE (dd Z Z (AD (A0 ?_))))))));refine eB [2,6] Z ?_;refine XQ (γ:=Unit) c 900 Z Z Z Z Z [1,920] (CHr:=hV []) (λ_=>True) (λ_=>hV a) (λ_=> .ready) (λ_=>none) ⟨Z,Z,trivial⟩ Z Z Z (λ_=>rfl) (λ_=>rfl) Z (λ_ _=>by simp) (λ_ _=>⟨Z,Z⟩) [920,1] f Z Z (λ_ _=>rfl) (λl A B i h=>?_) (λ_ _=>?_)
 .refine (oD a b l (λq:List eR=>(900,[.loop ⟨l,13,[(2,.ptr 1 0 0),(6,.fn 164 [.d (.ptr (.sl none (a.map Af)))])],.ready,none, #[7],A,B⟩])::hV q) [900,920,1] WH [] (λ_=>rfl) (λ_=>rfl) (λ_=>rfl) (λ_=>rfl) (λ_=>rfl) Z ?_).mono (λr g ⟨k,j⟩=>⟨k,(),trivial,by rw [j,TR];rfl⟩);refine Pr (n:=a.length) (λq x s=>?_) a [] (by simp);refine Re (lf:=900) Z Z Z Z λF f o=>?_;show Bl _ _ A _ _;rw [i];refine AE (V (Bn 2 E4 Z Z Z Z) (V (B1 Z Z Z Z Z Z Z CY) (AD (⟨Z,_,_,Z,Z,Z,Z,?_⟩))));show Bl _ _ B _ _;rw [h];refine A0 (AE (J (A2 Z Z Z Is Z) (J (BE Z Z Bs Z Z Z) (V (D6 30 K8 Z Z Z Z Z Z Z Z) (V (H1 (q) ([x]) Z Z Z Z Z Z Z Z K8 (by simp only [Φ];omega) Z Z Z Z) (V (B1 Z Z Z Z Z Z Z jd) (AD ?_)))))));exact ⟨none,_,_,[900,920,1],_,Z,Z,Z,Z,Z,Z,Z,Z⟩
 .refine AC (AE (J (A2 Z Z Z Is Z) (AB Z Z (AD (A4 ?_)))));exact ⟨_,[920],_,A3 Z,Z,Z,Z,Z⟩
theorem gq (l:List eR) (x:eR):(Oh l x).Perm (x::l):=by
 induction l with
 | nil=>exact List.Perm.refl _
 | cons a l b=>
  grind [Oh]
theorem Sz (h:a.Pairwise λc b=>¬Gc b c<0) (x:eR):(Oh a x).Pairwise λc b=>¬Gc b c<0:=by
 induction a with
 | nil=>simp [Oh]
 | cons c a k=>
  rw [iK] at h;simp only [Oh]
  split
  .rename_i g
   exact iK.2 ⟨λy i=>by have s:=g y i;have r:=C1.anti x y;omega,iK.2 h⟩
  .rename_i o
   refine iK.2 ⟨λy i=>?_,k h.2⟩;rcases fP.1 ((gq a x).mem_iff.1 i) with rfl | i
   .intro f;refine o λz j=>?_;rcases fP.1 j with rfl | j
    .exact f
    .have s:=h.1 z j;have r:=C1.anti c z
     by_cases e:Gc c z=0
     .have v:=C1.eqv c z y e;have u:=C1.anti c y;have t:=C1.anti z y;omega
     .exact C1.trans _ _ _ f (by omega)
   grind
theorem I9 (l:List eR):(eX l).Perm l:=by
 induction l using ZU with
 | h0=>exact List.Perm.refl _
 | h1 l x a=>
  grind [Im,gq]
theorem E6 (l:List eR):(eX l).Pairwise λa b=>¬Gc b a<0:=by
 induction l using ZU with
 | h0=>exact List.Pairwise.nil
 | h1 l x c=>rw [Im];exact Sz c x
theorem YL {a b:eR} (h:Gc a b=0):a.sq=b.sq:=by
 unfold Gc at h;simp only [Bd] at h
 split at h
 .split at h
  .rename_i c;exact Px.1 c
  omega
 omega
theorem IF (f:(a.map eR.sq).Nodup) (h:a.Pairwise λc b=>¬Gc b c<0):a.Pairwise λc b=>Gc c b<0:=by
 rw [List.Nodup,fz] at f;refine (h.and f).imp λ{c b} ⟨j,i⟩=>?_;have g:=C1.anti c b
 grind [YL]
theorem Q3 {c f:List eR} (g:(c.map eR.sq).Nodup) (h:f.Perm c) (i:f.Pairwise λa b=>¬Gc b a<0):f=eX c:=
 mP (R:=λa b=>Gc a b<0) (λx=>by rw [C1.refl];omega) (λx y z=>C1.trans x y z) (IF ((h.map _).nodup_iff.2 g) i) (IF (((I9 c).map _).nodup_iff.2 g) (E6 c)) λx=>by rw [h.mem_iff,(I9 c).mem_iff]
theorem Sw (x:eR):∃a,Af x= .agg a:=⟨_,Z⟩
abbrev rW (its:List eR):AV:= .fn 164 [.d (.ptr (.sl none (its.map Af)))]
theorem Yx (a:List eR) (b:a.length<=1000000):AJ prog 163 [rW a] [] λr c=>r= .own 920 0 a.length/\c=[(920,[.rowD 55 6 (a.map Af)])]:=by
 refine As func163 Z Z ntmps163 Z Z Z λF f=>(AC (AE ?_));refine AB Z Z (AD (AC (AE (dd Z Z (V (EX (dm a b) Z [920] ⟨Z,trivial⟩ Z Z Z Z Z Z Z Z Z) (AB Z Z (AD (A4 ?_))))))));exact ⟨_,[920],_,A3 Z,Z,Z,Z,Z⟩
theorem Xo (a:List eR) (b:a.length<=1000000) (c:(a.map eR.sq).Nodup):AK prog 120 [rW a,.d (.raw (.func (.func 122) #[] #[]))] (.sl none ((eX a).map Af)):=by
 refine As func120 Z Z ntmps120 Z Z Z λF i=>(AC (AE (AB Z Z (AD (AC ?_)))));refine AE (dd Z Z (V (EX (Yx a b) Z [920] ⟨Z,trivial⟩ Z Z Z Z Z Z Z Z Z) (AB Z Z (AD (AC (AE (dd Z Z (dd Z Z ?_))))))));refine V (Lz nL (k:=6) (by decide) isAgg55 sizeOf55 func122 Z Z Sw Gc C1.swo a (eX a) (by omega) (λx _ y _=>WU x y) (λh g f=>Q3 c g f) Z Z Z LF Z Z Z Z Z) (AD (AC (Ls (emb:=Af) 5 920 (eX a) Z Z Z (jO a).symm Z Z Z (AE (dd Z Z (AB Z Z (AD (A4 ?_))))))));exact ⟨_,[],[],A3 Z,Z,Z,Z,Z⟩
theorem DI (h:Dl a=0):(a.map eR.sq).Nodup:=by
 have f:=RT.1 h;rw [List.Nodup,fz,gc];intro i j g b c e;have:=f j (Θ.2 b)
 grind [Ng,NS]
theorem HX {p:ee} (h:A6 p=0):Cv p.ro=0/\Dl p.it=0/\Hy p.it=0:=by
 unfold A6 at h
 split at h; · cases h
 have a:=Jp h
 simp_all
def ea (p:ee):List eR:=if A6 p=0 then eX p.it else []
theorem Kh (p:ee) (f:EY p):AK prog 68 [.d (Bf p)] (.sl none ((ea p).map Af)):=by
 have a:=FD p f;obtain ⟨_,h,_⟩:=f
 by_cases b:A6 p=0
 rw [b] at a;have c:ea p=eX p.it:=ϱ b;rw [c];refine As func68 Z Z ntmps68 Z Z Z λF g=>(AC (AE (V (Bz 1 Z Z Z Z Z Z Z) ?_)));refine AB Z Z (AD (AC (AC (AE (J (BE Z Z BM Z Z Z) (J (BT (a) Z Z) (J (D7 Z Z Z) (AD ?_))))))));refine D3 Z ((by decide)) (AZ (AC (AE (J (AU Z Cy Z Z Z) (J (A2 Z Z Z Is Z) (V (EX (Z6 p.it) Z [] trivial Z Z Z Z Z Z Z Z Z) (J (BT (Xo p.it (by omega) (DI (HX b).2.1)) Z Z) (AB Z Z ?_))))))))
 rotate_left
 have c:ea p=[]:=θ b;rw [c];refine As func68 Z Z ntmps68 Z Z Z λF g=>?_;refine AC (AE (V (Bz 1 Z Z Z Z Z Z Z) (AB Z Z (XY 2 Z (AD (AC (AC (AE ?_))))))));refine J (BE Z Z BM Z Z Z) (J (BT (a) Z Z) (J (D7 Z Z Z) (AD (DO Z ((by simpa using b)) (AC (AE (AB Z Z (XY 2 Z ?_))))))))
 all_goals
  refine AD (A4 ?_);exact ⟨_,[],[],A3 Z,Z,Z,Z,Z⟩
theorem DX (p:ee):(ea p).length<=p.it.length:=by unfold ea;split<;>simp [jO]
theorem Hc {p:ee} (h:t∈ea p):t∈p.it:=by grind [ea,I9]
theorem F1 (p:ee) (l:EY p):AK prog 33 [.d (Bf p)] (.sl none (((ea p).map eR.id).map AF)):=by
 have c:=Kh p l;have f:=DX p;have r:=l.2.1
 obtain ⟨S,t⟩:∃S,ea p=S:=⟨_,Z⟩
 rw [t] at c f⊢;refine As func33 Z Z ntmps33 Z Z Z λF o=>(AC (AE ?_));refine V (Bz 1 Z Z Z Z Z Z Z) (AB Z Z (AD (AC (AE (AB Z Z (AD (AC (AC ?_))))))));refine Ou 3 900 BV Z Z Z Z (AE (J (BE Z Z BM Z Z Z) (J (BT (c) Z Z) (J (CB Z F0 Z) (dd Z Z (AD (A0 (BX (α:=Nat×List Int) (λq=>⟨20,[(3,(.own 900 0 q.2.length)),(7,(.d (.sl none (S.map Af)))),(8,(.d (AF (S.length:Int)))),(9,(.d (AF (q.1:Int))))],[(900,[.rowD 3 1 (q.2.map AF)])]⟩) (λq=>q.1<=S.length/\q.2=(S.take q.1).map eR.id) (λq=>S.length - q.1) ((0,[])) (⟨υ _,Z⟩) (AY o [900] Z Z ⟨Z,Z,Z,Z,trivial⟩) ?_))))))));rintro ⟨k,b⟩ ⟨j,i⟩;dsimp only at j i⊢;refine AC (AE (J (BN Z Z Z) (AD (AC (Ac Z (λa=>?_) (λa=>?_))))))
 .have g:k<S.length:=Ba a;refine AZ (AC (A0 (AC (AE ?_))));have s:b.length<=100000:=by rw [i,ψ,Ξ];omega
  refine J (Bh (k) Z Z (Z) (Ab g) F0 Z CY Z) (J (GW Z Z Bs Z) (V (Bn 2 E4 Z Z Z Z) (V (B1 Z Z Z Z Z Z Z CY) (AD (AE (dd Z Z (J (AU Z OY Z Z Z) ?_)))))));refine J (A2 Z Z Z Aw Z) (V (D6 3 BV Z Z Z Z Z Z Z Z) (V (H1 (b) ([S[k].id]) Z Z Z Z Z Z Z Z BV (by simp only [Φ];omega) Z Z Z Z) (AB Z Z (AD (AE (J (Ar Z Z (AO (k+1) (by omega)) Z) (dd Z Z (AD ?_))))))));exact ⟨(k+1,_),⟨by show k+1<=_;omega,by show _=(S.take (k+1)).map eR.id;rw [Db g,<-i]⟩,by show S.length - (k+1)<S.length - k;omega,AY o [900] Z (Z) ⟨Z,Z,Z,Z,trivial⟩⟩
 .refine BC (AC (Ls (emb:=AF) 3 900 b Z Z Z Z Z Z Z (AE (dd Z Z (AB Z Z (AD (A4 ?_)))))));exact ⟨_,[],[],A3 Z,Z,Z,by rw [i,ς (by have h:=a;omega)],Z⟩
theorem jx (p:ee) (r:AM) (t:EY p):AK prog 173 [.d (Bf p),.d (CC r)] (.sl none ((ez (ea p) r).map AF)):=by
 have j:=Kh p t;have l:=DX p;have x:=t.2.1;have b:∀i∈ea p,i.po.length<=100000/\i.pa.length<=100000/\i.af.length<=100000:=λi v=>t.2.2 i (Hc v)
 obtain ⟨S,z⟩:∃S,ea p=S:=⟨_,Z⟩
 rw [z] at j l b⊢;refine As func173 Z Z ntmps173 Z Z Z λF u=>(AC (AE (V (Bz 1 Z Z Z Z Z Z Z) ?_)));refine V (Bz 2 Z Z Z Z Z Z Z) (AB Z Z (AD (AC (AE (AB Z Z (AD (AC (AC ?_))))))));refine Ou 5 900 BV Z Z Z Z (AE (J (BE Z Z BM Z Z Z) (J (BT (j) Z Z) (J (CB Z F0 Z) (dd Z Z (AD (A0 (BX (α:=Nat×List Int) (λq=>⟨26,[(3,(.ptr 2 0 0)),(5,(.own 900 0 q.2.length)),(9,(.d (.sl none (S.map Af)))),(10,(.d (AF (S.length:Int)))),(11,(.d (AF (q.1:Int))))],[(2,[.blk 64 [.d (AF r.k),.d (Aj r.acc.o),.d (AF r.acc.k),.d (Aj r.acc.a),.d (Aj r.f),.d (Aj r.t)]]),(900,[.rowD 3 1 (q.2.map AF)])]⟩) (λq=>q.1<=S.length/\q.2=ez (S.take q.1) r) (λq=>S.length - q.1) ((0,[])) (⟨υ _,Z⟩) (AY u [2,900] Z Z ⟨Z,Z,Z,Z,Z,trivial⟩) ?_))))))));rintro ⟨k,g⟩ ⟨s,o⟩;dsimp only at s o⊢;refine AC (AE (J (BN Z Z Z) (AD (AC (Ac Z (λf=>?_) (λf=>?_))))))
 .have a:k<S.length:=Ba f;refine AZ (AC (A0 (AC (AE ?_))));have w:=b _ (ξ a);have y:g.length<=100000:=by rw [o];unfold ez;rw [ψ];have:=gM (λi=>decide (Be i r<0)) (S.take k);rw [Ξ] at this;omega
  refine J (Bh (k) Z Z (Z) (Ab a) F0 Z CY Z) (J (GW Z Z Bs Z) (V (Bn 3 E4 Z Z Z Z) (V (B1 Z Z Z Z Z Z Z CY) ?_)));refine AD (AC (AE (J (BE Z Z Bs Z Z Z) (J (BE Z Z CQ Z Z Z) (J (BT (XD S[k] r (by omega) (by omega) (by omega)) Z Z) (J (BN Z Z Z) (AD (Ac Z (λc=>?_) (λc=>?_)))))))))
  .refine AE (dd Z Z (J (AU Z OY Z Z Z) ?_));refine J (A2 Z Z Z Aw Z) (V (D6 4 BV Z Z Z Z Z Z Z Z) (V (H1 (g) ([S[k].id]) Z Z Z Z Z Z Z Z BV (by simp only [Φ];omega) Z Z Z Z) (AB Z Z (AD (AE (J (Ar Z Z (AO (k+1) (by omega)) Z) (dd Z Z (AD ?_))))))));exact ⟨(k+1,_),⟨by show k+1<=_;omega,by show _=ez (S.take (k+1)) r;unfold ez;rw [EO a,ϱ (by simpa using c),fU,o];rfl⟩,by show S.length - (k+1)<S.length - k;omega,AY u [2,900] Z (Z) ⟨Z,Z,Z,Z,Z,trivial⟩⟩
  .refine AZ (AE (J (Ar Z Z (AO (k+1) (by omega)) Z) (dd Z Z (AD ?_))));exact ⟨(k+1,_),⟨by show k+1<=_;omega,by show _=ez (S.take (k+1)) r;unfold ez;rw [EO a,θ (by simpa using c),gN,o];rfl⟩,by show S.length - (k+1)<S.length - k;omega,AY u [2,900] Z (Z) ⟨Z,Z,Z,Z,Z,trivial⟩⟩
 .refine BC (AC (Ls (emb:=AF) 5 900 g Z Z Z Z Z Z Z (AE (dd Z Z (AB Z Z (AD (A4 ?_)))))));exact ⟨_,[],[],A3 Z,Z,Z,by rw [o,ς (by have h:=f;omega)],Z⟩
def N9 (l:List eR) (id:Int):eR×Bool:=match l.find? λx=>decide (x.id=id) with
 | some x=>(x,true)
 | none=>(eT,false)
theorem Sy {id:Int} (c:x<a.length) (f:id∉(a.take x).map eR.id) (h:a[x].id=id):N9 a id=(a[x],true):=by
 have:a.find? (λb=>decide (b.id=id))=some a[x]:=by
  grind [List.find?_eq_some_iff_getElem,NS]
 unfold N9;rw [this]
theorem cX {id:Int} (h:id∉a.map eR.id):N9 a id=(eT,false):=by grind [N9]
theorem Yd:∀w O v,AN w O (.agg [AF 0,AF 0,AF 0,.sl (some true) [],.sl (some true) [],.sl (some true) []]) v ->AN w O (Af eT) v:=λw O v h=>h.aggMono Z (by simp [D.one]) λi c g b a v f=>by
 match i,b,a with
 | 0,b,a=>injection b with b;injection a with a;subst b a;exact f
 | 1,b,a=>injection b with b;injection a with a;subst b a;exact f
 | 2,b,a=>injection b with b;injection a with a;subst b a;exact f
 | 3,b,a=>injection b with b;injection a with a;subst b a;exact f.anyNil
 | 4,b,a=>injection b with b;injection a with a;subst b a;exact f.anyNil
 | 5,b,a=>injection b with b;injection a with a;subst b a;exact f.anyNil
theorem pE (p:ee) (id:Int) (o:EY p):AK prog 24 [.d (Bf p),.d (AF id)] (.tup [Af (N9 (ea p) id).1,Aa (N9 (ea p) id).2]):=by
 have g:=Kh p o;have j:=DX p;have v:=o.2.1;have b:∀i∈ea p,i.po.length<=100000/\i.pa.length<=100000/\i.af.length<=100000:=λi t=>o.2.2 i (Hc t)
 obtain ⟨S,w⟩:∃S,ea p=S:=⟨_,Z⟩
 rw [w] at g j b⊢;refine As func24 Z Z ntmps24 Z Z Z λF r=>(AC (AE (V (Bz 1 Z Z Z Z Z Z Z) (V (Bn 2 E4 Z Z Z Z) (AB Z Z (AD (AC ?_)))))));refine AC (AE (J (BE Z Z BM Z Z Z) (J (BT (g) Z Z) (J (CB Z F0 Z) (dd Z Z (AD (A0 (BX (α:=Nat) (λk=>⟨23,[(1,.d (AF id)),(4,(.ptr 2 0 0)),(9,(.d (.sl none (S.map Af)))),(10,(.d (AF (S.length:Int)))),(11,(.d (AF (k:Int))))],[(2,[.blk 55 [.d (AF 0),.d (AF 0),.d (AF 0),I6,I6,I6]])]⟩) (λk=>k<=S.length/\id∉(S.take k).map eR.id) (λk=>S.length - k) (0) (⟨υ _,by simp⟩) (AY r [2] Z Z ⟨Z,Z,Z,Z,Z,trivial⟩) ?_))))))));rintro k ⟨s,l⟩;refine AC (AE (J (BN Z Z Z) (AD (AC (Ac Z (λf=>?_) (λf=>?_))))))
 .have a:k<S.length:=Ba f;refine AZ (AC (A0 (AC (AE ?_))));have u:=b _ (ξ a);refine J (Bh (k) Z Z (Z) (Ab a) F0 Z CY Z) (J (GW Z Z Bs Z) (V (Bn 3 E4 Z Z Z Z) (V (B1 Z Z Z Z Z Z Z CY) ?_)));refine AD (AC (AE (J (AU Z OY Z Z Z) (J (A2 Z Z Z Aw Z) (dd Z Z (J (Li Z Z Z) (AD (Ac Z (λc=>?_) (λc=>?_)))))))))
  .refine AC (AE (J (BE Z Z Bs Z Z Z) (J (BT (lc S[k] (by omega) (by omega) (by omega)) Z Z) (V (B1 Z Z Z Z Z Z Z CY) (AB Z Z (AD (A4 ?_)))))));exact ⟨_,[],[],A3 Z,Z,Z,by rw [Sy a l c],Z⟩
  .refine AZ (AE (J (Ar Z Z (AO (k+1) (by omega)) Z) (dd Z Z (AD ?_))));exact ⟨k+1,⟨by show k+1<=_;omega,YS a l c⟩,by show S.length - (k+1)<S.length - k;omega,AY r [2] Z (Z) ⟨Z,Z,Z,Z,Z,trivial⟩⟩
 .refine BC (AC (AE (J (Fe E4 oR Z Z Z) (W3 22 (Af eT) Z Yd (V (B1 Z Z Z Z Z Z Z CY) (AB Z Z (AD (A4 ?_))))))));exact ⟨_,[],[],A3 Z,Z,Z,by rw [cX (by rw [ς (by have h:=f;omega)] at l;exact l)],Z⟩
theorem IU (i:(a.map eR.id).Nodup) {x y:eR} (c:x∈a) (g:y∈a) (h:x.id=y.id):x=y:=by
 induction a with
 | nil=>cases c
 | cons b a f=>
  grind
theorem XT (h:Dl a=0):(a.map eR.id).Nodup:=by
 have f:=RT.1 h;rw [List.Nodup,fz,gc];intro i j g b c e;have:=f j (Θ.2 b)
 grind [Ng,NS]
theorem sH (p:ee) (h:tD p):AK prog 13 [.d (Bf p)] (Bf p):=by
 obtain ⟨y,x,w⟩:=h;refine As func13 Z Z ntmps13 Z Z Z λF l=>(AC (AE (V (Bz 1 Z Z Z Z Z Z Z) (V (Bn 2 QJ Z Z Z Z) (AD (AC (AE (V (Bn 3 QJ Z Z Z Z) ?_))))))));refine AD (AC (AC (Cp 3 0 0 901 Lq Z Z Z Z Z Z Z (AE (AB Z Z (AD (A0 (BX (α:=List eY) (λb=>⟨51,[(1,(.ptr 1 0 0)),(2,(.ptr 2 0 0)),(3,(.ptr 3 0 0)),(4,(.d (AF (b.length:Int))))],[(901,[.rowD 88 7 (b.map Bt)]),(1,[Mv 25 p]),(2,[.blk 39 [I6,I6]]),(3,[.blk 39 [.own 901 0 b.length,I6]])]⟩) (λb=>b=p.ro.take b.length/\b.length<=p.ro.length) (λb=>p.ro.length - b.length) ([]) (⟨by simp,υ _⟩) (AY l [901,1,2,3] Z Z ⟨Z,Z,Z,Z,trivial⟩) ?_))))))));rintro b ⟨s,u⟩;refine AC ?_;refine AC (AE (dd Z Z (J (AU Z Qr Z Z Z) (J (A2 Z Z Z kR Z) (J (CB Z underlying22 Z) (J (BN Z Z Z) (AD (Ac Z (λj=>?_) (λj=>?_)))))))))
 .have f:b.length<p.ro.length:=Ba j;refine AZ (AC (A0 (DB [[],[0],[],[2],[],[2,3,4],[2,3,4,5],[2,3,4,5,6],[2,3,4,5,6,7],[],[9],[],[9,10,11],[9,10,11,12],[9,10,11,12,13],[2,3,4,5,6,7,8,9,10,11,12,13,14],[2,3,4,5,6,7,8,9,10,11,12,13,14,15],rg 17,rg 18,rg 19] mixed Z (DP (AQ [3] Z (AU Z Dp Z Z Z) (Az [13] Z Z (λ_=>A5 (A2 Z Z Z Ob Z)) (AQ [1] Z (AU Z Qr Z Z Z) ?_)))))));refine Az [15] Z Z (λ_=>A5 (A2 Z Z Z kR Z)) (Av 4 Z Z (AQ [16,17] Z (Bh (b.length) Z Z (Z) (Ab f) underlying22 Z mg Z) (AQ [18] Z (De Z lH Z Z Z) (AQ [19] Z (GW Z Z tY Z) (AQ [20] Z (BT (bL p.ro[b.length].r) Z Z) (AQ [1] Z (AU Z Qr Z Z Z) (Az [22] Z Z (λ_=>A5 (A2 Z Z Z kR Z)) (Av 4 Z Z ?_))))))));refine AQ [23,24] Z (Bh (b.length) Z Z (Z) (Ab f) underlying22 Z mg Z) (AQ [25] Z (mO Z lG Z Z Z) (AQ [26] Z (D2 Z Z Km Z) (AQ [21,27] Z (Fe QI oQ Z Z Z) (Fp [28] [50] [(29,_)] Z Z (λ_=>Fs (D6 50 Lq Z Z Z Z Z Z Z Z)) (.inr ⟨29,_,Z,Z,Z,Z,Z⟩) Z Z Z Z Z (Cg 17 Z Z Z (Ag 18 Z Z (V (H1 (b) ([p.ro[b.length]]) Z Z Z Z Z Z Z Z Lq (by simp only [Φ];omega) Z Z Z Z) (AD ⟨Z,?_⟩))))))));refine Ag 19 Z Z (J (AU Z Dp Z Z Z) (AD ⟨Z,?_⟩));refine Ag 20 Z Z (V (B1 Z Z Z Z Z Z Z nt) (AD ⟨Z,?_⟩));refine Cr (AE (dd Z Z (J (Ar Z Z (Rg b p.ro[b.length] (by omega)) Z) (AB Z Z (AD ?_)))));exact ⟨b++ [p.ro[b.length]],⟨Ly s f,by rw [Δ];show b.length+1<=_;omega⟩,by rw [Δ];show p.ro.length - (b.length+1)<p.ro.length - b.length;omega,AY l [901,1,2,3] Z (Z) ⟨Z,Z,Z,Z,trivial⟩⟩
 .refine BC (AC (AC ?_));have k:=QM s (λh=>j (by omega));refine jN (ys:=p.ro.map Bt) 3 0 0 901 Z Z Z (by simp) (by rw [k];exact ς (by simp)) Z Z Z Z Z Z (Cp 3 0 1 902 K8 Z Z Z Z Z Z Z (AE (AB Z Z (AD (A0 (BX (α:=List eR) (λa=>⟨51,[(1,(.ptr 1 0 0)),(2,(.ptr 2 0 0)),(3,(.ptr 3 0 0)),(5,(.d (AF (a.length:Int))))],[(902,[.rowD 55 6 (a.map Af)]),(1,[Mv 25 p]),(2,[.blk 39 [I6,I6]]),(3,[.blk 39 [.d (.sl none (p.ro.map Bt)),.own 902 0 a.length]])]⟩) (λa=>a=p.it.take a.length/\a.length<=p.it.length) (λa=>p.it.length - a.length) ([]) (⟨by simp,υ _⟩) (AY l [902,1,2,3] Z Z ⟨Z,Z,Z,Z,trivial⟩) ?_))))));rintro a ⟨o,t⟩;refine AC ?_;refine AC (AE (dd Z Z (J (AU Z JD Z Z Z) (J (A2 Z Z Z VD Z) (J (CB Z an Z) (J (BN Z Z Z) (AD (Ac Z (λi=>?_) (λi=>?_)))))))))
  .have c:a.length<p.it.length:=Ba i;refine AZ ?_;refine AC (A0 (DB [[],[0],[],[2],[],[2,3,4],[2,3,4,5],[2,3,4,5,6],[2,3,4,5,6,7],rg 9,rg 10,rg 11] mixed Z (DP (AQ [3] Z (AU Z Cy Z Z Z) (Az [39] Z Z (λ_=>A5 (A2 Z Z Z Is Z)) (AQ [1] Z (AU Z JD Z Z Z) (Az [41] Z Z (λ_=>A5 (A2 Z Z Z VD Z)) (Av 5 Z Z ?_))))))));have v:=w _ (ξ c);refine AQ [42,43] Z (Bh (a.length) Z Z (Z) (Ab c) an Z jc Z) (AQ [44] Z (GW Z Z tZ Z) (AQ [45] Z (BT (YI p.it[a.length] (by omega) (by omega) (by omega)) Z Z) (Fp [46] [51] [(47,_)] Z Z (λ_=>Fs (D6 51 K8 Z Z Z Z Z Z Z Z)) (.inr ⟨47,_,Z,Z,Z,Z,Z⟩) Z Z Z Z Z (Cg 9 Z Z Z (Ag 10 Z Z (V (H1 (a) ([p.it[a.length]]) Z Z Z Z Z Z Z Z K8 (by simp only [Φ];omega) Z Z Z Z) (AD ⟨Z,?_⟩)))))));refine Ag 11 Z Z (J (AU Z Cy Z Z Z) (AD ⟨Z,?_⟩));refine Ag 12 Z Z (V (B1 Z Z Z Z Z Z Z jd) (AD ⟨Z,?_⟩));refine Cr (AE (dd Z Z (J (Ar Z Z (Rg a p.it[a.length] (by omega)) Z) (AB Z Z (AD ?_)))));exact ⟨a++ [p.it[a.length]],⟨Ly o c,by rw [Δ];show a.length+1<=_;omega⟩,by rw [Δ];show p.it.length - (a.length+1)<p.it.length - a.length;omega,AY l [902,1,2,3] Z (Z) ⟨Z,Z,Z,Z,trivial⟩⟩
  .refine BC (AC ?_);have g:=QM o (λh=>i (by omega));refine jN (ys:=p.it.map Af) 3 0 1 902 Z Z Z (by simp) (by rw [g];exact ς (by simp)) Z Z Z Z Z Z (AE (J (BE Z Z BM Z Z Z) (V (B1 Z Z Z Z Z Z Z Xe) (AD (A4 ?_)))));exact ⟨_,[],[],A3 Z,Z,Z,Z,Z⟩
def HO (ids l:List Int) (k:Nat):Int:=if l.getD k 0∉ids then 9 else if l.getD k 0∈l.take k then 7 else 0
def QU (ids l:List Int):Int:=Bd ((List.range l.length).map (HO ids l))
def DM (p:ee) (l:List Int):Int:=if A6 p≠0 then A6 p else QU (p.it.map eR.id) l
theorem QT {a l:List Int} (h:QU a l=0):l.Nodup/\∀x∈l,x∈a:=by
 have c:=RT.1 h;refine ⟨gc.2 λi j k b g e=>?_,λx f=>?_⟩
 .have:=c j (Θ.2 b)
  grind [HO,iY]
 .obtain ⟨j,b,rfl⟩:=gF f;have:=c j (Θ.2 b)
  grind [HO]
theorem Vb (p:ee) (l:List Int) (C:EY p) (H:l.length<=100000) (w:DM p l≠0):AK prog 159 [.d (Bf p),.d (.sl none (l.map AF))] (.tup [.raw (.map none),AF (DM p l)]):=by
 have c:=FD p C;have E:=C.2.1
 by_cases t:A6 p=0
 .have o:=XT (HX t).2.1;rw [t] at c;have y:DM p l=QU (p.it.map eR.id) l:=θ (λh=>h t);rw [y] at w⊢
  obtain ⟨G,s⟩:∃e,QU (p.it.map eR.id) l=e:=⟨_,Z⟩
  rw [s] at w⊢;refine As func159 Z Z ntmps159 Z Z Z λF r=>(AC (AE (V (Bz 1 Z Z Z Z Z Z Z) (AB Z Z (AB Z Z (AD (AC (AC ?_))))))));refine AE (J (BE Z Z BM Z Z Z) (J (BT (c) Z Z) (AB Z Z (AD (AC (AE (dd Z Z (J (D7 Z Z Z) ?_))))))));refine AD (D3 Z ((by decide)) (AZ (AC (AE (V (O4 2 Z Z Z Z) (AB Z Z (AD (AC ?_))))))));refine AC (AE (J (AU Z Cy Z Z Z) (J (A2 Z Z Z Is Z) (J (CB Z F0 Z) (dd Z Z (AD (A0 (BX (α:=Nat) (λk=>⟨50,[(1,.d (.sl none (l.map AF))),(7,(.map 2 0)),(20,(.d (.sl none (p.it.map Af)))),(21,(.d (AF (p.it.length:Int)))),(22,(.d (AF (k:Int))))],[(2,[BB AF Aa (At ((p.it.take k).map eR.id))])]⟩) (λk=>k<=p.it.length) (λk=>p.it.length - k) (0) (υ _) (AY r [2] Z Z ⟨Z,Z,Z,Z,Z,trivial⟩) ?_))))))));rintro k v;refine AC (AE (J (BN Z Z Z) (AD (AC (Ac Z (λi=>?_) (λi=>?_))))))
  .have a:k<p.it.length:=Ba i;refine AZ (AC (A0 (AC (AE ?_))));have u:p.it[k].id∉(p.it.take k).map eR.id:=λh=>by rw [List.Nodup,fz,gc] at o;obtain ⟨x,D,e⟩:=κ.1 h;obtain ⟨j,I,rfl⟩:=iY.1 D;exact o j k (by omega) a (by omega) e
   refine J (Bh (k) Z Z (Z) (Ab a) F0 Z CY Z) (J (GW Z Z Bs Z) (V (Bn 3 E4 Z Z Z Z) (V (B1 Z Z Z Z Z Z Z CY) (AD (AE ?_)))));refine dd Z Z (J (AU Z OY Z Z Z) (J (A2 Z Z Z Aw Z) (V (UO (At ((p.it.take k).map eR.id)) (p.it[k].id) (true) Z Z Z EL HS Z Z) (AD (AE (J (Ar Z Z (AO (k+1) (by omega)) Z) (dd Z Z (AD ?_))))))));exact ⟨k+1,by show k+1<=_;omega,by show p.it.length - (k+1)<p.it.length - k;omega,AY r [2] Z (by rw [Db a,<-ZT u];rfl) ⟨Z,Z,Z,Z,Z,trivial⟩⟩
  .refine BC (AC ?_);rw [ς (show p.it.length<=k by have h:=i;omega)];refine AE (V (O4 4 Z Z Z Z) (AB Z Z (AD ?_)));refine AC (AC (AE (dd Z Z (J (CB Z E0 Z) (dd Z Z (AD (A0 (BX (α:=Nat) (λk=>⟨50,[(7,(.map 2 0)),(10,(.map 4 0)),(31,(.d (.sl none (l.map AF)))),(32,(.d (AF (l.length:Int)))),(33,(.d (AF (k:Int))))],[(2,[BB AF Aa (At (p.it.map eR.id))]),(4,[BB AF Aa (At (l.take k))])]⟩) (λk=>k<=l.length/\G=Bd (((List.range l.length).drop k).map (HO (p.it.map eR.id) l))) (λk=>l.length - k) (0) (⟨υ _,s.symm⟩) (AY r [2,4] Z Z ⟨Z,Z,Z,Z,Z,trivial⟩) ?_))))))));rintro k ⟨v,B⟩;refine AC (AE (J (BN Z Z Z) (AD (AC (Ac Z (λg=>?_) (λg=>?_))))))
   .have a:k<l.length:=Ba g;refine AZ (AC (A0 (AC (AE ?_))));have f:=EI a B;have b:=EQ 0 a;refine J (Bh (k) Z Z (Z) (Ab a) E0 Z BU Z) (J (D2 Z Z Aw Z) ?_);refine AB Z Z (AD (AC (A0 (AC (AE (dd Z Z (dd Z Z (J (HY (At (p.it.map eR.id)) (l[k]) (false) _ Z Z Z EL HS Rd Z Z) ?_))))))));rw [XZ];refine J (OX Z Z) (AB Z Z (AD (Ac Z (λA=>?_) (λA=>?_))))
    .refine AC (AE (AB Z Z (AB Z Z (AD (A4 ?_)))));exact ⟨_,[],[],A3 Z,Z,Z,by rw [f.2 9 (by unfold HO;rw [b,ϱ (by simp_all)]) (by decide)],Z⟩
    .refine AC (AE (dd Z Z (dd Z Z (J (HY (At (l.take k)) (l[k]) (false) _ Z Z Z EL HS Rd Z Z) ?_))));rw [XZ];refine AB Z Z (AD (Ac Z (λz=>?_) (λz=>?_)))
     .refine AC (AE (AB Z Z (AB Z Z (AD (A4 ?_)))));exact ⟨_,[],[],A3 Z,Z,Z,by rw [f.2 7 (by unfold HO;rw [b,θ (by simp_all),ϱ (by simp_all)]) (by decide)],Z⟩
     .refine AZ ?_;refine AE (dd Z Z (dd Z Z (V (UO (At (l.take k)) (l[k]) (true) Z Z Z EL HS Z Z) (AD (AE (J (Ar Z Z (AO (k+1) (by omega)) Z) (dd Z Z (AD ?_))))))));exact ⟨k+1,⟨by show k+1<=_;omega,f.1 (by unfold HO;rw [b,θ (by simp_all),θ (by simp_all)])⟩,by show l.length - (k+1)<l.length - k;omega,AY r [2,4] Z (by rw [χ a,<-ZT (by simp_all)];rfl) ⟨Z,Z,Z,Z,Z,trivial⟩⟩
   .refine BC (AC (AE (dd Z Z (AB Z Z (AB Z Z (AD (A4 ?_)))))));exact absurd (by rw [B,List.drop_of_length_le (by have h:=g;simp only [gI];omega)];rfl) w
 .have y:DM p l=A6 p:=ϱ t;rw [y];refine As func159 Z Z ntmps159 Z Z Z λF r=>(AC (AE (V (Bz 1 Z Z Z Z Z Z Z) (AB Z Z (AB Z Z (AD (AC (AC ?_))))))));refine AE (J (BE Z Z BM Z Z Z) (J (BT (c) Z Z) (AB Z Z (AD (AC (AE (dd Z Z (J (D7 Z Z Z) ?_))))))));refine AD (DO Z ((Υ t)) (AC (AE (dd Z Z (AB Z Z (AB Z Z (AD (A4 ?_))))))));exact ⟨_,[],[],A3 Z,Z,Z,Z,Z⟩
theorem ZD (p:ee) (l:List Int) (A:EY p) (K:l.length<=100000) (c:DM p l=0):AJ prog 159 [.d (Bf p),.d (.sl none (l.map AF))] [] λr H=>r= .tup [.map 4 0,.d (AF 0)]/\H=[(4,[BB AF Aa (At l)])]:=by
 have s:=FD p A;have E:=A.2.1
 have z:A6 p=0:=by
  unfold DM at c;split at c
  .exact c
  .rename_i h;simpa using h
 have i:=XT (HX z).2.1;rw [z] at s;have G:DM p l=QU (p.it.map eR.id) l:=θ (λh=>h z);rw [G] at c;refine As func159 Z Z ntmps159 Z Z Z λF t=>(AC (AE (V (Bz 1 Z Z Z Z Z Z Z) (AB Z Z (AB Z Z (AD (AC (AC ?_))))))));refine AE (J (BE Z Z BM Z Z Z) (J (BT (s) Z Z) (AB Z Z (AD (AC (AE (dd Z Z (J (D7 Z Z Z) ?_))))))));refine AD (D3 Z ((by decide)) (AZ (AC (AE (V (O4 2 Z Z Z Z) (AB Z Z (AD (AC ?_))))))));refine AC (AE (J (AU Z Cy Z Z Z) (J (A2 Z Z Z Is Z) (J (CB Z F0 Z) (dd Z Z (AD (A0 (BX (α:=Nat) (λk=>⟨50,[(1,.d (.sl none (l.map AF))),(7,(.map 2 0)),(20,(.d (.sl none (p.it.map Af)))),(21,(.d (AF (p.it.length:Int)))),(22,(.d (AF (k:Int))))],[(2,[BB AF Aa (At ((p.it.take k).map eR.id))])]⟩) (λk=>k<=p.it.length) (λk=>p.it.length - k) (0) (υ _) (AY t [2] Z Z ⟨Z,Z,Z,Z,Z,trivial⟩) ?_))))))));rintro k u;refine AC (AE (J (BN Z Z Z) (AD (AC (Ac Z (λg=>?_) (λg=>?_))))))
 .have a:k<p.it.length:=Ba g;refine AZ (AC (A0 (AC (AE ?_))));have b:p.it[k].id∉(p.it.take k).map eR.id:=λh=>by rw [List.Nodup,fz,gc] at i;obtain ⟨x,B,e⟩:=κ.1 h;obtain ⟨j,C,rfl⟩:=iY.1 B;exact i j k (by omega) a (by omega) e
  refine J (Bh (k) Z Z (Z) (Ab a) F0 Z CY Z) (J (GW Z Z Bs Z) (V (Bn 3 E4 Z Z Z Z) (V (B1 Z Z Z Z Z Z Z CY) (AD (AE ?_)))));refine dd Z Z (J (AU Z OY Z Z Z) (J (A2 Z Z Z Aw Z) (V (UO (At ((p.it.take k).map eR.id)) (p.it[k].id) (true) Z Z Z EL HS Z Z) (AD (AE (J (Ar Z Z (AO (k+1) (by omega)) Z) (dd Z Z (AD ?_))))))));exact ⟨k+1,by show k+1<=_;omega,by show p.it.length - (k+1)<p.it.length - k;omega,AY t [2] Z (by rw [Db a,<-ZT b];rfl) ⟨Z,Z,Z,Z,Z,trivial⟩⟩
 .refine BC (AC ?_);rw [ς (show p.it.length<=k by have h:=g;omega)];refine AE (V (O4 4 Z Z Z Z) (AB Z Z (AD ?_)));refine AC (AC (AE (dd Z Z (J (CB Z E0 Z) (dd Z Z (AD (A0 (BX (α:=Nat) (λk=>⟨50,[(7,(.map 2 0)),(10,(.map 4 0)),(31,(.d (.sl none (l.map AF)))),(32,(.d (AF (l.length:Int)))),(33,(.d (AF (k:Int))))],[(2,[BB AF Aa (At (p.it.map eR.id))]),(4,[BB AF Aa (At (l.take k))])]⟩) (λk=>k<=l.length) (λk=>l.length - k) (0) (υ _) (AY t [2,4] Z Z ⟨Z,Z,Z,Z,Z,trivial⟩) ?_))))))));rintro k u;refine AC (AE (J (BN Z Z Z) (AD (AC (Ac Z (λf=>?_) (λf=>?_))))))
  .have a:k<l.length:=Ba f;refine AZ (AC (A0 (AC (AE ?_))));have I:=RT.1 c k (Θ.2 a);have D:=EQ 0 a;have v:l[k]∈p.it.map eR.id:=(QT c).2 _ (ξ a);have b:l[k]∉l.take k:=λh=>by have o:=(QT c).1;rw [List.Nodup,gc] at o;obtain ⟨j,C,e⟩:=iY.1 h;exact o j k (by omega) a (by omega) e
   refine J (Bh (k) Z Z (Z) (Ab a) E0 Z BU Z) (J (D2 Z Z Aw Z) ?_);refine AB Z Z (AD (AC (A0 (AC (AE (dd Z Z (dd Z Z (J (HY (At (p.it.map eR.id)) (l[k]) (false) _ Z Z Z EL HS Rd Z Z) ?_))))))));rw [XZ];refine J (OX Z Z) (AB Z Z (AD (Ac Z (λy=>?_) (λy=>?_))))
   .refine AC (AE (AB Z Z (AB Z Z (AD (A4 ?_)))));exact absurd v (by simp_all)
   .refine AC (AE (dd Z Z (dd Z Z (J (HY (At (l.take k)) (l[k]) (false) _ Z Z Z EL HS Rd Z Z) ?_))));rw [XZ];refine AB Z Z (AD (Ac Z (λw=>?_) (λw=>?_)))
    .refine AC (AE (AB Z Z (AB Z Z (AD (A4 ?_)))));exact absurd b (by simp_all)
    .refine AZ ?_;refine AE (dd Z Z (dd Z Z (V (UO (At (l.take k)) (l[k]) (true) Z Z Z EL HS Z Z) (AD (AE (J (Ar Z Z (AO (k+1) (by omega)) Z) (dd Z Z (AD ?_))))))));exact ⟨k+1,by show k+1<=_;omega,by show l.length - (k+1)<l.length - k;omega,AY t [2,4] Z (by rw [χ a,<-ZT b];rfl) ⟨Z,Z,Z,Z,Z,trivial⟩⟩
  .refine BC (AC (AE (dd Z Z (AB Z Z (AB Z Z (AD (A4 ?_)))))));exact ⟨_,[4],_,A3 Z,Z,Z,Z,by rw [ς (show l.length<=k by have h:=f;omega)]<;>rfl⟩
theorem DJ (x:AM×Int) (l:List (AM×Int)) (r:AM):Al (x::l) r=(if x.1=r then x.2 else 0)+Al l r:=by simp [Al]
theorem T9 {m:List (AM×Int)} (h:i.Perm m) (r:AM):Al i r=Al m r:=by
 induction h with
 | nil=>rfl
 | cons x _ c=>rw [DJ,DJ,c]
 | swap x y i=>simp only [DJ];omega
 | trans _ _ b a=>rw [b,a]
theorem F9 (h:G∉i.map Prod.fst):Al i G=0:=by
 induction i with
 | nil=>rfl
 | cons x i a=>
  grind [DJ]
theorem V8 (b:(i.map Prod.fst).Nodup) {v:Int} (h:(G,v)∈i):Al i G=v:=by
 induction i with
 | nil=>cases h
 | cons x i a=>
  grind [DJ,F9]
theorem T8 (c:List (AM×Int)) (r:AM):Al (ew c) r=Al c r:=by grind [V8,Et,Eu,F9,IE]
theorem k9 {m:List (c×K)} {B seen:List Nat} {x:c×K} (h:x∈Bi m B seen):x∈m:=by
 unfold Bi at h;obtain ⟨y,f,rfl⟩:=κ.1 h;exact (List.of_mem_zip (a:=y.1) (b:=y.2) (Γ.1 f).1).1
theorem Wk {m:List (c×K)} {B seen:List Nat}:(Bi m B seen).length<=m.length:=by grind [Bi]
def Lm (l:List eR) (r:AM):Int:=(l.map λi=>Al (fX i) r).sum
theorem Xc (l:List eR) (i:eR) (r:AM):Lm (l++ [i]) r=Lm l r+Al (fX i) r:=by simp [Lm]
def jM (l:List Int) (i:eR):Bool:=decide (i.id∈l)
theorem Sx (h:Dl a=0):∀i∈a,Aq i=0:=λi f=>by
 have g:=RT.1 h;obtain ⟨j,b,rfl⟩:=gF f;have:=g j (Θ.2 b);unfold Ng at this;rw [EQ eT b] at this
 split at this
 .contradiction
 .rename_i c;simpa using c
theorem MU (h:Aq t=0) (r:AM): -Mx<=Al (fX t) r/\Al (fX t) r<=Mx:=by
 have a:=(GV h).2.2.2.2.2.2.2.2;unfold RP at a
 split at a
 .cases a
 .rename_i c
  by_cases b:r∈(ew (fX t)).map Prod.fst
  .grind [Eu]
  grind [F9,IE]
theorem nR (h:Aq t=0):O7 (ew (fX t)):=λx a=>by
 have b:=((Eu (fX t) x.1 x.2).1 a).2;rw [b];simpa [Mx] using MU h x.1
theorem sW (h:Aq t=0):(ew (fX t)).length<=1280:=by
 have a:=(GV h).1;have c:=a.po;have b:=a.pa;have:=H6 (fX t);rw [JG] at this;omega
theorem M9 {l:List eR} (h:∀i∈l,Aq i=0) (a:l.length<=1000) (r:AM): -1000000000000000000<=Lm l r/\Lm l r<=1000000000000000000:=by
 have:=PD (l:=l) (f:=λi=>Al (fX i) r) (B:=1000000000000000) (λi b=>by simpa [Mx] using MU (h i b) r) 1000 a (by omega);unfold Lm;omega
def U6 (p:ee) (l:List Int):List eY:=p.ro.map λx=>⟨x.r,x.n+Lm (p.it.filter (jM l)) x.r⟩
theorem IK {l:List eY} (h:Cv l=0):∀x∈l,-4000000000000000<=x.n/\x.n<=4000000000000000:=λx b=>by
 have f:=RT.1 h;obtain ⟨j,a,rfl⟩:=gF b;have:=f j (Θ.2 a);unfold Ms at this;rw [EQ Ha a] at this
 split at this
 .contradiction
 .split at this
  .cases this
  .rename_i c;simp only [Mx] at c;omega
theorem TP {p:c ->Bool} (a:x<f.length):(f.take (x+1)).filter p=(f.take x).filter p++(if p f[x] then [f[x]] else []):=EO a
theorem Ze (p:ee) (l:List Int) (Y:EY p) (hl:l.length<=100000) (G:p.it.length<=1000):AK prog 113 [.d (Bf p),.d (.sl none (l.map AF))] (.tup [.sl none ((if DM p l=0 then U6 p l else []).map Bt),AF (DM p l)]):=by
 by_cases j:DM p l=0
 .have X:=(ZD p l Y hl j).by [(4,40)] rfl
  have h0:A6 p=0:=by
   unfold DM at j;split at j
   .exact j
   .rename_i h;simpa using h
  have w:=Sx (HX h0).2.1;have K:=IK (HX h0).1;have hb1:=Y.1;rw [ϱ j,j];refine As func113 Z Z ntmps113 Z Z Z λF u=>(AC (AE (V (Bz 1 Z Z Z Z Z Z Z) (AB Z Z ?_))));refine AB Z Z (AD (AC (AE (J (BE Z Z BM Z Z Z) (dd Z Z (V (EX X Z [40] ⟨Z,trivial⟩ Z Z Z Z Z Z Z Z Z) (dd Z Z (J (Cf Z Z Z) ?_))))))));refine J (Cf Z Z Z) (AB Z Z (AB Z Z (AD (AC (AC (AE (dd Z Z (J (D7 Z Z Z) ?_))))))));refine AD (D3 Z ((by decide)) (AZ (AC (AE (V (O4 2 Z Z Z Z) (AB Z Z (AD (AC ?_))))))));refine AC (AE (J (AU Z Cy Z Z Z) (J (A2 Z Z Z Is Z) (J (CB Z F0 Z) (dd Z Z (AD (A0 (BX (α:=Nat×List (AM×Int)) (λq=>⟨76,[(2,(.ptr 1 0 0)),(6,(.map 40 0)),(8,(.map 2 0)),(27,(.d (.sl none (p.it.map Af)))),(28,(.d (AF (p.it.length:Int)))),(29,(.d (AF (q.1:Int))))],[(1,[Mv 39 p]),(40,[BB AF Aa (At l)]),(2,[BB CC AF q.2])]⟩) (λq=>q.1<=p.it.length/\∀r,A1 q.2 r 0=Lm ((p.it.take q.1).filter (jM l)) r) (λq=>p.it.length - q.1) ((0,[])) (⟨υ _,λ_=>rfl⟩) (AY u [1,40,2] Z Z ⟨Z,Z,Z,Z,Z,Z,trivial⟩) ?_))))))));rintro ⟨k,M⟩ ⟨T,I⟩;dsimp only at T I⊢;refine AC (AE (J (BN Z Z Z) (AD (AC (Ac Z (λD=>?_) (λD=>?_))))))
  .have f:k<p.it.length:=Ba D;refine AZ (AC (A0 (AC (AE ?_))));have y:=w _ (ξ f);have hs:=(QO p.it[k] (GV y).1).by [(2,41)] rfl;have g:=nR y;have hEl:=sW y;have Q:=λr=>T8 (fX p.it[k]) r;have hEn:=Et (fX p.it[k]);have hT:=M9 (l:=(p.it.take k).filter (jM l)) (λi U=>w i (gk (Γ.1 U).1)) (fO (gM _ _) (by rw [Ξ];omega))
   obtain ⟨E,hEE⟩:∃E,ew (fX p.it[k])=E:=⟨_,Z⟩
   rw [hEE] at hs g hEl Q hEn;refine J (Bh (k) Z Z (Z) (Ab f) F0 Z CY Z) (J (GW Z Z Bs Z) (V (Bn 3 E4 Z Z Z Z) ?_));refine V (B1 Z Z Z Z Z Z Z CY) (AD (AC (AC (AE (dd Z Z (J (AU Z OY Z Z Z) (J (A2 Z Z Z Aw Z) (J (HY (At l) (p.it[k].id) (false) _ Z Z Z EL HS Rd Z Z) ?_))))))));rw [XZ];refine J (OX Z Z) (AD (Ac Z (λC=>?_) (λC=>?_)))
   .refine BC (AE (J (Ar Z Z (AO (k+1) (by omega)) Z) (dd Z Z (AD ?_))));exact ⟨(k+1,M),⟨by show k+1<=_;omega,λr=>by show A1 M r 0=Lm ((p.it.take (k+1)).filter (jM l)) r;rw [TP f,θ (by unfold jM;simpa using C),gN];exact I r⟩,by show p.it.length - (k+1)<p.it.length - k;omega,AY u [1,40,2] Z (Z) ⟨Z,Z,Z,Z,Z,Z,trivial⟩⟩
   .refine AZ (AC (AE (J (BE Z Z Bs Z Z Z) (V (EX hs Z [41] ⟨Z,trivial⟩ Z Z Z Z Z Z Z Z Z) (V (Fy 4 Z Z Z Bq Z Z Z Z) (AD (A0 (BX (α:=List Nat×List (AM×Int)) (λq=>⟨76,[(2,(.ptr 1 0 0)),(6,(.map 40 0)),(8,(.map 2 0)),(27,(.d (.sl none (p.it.map Af)))),(28,(.d (AF (p.it.length:Int)))),(29,(.d (AF (k:Int)))),(40,(.ptr 4 0 0))],[(4,[.iter 41 0 E.length q.1]),(41,[BB CC AF E]),(1,[Mv 39 p]),(40,[BB AF Aa (At l)]),(2,[BB CC AF q.2])]⟩) (λq=>∀r,A1 q.2 r 0+Al (Bi E (List.range E.length) q.1) r=Lm ((p.it.take k).filter (jM l)) r+Al E r) (λq=>(Bi E (List.range E.length) q.1).length) (([],M)) (λr=>by show A1 M r 0+Al (Bi E (List.range E.length) []) r=_;rw [mH (by simp),I r]) (AY u [4,41,1,40,2] Z Z ⟨Z,Z,Z,Z,Z,Z,Z,trivial⟩) ?_))))))));rintro ⟨seen,N⟩ R;dsimp only at R⊢;refine AC (AE (Kn (E) Z Z Z Z (λL=>?_) (λS o b c t P hB41 s=>⟨_,Z,?_⟩)))
    .have O:∀r,A1 N r 0=Lm ((p.it.take k).filter (jM l)) r+Al (fX p.it[k]) r:=λr=>by have H:=R r;rw [L] at H;rw [<-Q r];have h2:Al ([]:List (AM×Int)) r=0:=rfl;omega
     refine J (Cf Z Z Z) (AD (AC (D3 Z Z (BC (AE (J (Ar Z Z (AO (k+1) (by omega)) Z) (dd Z Z (AD ?_))))))));exact ⟨(k+1,N),⟨by show k+1<=_;omega,λr=>by show A1 N r 0=Lm ((p.it.take (k+1)).filter (jM l)) r;rw [TP f,ϱ (by unfold jM;simpa using C),Xc];exact O r⟩,by show p.it.length - (k+1)<p.it.length - k;omega,AY u [1,40,2] Z (Z) ⟨Z,Z,Z,Z,Z,Z,trivial⟩⟩
    .refine J (Cf Z Z Z) (AD (AC ?_));refine DO Z Z (AZ (A0 (AC (AE (J (Fz (E) S o Z Z Z t P Z) (J (Cf Z Z Z) (J (Cf Z Z Z) (V (Bn 5 JM Z Z Z Z) ?_))))))));refine V (B1 Z Z Z Z Z Z Z Xd) (AB Z Z (AD (DB [[],[],[0,1],[],[0,1,2,3],[0,1,3],[0,1,3,5],rg 7] mixed Z (Yq 2 ([BB CC AF (BS N b 0)]) Z (Av 8 Z Z (Az [11] Z Z (λ_=>A5 (BE Z Z CQ Z Z Z)) (I0 [46,47] [] Z Z Z (λ_=>A5 (HY (N) (b) (0) _ Z Z Z Bq By O1 Z Z)) (λ_=>A5 (HY (BS (N) (b) (0)) (b) (0) _ Z Z Z Bq By O1 (Dk _ _ _ _) Z)) (Av 12 Z Z ?_))))))))
     have hNb: -6000000000000000000<=A1 N b 0+c/\A1 N b 0+c<=6000000000000000000:=by {have H:=R b;have h2:=HB (l:=Bi E (List.range E.length) seen) (λx hx=>g x (k9 hx)) b;have h3:=HB g b;have h4:=Wk (m:=E) (B:=List.range E.length) (seen:=seen);have h5:=hT b;have h6:=g (b,c) (ϑ t);simp only at h6;omega}
     refine AQ [48,49] Z (Ar Z Z (Ω _ (by omega)) Z) (Fp [46,47] [2] [(51,_)] Z Z (λ_=>Fs (G1 (N) (b) (0) Z Z Z Bq By O1 Z Z)) (.inr ⟨51,_,Z,Z,Z,Z,Z⟩) Z Z Z Z Z ?_ (hCn:=Pz Z));refine AQ [51] Z (Cf Z Z Z) (Cg 7 Z Z Z (Ag 8 Z Z (V (G3 (N) (b) (0) (A1 N b 0+c) Z Z Z By Z Z) (AD ⟨Z,?_⟩))));refine Cr ?_;exact ⟨(seen++ [o],_),(λr=>by show A1 (BA N b (A1 N b 0+c)) r 0+Al (Bi E (List.range E.length) (seen++ [o])) r=_;have H:=R r;rw [T9 s,DJ] at H;rw [GK];by_cases e:r=b; · {rw [ϱ e];rw [ϱ e.symm] at H;rw [e] at H⊢;omega}; · {rw [θ e];rw [θ (λh=>e h.symm)] at H;omega}),by show (Bi E (List.range E.length) (seen++ [o])).length<(Bi E (List.range E.length) seen).length;rw [s.length_eq];exact iC _,AY u [4,41,1,40,2] Z (Z) ⟨Z,Z,Z,Z,Z,Z,Z,trivial⟩⟩
  .refine BC (AC ?_);have v:p.it.take k=p.it:=ς (by have h:=D;omega);rw [v] at I;have hTb:=M9 (l:=p.it.filter (jM l)) (λi U=>w i (Γ.1 U).1) (fO (gM _ _) G);refine AE (AB Z Z (AD (AC (AC ?_))));refine Ou 13 900 Lq Z Z Z Z (AE (J (AU Z Dp Z Z Z) (J (A2 Z Z Z Ob Z) (J (CB Z S1 Z) (dd Z Z (AD (A0 (BX (α:=List eY) (λa=>⟨76,[(8,(.map 2 0)),(13,(.own 900 0 a.length)),(55,(.d (.sl none (p.ro.map Bt)))),(56,(.d (AF (p.ro.length:Int)))),(57,(.d (AF (a.length:Int))))],[(900,[.rowD 88 7 (a.map Bt)]),(2,[BB CC AF M])]⟩) (λa=>a.length<=p.ro.length/\a=(U6 p l).take a.length) (λa=>p.ro.length - a.length) ([]) (⟨υ _,by simp⟩) (AY u [900,2] Z Z ⟨Z,Z,Z,Z,Z,trivial⟩) ?_))))))));rintro a ⟨ha0,hA⟩;refine AC (AE (J (BN Z Z Z) (AD (AC (Ac Z (λA=>?_) (λA=>?_))))))
   .have z:a.length<p.ro.length:=Ba A;refine AZ (AC (A0 ?_));refine AC (AE (J (Bh (a.length) Z Z (Z) (Ab z) S1 Z Ln Z) (J (GW Z Z Ui Z) (V (Bn 6 QI Z Z Z Z) (V (B1 Z Z Z Z Z Z Z Ln) (AD (DB [[],[],[1],[],[3],[],[],[6],[5,6,7],[3,4,5,6,7,8],[1,2,3,4,5,6,7,8,9],[1,2,3,4,5,6,7,8,9,10],rg 12,rg 13] mixed Z (DP ?_))))))));refine Av 13 Z Z (AQ [15] Z (AU Z EU Z Z Z) (Az [62] Z Z (λ_=>A5 (BE Z Z CQ Z Z Z)) (AQ [15] Z (AU Z Qp Z Z Z) (Az [64] Z Z (λ_=>A5 (A2 Z Z Z Km Z)) (Av 8 Z Z (AQ [15] Z (AU Z EU Z Z Z) (Az [67] Z Z (λ_=>A5 (BE Z Z CQ Z Z Z)) (Az [66,68] Z Z (λ_=>A5 (HY (M) (p.ro[a.length].r) (0) _ Z Z Z Bq By O1 Z Z)) ?_))))))));have hr1:=K _ (ξ z);have hr2:=hTb p.ro[a.length].r;have hr3:=I p.ro[a.length].r;refine AQ [65,69] Z (Ar Z Z (Ω _ (by omega)) Z) (AQ [63,70] Z (Fe QI oQ Z Z Z) (Fp [71] [50] [(72,_)] Z Z (λ_=>Fs (D6 50 Lq Z Z Z Z Z Z Z Z)) (.inr ⟨72,_,Z,Z,Z,Z,Z⟩) Z Z Z Z Z (Cg 12 Z Z Z (Ag 13 Z Z (V (H1 (a) ([⟨p.ro[a.length].r,p.ro[a.length].n+A1 M p.ro[a.length].r 0⟩]) Z Z Z Z Z Z Z Z Lq (by simp only [Φ];omega) Z Z Z Z) (AD ⟨Z,?_⟩))))));refine Ag 14 Z Z (AB Z Z (AD ⟨Z,?_⟩));refine Cr (AE (J (Ar Z Z (Rg a (⟨p.ro[a.length].r,p.ro[a.length].n+A1 M p.ro[a.length].r 0⟩:eY) (by omega)) Z) (dd Z Z (AD ?_))));exact ⟨a++ [⟨p.ro[a.length].r,p.ro[a.length].n+A1 M p.ro[a.length].r 0⟩],⟨by rw [Δ];show a.length+1<=_;omega,by rw [Δ];show _=(U6 p l).take (a.length+1);rw [χ (by unfold U6;simpa using z),<-hA];congr 1;unfold U6;simp [I]⟩,by rw [Δ];show p.ro.length - (a.length+1)<p.ro.length - a.length;omega,AY u [900,2] Z (Z) ⟨Z,Z,Z,Z,Z,trivial⟩⟩
   .refine BC (AC ?_);have W:a=U6 p l:=by rw [hA];exact ς (by unfold U6;rw [ψ];have h:=A;omega)
    refine Ls (emb:=Bt) 13 900 a Z Z Z Z Z Z Z (AE (dd Z Z (AB Z Z (AB Z Z (AD (A4 ?_))))));exact ⟨_,[],[],A3 Z,Z,Z,by rw [W],Z⟩
 .have X:=Vb p l Y hl j;rw [θ j];refine As func113 Z Z ntmps113 Z Z Z λF u=>(AC (AE (V (Bz 1 Z Z Z Z Z Z Z) (AB Z Z (XY 4 Z (AB Z Z ?_))))));refine AD (AC (AE (J (BE Z Z BM Z Z Z) (dd Z Z (J (BT (X) Z Z) (dd Z Z (J (C6 Z Z Z) (J (C6 Z Z Z) ?_))))))));refine AB Z Z (AB Z Z (AD (AC (AC (AE (dd Z Z (J (D7 Z Z Z) (AD ?_))))))));refine DO Z ((Υ j)) (AC (AE (dd Z Z (AB Z Z (XY 4 Z (AB Z Z (AD (A4 ?_))))))));exact ⟨_,[],[],A3 Z,Z,Z,Z,Z⟩
theorem To (l:List Int) (c:l.length<=1000000):AJ prog 89 [.d (.sl none (l.map AF))] [] λr b=>r= .own 20 0 l.length/\b=[(20,[.rowD 3 1 (l.map AF)])]:=by
 refine As func89 Z Z ntmps89 Z Z Z λF g=>(AC (AE (AB Z Z ?_)));skip;refine AD (AC (AC (AE (dd Z Z (FF 3 Z (λa=>?_) ?_)))))
 .refine J (Dy E0 Z Z) (AD (DO Z (Z) (AC (AE (AB Z Z (W5 2 20 BV Z Z Z Z (AD (A4 ?_))))))));exact ⟨_,[20],_,A3 Z,Z,Z,by rw [<-ψ (f:=AF),a];rfl,by rw [a]⟩
 .refine J (Dy E0 Z Z) ?_;refine AD (D3 Z (Z) (AZ (AC (AE (V (D6 20 BV Z Z Z Z Z Z Z Z) (dd Z Z (V (Ex (([]:List Int)) (l) Z Z Z Z Z Z (λ_=>rfl) BV (by simp only [List.length_nil];omega) Z Z Z Z) (AB Z Z ?_))))))));skip;refine AD (A4 ?_);exact ⟨_,[20],_,A3 Z,Z,Z,by simp,by simp⟩
def eo (p:ee) (id:Int):eR:=p.it.getD ((p.it.map eR.id).idxOf id) eT
theorem GL {p:ee} {id:Int} (h:id∈p.it.map eR.id):∃b:(p.it.map eR.id).idxOf id<p.it.length,kh id (p.it.map eR.id)=(((p.it.map eR.id).idxOf id:Nat):Int)/\eo p id=p.it[(p.it.map eR.id).idxOf id]/\(eo p id).id=id:=by
 have b:(p.it.map eR.id).idxOf id<(p.it.map eR.id).length:=List.idxOf_lt_length_iff.2 h;have a:(p.it.map eR.id).idxOf id<p.it.length:=by simpa using b
 have c:eo p id=p.it[(p.it.map eR.id).idxOf id]:=EQ eT a;refine ⟨a,ϱ h,c,?_⟩;have f:=List.getElem_idxOf b
 grind
theorem bJ {m:List c} (h:f.Perm m) (a:c ->Int):(f.map a).sum=(m.map a).sum:=by
 induction h with
 | nil=>rfl
 | cons x _ i=>simp [i]
 | swap x y f=>simp;omega
 | trans _ _ g b=>rw [g,b]
abbrev Hd:=Option (Nat×Nat)
def uF:Hd ->Nat ->Value
 | none,_=> .slice none 0 0
 | some (b,c),n=>sV b n c
abbrev fE (h:Hd) (n:Nat):D:= .raw (uF h n)
structure Nd where
 it:eR
 eh:Hd
 ef:List (Nat×Int)
 ph:Hd
 pl:List (Nat×Nat)
 on:Bool
structure Po where
 r:AM
 room:Int
 sum:Int
 qh:Hd
 q:List Nat
 mi:Nat
structure fC where
 nd:List Nd
 po:List Po
 nh:Hd
 mh:Hd
abbrev u3 (x:Nd):List D:=[AF x.it.id,AF x.it.pr,AF x.it.sq,.sl none (x.it.po.map CF),.sl none (x.it.pa.map Fk),.sl none (x.it.af.map AF),fE x.eh x.ef.length,fE x.ph x.pl.length,Aa x.on]
abbrev kA (y:Po):List D:=[AF y.r.k,Aj y.r.acc.o,AF y.r.acc.k,Aj y.r.acc.a,Aj y.r.f,Aj y.r.t,AF y.room,AF y.sum,fE y.qh y.q.length,AF (y.mi:Int)]
abbrev dC (pb:Nat ->Nat) (e:Nat×Int):D:= .agg [pD (pb e.1) 0,AF e.2]
abbrev jJ (pb:Nat ->Nat) (e:Nat×Nat):D:= .agg [pD (pb e.1) 0,AF (e.2:Int)]
abbrev BH (b:Nat):D:=pD b 0
def BD (M:MF) (h:Hd) (t:TypeId) (k:Nat) (xs:List D):Prop:=match h with
 | none=>xs=[]
 | some (b,c)=>xs.length<=c/\M b=some (.row t k c xs)
abbrev UV (x:Nd):A7:= .cells 184 (u3 x)
abbrev UU (y:Po):A7:= .cells 190 (kA y)
variable {I:Hd}
theorem Um {g:A7} (i:M o=some (.cells B C)) {f:List D} (a:BD M I E x f):BD (BJ M o g) I E x f:=by
 match I,a with
 | none,a=>exact a
 | some (j,c),a=>
  grind [BD,BJ]
abbrev Kg (v:Value):D:= .raw v
def CI:Po:=⟨⟨0,UH,[],[]⟩,0,0,none,[],0⟩
def Bo:Nd:=⟨eT,none,[],none,[],false⟩
structure fG where
 h:Hd
 t:TypeId
 k:Nat
 xs:List D
inductive RI where
 | e (i:Nat)
 | p (i:Nat)
 | q (j:Nat)
 | n
 | m
def CO (nb pb:Nat ->Nat) (N:fC):RI ->fG
 | .e i=>⟨(N.nd.getD i Bo).eh,188,2,(N.nd.getD i Bo).ef.map (dC pb)⟩
 | .p i=>⟨(N.nd.getD i Bo).ph,254,2,(N.nd.getD i Bo).pl.map (jJ pb)⟩
 | .q j=>⟨(N.po.getD j CI).qh,176,1,(N.po.getD j CI).q.map λi=>BH (nb i)⟩
 | .n=>⟨N.nh,176,1,(List.range N.nd.length).map λi=>BH (nb i)⟩
 | .m=>⟨N.mh,186,1,(List.range N.po.length).map λj=>BH (pb j)⟩
def E3 (M:MF) (R:RI ->fG):Prop:=(∀r,BD M (R r).h (R r).t (R r).k (R r).xs)/\∀r r' b c c',(R r).h=some (b,c) ->(R r').h=some (b,c') ->r=r'
def BZ (M:MF):Hd ->MF
 | none=>M
 | some (b,_)=>E2 M b
variable {R:RI ->fG}
theorem E3.blk (h:E3 M R) {r:RI} {c:Nat} (a:(R r).h=some (o,c)):M o=some (.row (R r).t (R r).k c (R r).xs):=by
 have:=h.1 r;rw [a] at this;exact this.2
theorem Iv {h:Hd} (f:M o=some L) (a:∀c,h≠some (o,c)):BZ M h o=some L:=by
 match h,a with
 | none,_=>exact f
 | some (g,c),a=>
  show E2 M g o=_;rw [Gd (λe=>a c (by rw [e]))];exact f
theorem gp {a:Nat} {v:A7} (i:BZ M I o=none) (g:M a=some L) (f:∀c,I≠some (a,c)):BJ (BZ M I) o v a=some L:=by grind [Iv,Ft]
theorem E3.upd {R':RI ->fG} (h:E3 M R) (a:RI) (x:∀r,r≠a ->R' r=R r) {b cap:Nat} (w:BZ M (R a).h b=none) (z:(R' a).h=some (b,cap)) (v:(R' a).xs.length<=cap):E3 (BJ (BZ M (R a).h) b (.row (R' a).t (R' a).k cap (R' a).xs)) R':=by
 have l:∀r,r≠a ->∀i c,(R r).h=some (i,c) ->i≠b:=λr u i c j e=>by
  have f:=h.blk j;have y:=Iv (h:=(R a).h) f λo g=>u (h.2 r a i c o j g)
  grind
 refine ⟨λr=>?_,λr s B c o f y=>?_⟩
 .by_cases e:r=a
  .subst e;rw [z];exact ⟨v,EB _ _ _⟩
  .rw [x r e];have f:=h.1 r
   cases hh:(R r).h with
   | none=>rw [hh] at f;exact f
   | some p=>
    obtain ⟨i,c⟩:=p;rw [hh] at f;exact ⟨f.1,gp w f.2 λo g=>e (h.2 r a i c o hh g)⟩
 .by_cases e:r=a<;>by_cases A:s=a
  all_goals (grind [E3])
theorem E3.cells (h:E3 M R) {a:List D} (c:M o=some (.cells E C)):E3 (BJ M o (.cells B a)) R:=
 ⟨λr=>Um c (h.1 r),h.2⟩
structure Bx (wb mv:Nat) (nb pb:Nat ->Nat) (N:fC) (M:MF):Prop where
 n:∀(i:Nat) x,N.nd[i]? =some x ->M (nb i)=some (UV x)
 p:∀(j:Nat) y,N.po[j]? =some y ->M (pb j)=some (UU y)
 rs:E3 M (CO nb pb N)
 w:M wb=some (.cells 180 [fE N.nh N.nd.length,fE N.mh N.po.length,Kg (.map (some mv))])
 ni:∀i j:Nat,i<N.nd.length ->j<N.nd.length ->nb i=nb j ->i=j
 pi:∀i j:Nat,i<N.po.length ->j<N.po.length ->pb i=pb j ->i=j
 e:∀x∈N.nd,(∀e∈x.ef,e.1<N.po.length)/\∀e∈x.pl,e.1<N.po.length
 q:∀y∈N.po,∀i∈y.q,i<N.nd.length
theorem Gp {d:c} (h:f[s]? =some z):f.getD s d=z:=by rw [Ψ,h];rfl
variable {N:fC}
theorem Bx.nn (a:Bx j k h g N M) (i:Nat) (x:Nd) (b:N.nd[i]? =some x):M (h i)=some (UV x)/\BD M x.eh 188 2 (x.ef.map (dC g))/\BD M x.ph 254 2 (x.pl.map (jJ g)):=by
 have f:BD M (N.nd.getD i Bo).eh 188 2 ((N.nd.getD i Bo).ef.map (dC g)):=a.rs.1 (.e i);have c:BD M (N.nd.getD i Bo).ph 254 2 ((N.nd.getD i Bo).pl.map (jJ g)):=a.rs.1 (.p i);rw [Gp b] at f c;exact ⟨a.n i x b,f,c⟩
theorem Bx.pp (b:Bx j k h g N M) (a:Nat) (y:Po) (c:N.po[a]? =some y):M (g a)=some (UU y)/\BD M y.qh 176 1 (y.q.map λi=>BH (h i)):=by
 have f:BD M (N.po.getD a CI).qh 176 1 ((N.po.getD a CI).q.map λi=>BH (h i)):=b.rs.1 (.q a);rw [Gp c] at f;exact ⟨b.p a y c,f⟩
theorem EN (a:s<f.length) (k:Nat) (d:c):(f.set s z).getD k d=if k=s then z else f.getD k d:=by grind
theorem Pk (a:f[s]? =some z) (k:Nat) (d:c):f.getD k d=if k=s then z else f.getD k d:=by grind
variable {A:Po}
theorem Bx.setPo (c:Bx j k h g N M) {y':Po} (s:N.po[y]? =some A) (E:y'.q=A.q) (C:y'.qh=A.qh):Bx j k h g {N with po:=N.po.set y y'} (BJ M (g y) (UU y')):=by
 have H:=c.p y A s;have v:=(φ.1 s).1
 have I:CO h g {N with po:=N.po.set y y'}=CO h g N:=funext λr=>by
  cases r with
  | e i=>rfl
  | p i=>rfl
  | n=>rfl
  | m=>show (⟨_,_,_,(List.range (N.po.set y y').length).map _⟩:fG)=_;rw [fq];rfl
  | q a=>
   show (⟨((N.po.set y y').getD a CI).qh,_,_,((N.po.set y y').getD a CI).q.map _⟩:fG)=⟨(N.po.getD a CI).qh,_,_,(N.po.getD a CI).q.map _⟩
   grind
 have o:∀(b:Nat) (t:TypeId) (B:List D),t≠190 ->M b=some (.cells t B) ->BJ M (g y) (UU y') b=some (.cells t B):=λb t B K L=>by
  grind [Ft]
 refine ⟨λi x u=>o _ _ _ (by decide) (c.n i x u),λi z l=>?_,by rw [I];exact c.rs.cells H,?_,c.ni,λi a G F=>c.pi i a (by simpa using G) (by simpa using F),λx u=>?_,λz l=>?_⟩
 .have w:i<N.po.length:=by have:=(φ.1 l).1;rw [fq] at this;exact this
  have f:(N.po.set y y')[i]? =some z:=l
  clear l
  rw [jB] at f
  split at f
  .grind [EB]
  .rename_i e
   rw [Ft]
   .exact c.p i z f
   .intro J;exact e (c.pi i y w v J).symm
 .show BJ M (g y) (UU y') j=some (.cells _ [fE N.nh N.nd.length,fE N.mh (N.po.set y y').length,_]);rw [fq];exact o _ _ _ (by decide) c.w
 .have:=c.e x u
  simpa using this
 .rcases iw l with l | rfl
  .exact c.q z l
  .rw [E];exact c.q A (ϑ s)
theorem Bx.setNd (f:Bx j k h g N M) {x x':Nd} (w:N.nd[s]? =some x) (J:x'.ef=x.ef) (Q:x'.eh=x.eh) (I:x'.pl=x.pl) (P:x'.ph=x.ph):Bx j k h g {N with nd:=N.nd.set s x'} (BJ M (h s) (UV x')):=by
 have G:=f.n s x w;have B:=(φ.1 w).1
 have H:CO h g {N with nd:=N.nd.set s x'}=CO h g N:=funext λr=>by
  cases r with
  | q c=>rfl
  | m=>rfl
  | n=>show (⟨_,_,_,(List.range (N.nd.set s x').length).map _⟩:fG)=_;rw [fq];rfl
  | e a=>
   show (⟨((N.nd.set s x').getD a Bo).eh,_,_,((N.nd.set s x').getD a Bo).ef.map _⟩:fG)=⟨(N.nd.getD a Bo).eh,_,_,(N.nd.getD a Bo).ef.map _⟩
   grind
  | p a=>
   show (⟨((N.nd.set s x').getD a Bo).ph,_,_,((N.nd.set s x').getD a Bo).pl.map _⟩:fG)=⟨(N.nd.getD a Bo).ph,_,_,(N.nd.getD a Bo).pl.map _⟩
   grind
 have u:∀(b:Nat) (t:TypeId) (C:List D),t≠184 ->M b=some (.cells t C) ->BJ M (h s) (UV x') b=some (.cells t C):=λb t C L O=>by
  grind [Ft]
 refine ⟨λc z o=>?_,λc y v=>u _ _ _ (by decide) (f.p c y v),by rw [H];exact f.rs.cells G,?_,λc a F E=>f.ni c a (by simpa using F) (by simpa using E),f.pi,λz o=>?_,λy v=>?_⟩
 .have A:c<N.nd.length:=by have:=(φ.1 o).1;rw [fq] at this;exact this
  have l:(N.nd.set s x')[c]? =some z:=o
  clear o
  rw [jB] at l
  split at l
  .grind [EB]
  .rename_i e
   rw [Ft]
   .exact f.n c z l
   .intro K;exact e (f.ni c s A B K).symm
 .show BJ M (h s) (UV x') j=some (.cells _ [fE N.nh (N.nd.set s x').length,fE N.mh N.po.length,_]);rw [fq];exact u _ _ _ (by decide) f.w
 .rcases iw o with o | rfl
  .exact f.e z o
  .rw [J,I];exact f.e x (ϑ w)
 .have:=f.q y v
  simpa using this
abbrev HN (M:MF):Hp:=[(40,[.multi M])]
def qT (y:Po) (c:Int):Int:=max y.room 0+c
def Q2 (y:Po) (c:Int):Bool:=decide (c<0/\qT y c<0)
theorem lz (a:Bx j k h g N M) (b:N.po[y]? =some A) (c:Int) (s: -1000000000000000000<=A.room/\A.room<=1000000000000000000) (t: -2000000000000000000<=c/\c<=2000000000000000000):
  AJ prog 198 [.d (pD (g y) 0),.d (AF c)] (HN M) λr o=>r= .d (AF (qT A c))/\o=HN M:=by
 have i:=a.p y A b;have l:(if 0>A.room then 0 else A.room)=max A.room 0:=by rw [Int.max_def];split<;>split<;>omega
 refine As func198 Z Z ntmps198 Z Z Z λF u=>(AC (AE (AB Z Z (AD (AC (AE (dd Z Z ?_)))))));refine J (DN Z Z) (J (CM Z Qu Z Z Z) (J (D4 (f:=40) Z Z (i) Z Km Z) (J (QQ Z Z (l) Z) (dd Z Z (J (Ar Z Z (Ω _ (by omega)) Z) (AB Z Z (AD (A4 ?_))))))));exact ⟨_,[40],_,A3 Z,Z,Z,Z,Z⟩
theorem L3 (a:Bx j k h g N M) (b:N.po[y]? =some A) (c:Int) (f: -1000000000000000000<=A.room/\A.room<=1000000000000000000) (i: -2000000000000000000<=c/\c<=2000000000000000000):
  AJ prog 150 [.d (pD (g y) 0),.d (AF c)] (HN M) λr s=>r= .d (Aa (Q2 A c))/\s=HN M:=by
 have l:=lz a b c f i;refine As func150 Z Z ntmps150 Z Z Z λF t=>(AC ?_);refine AE (AB Z Z (AD (AC (AE (dd Z Z (J (BN Z Z Z) (dd Z Z (Ij 7 Z (λo=>?_) (λo=>?_)))))))));refine Ad Z Z Z (dd Z Z (Ad Z Z Z (dd Z Z (Ad Z Z Z (V (EX l Z [40] ⟨Z,trivial⟩ Z Z Z Z Z Z Z Z Z) (Ad Z Z Z (J (BN Z Z Z) (J (Ff Z Z Z Z) ?_))))))))
 rotate_left
 refine A9 Z Z Z Z (A9 Z Z Z Z (A9 Z Z Z Z (A9 Z Z Z Z (J (EA Z Z Z Z) ?_))))
 all_goals
  refine AB Z Z (AD (A4 ?_));exact ⟨_,[40],_,A3 Z,Z,Z,PR (by unfold Q2;first | exact (fb (by omega)).symm | exact decide_eq_decide.2 ⟨λa=>⟨by omega,a⟩,λa=>a.2⟩),Z⟩
section
variable {P:Program} {F:Fr} {s:AS} {d:Nat} {x y:Operand} {T E:TypeId} {ty:TypeId} {pos:String} {aft:Array Edge} {g:Option (Nat×Bool)} {k:IntKind} {i:Int}
variable {h:Hd} {a:Nat}
theorem Vk {h:Hd} {n:Nat} (j:h=none ->n=0) (f:s.ev x=some (.d (fE h n))) (o:P.underlying T=some (.slice E)) (l:Nat.blt d s.n=true):
  AA P F ⟨some d,.call {callee:= .builtin .len,args:= #[x],argTypes:= #[T]},ty,pos,aft,g⟩ s d (.d (AF (n:Int))):=by
 match h,j,f with
 | none,j,f=>
  have e:=j rfl;subst e;exact WI (a:=none) (n:=0) (cap:=0) f o l
 | some (b,c),_,f=>exact WI (a:=some ⟨b,0,none⟩) (n:=n) (cap:=c) f o l
theorem Vi {b c f:Nat} (t:h=some (b,c)) (m:Nat) (l:s.ev x=some (.d (fE h a))) (j:s.ev y=some (.d (.raw (.int k i)))) (r:i=(m:Int)) (o:m<a) (v:P.underlying T=some (.slice E)) (w:AW P E f=true) (u:Nat.blt d s.n=true):
  AA P F ⟨some d,.indexAddr T x y,ty,pos,aft,g⟩ s d (.d (pD b (m*f))):=by
 subst t;exact Xn m l j r o v w u
end
variable {a:Type} {c:List a} {f:List Po} {M:MF} {k:Nat} {t:TypeId} {h:Hd} {g:a ->D} {i j:Nat ->Nat} {o:Nat} {N:fC} {y:Po} {s u:Nat}
theorem UP (b:BD M h t k (c.map g)):h=none ->c.length=0:=λe=>by
 subst e;have:c.map g=[]:=b
 simpa using this
theorem UX (o:BD M h t k (c.map g)) {j:Nat} (r:j<c.length):∃b i,h=some (b,i):=by
 cases h with
 | none=>have:=UP o rfl;omega
 | some p=>exact ⟨p.1,p.2,Z⟩
theorem R7 {a:List D} (f:BD M h t k a) {b c:Nat} (g:h=some (b,c)):M b=some (.row t k c a):=by
 subst g;exact f.2
def Lo (po:List Po) (e:Nat×Int):List Po:=match po[e.1]? with
 | some y=>po.set e.1 {y with sum:=y.sum - e.2}
 | none=>po
def Oe (po:List Po) (e:Nat×Nat):List Po:=match po[e.1]? with
 | some y=>po.set e.1 {y with mi:=min y.mi e.2}
 | none=>po
theorem jf {e:Nat×Int} (h:f[e.1]? =some y):Lo f e=f.set e.1 {y with sum:=y.sum - e.2}:=by unfold Lo;rw [h]
theorem We {e:Nat×Nat} {y:Po} (h:f[e.1]? =some y):Oe f e=f.set e.1 {y with mi:=min y.mi e.2}:=by unfold Oe;rw [h]
def EJ (x:Nd):Nd:={x with on:=false}
def r7 (N:fC) (i:Nat) (x:Nd):fC:={N with nd:=N.nd.set i (EJ x),po:=x.pl.foldl Oe (x.ef.foldl Lo N.po)}
theorem LC {g:Type} {f:g ->a ->g} (h:k<c.length) (b:g):(c.take (k+1)).foldl f b=f ((c.take k).foldl f b) c[k]:=by
 rw [χ h,List.foldl_append];rfl
def Rt (po:List Po) (b:Int):Prop:=∀y∈po,-b<=y.sum/\y.sum<=b
theorem Zu {b c:Int} (h:Rt f b) (i:b<=c) {j:Nat} (g: -c<=y.sum/\y.sum<=c):Rt (f.set j y) c:=λz a=>by
 rcases iw a with a | rfl
 .have:=h z a;omega
 .exact g
theorem aq (h:Bx s u j i N M) {x:Nd} (E:N.nd[o]? =some x) (hB:Rt N.po 1000000000000000000) (he:∀e∈x.ef,-100000000000000000<=e.2/\e.2<=100000000000000000) (hel:x.ef.length<=60) (hpl:x.pl.length<=1000) (hpb:∀e∈x.pl,e.2<=1000000) (hmb:∀y∈N.po,y.mi<=1000000):
  AJ prog 140 [.d (pD (j o) 0)] (HN M) λr H'=>r= .tup []/\∃M',H'=HN M'/\Bx s u j i (r7 N o x) M':=by
 have hxb:=(h.nn o x E).1;have hil:=(φ.1 E).1;have h1:=h.setNd (x':=EJ x) E Z Z Z Z;have G:(N.nd.set o (EJ x))[o]? =some (EJ x):=by rw [List.getElem?_set_self hil]
 have hez:=UP (h.nn o x E).2.1;have hpz:=UP (h.nn o x E).2.2;have S:=h.e x (ϑ E);refine As func140 Z Z ntmps140 Z Z Z λF hF=>(AC ?_);refine AE (dd Z Z (J (DN Z Z) (J (CM Z Ec Z Z Z) (V (Or (f:=40) Z Z Z Z (hxb) ((by show _<9;omega)) Z rJ) (AD (AC (AC (AE ?_))))))));refine dd Z Z (J (DN Z Z) (J (CM Z KA Z Z Z) (J (D4 (f:=40) Z Z ((EB _ _ _)) Z WZ Z) (J (Vk hez Z underlying181 Z) (dd Z Z (AD (A0 (BX (α:=Nat×List Po×MF) (λq=>⟨51,[(0,.d (pD (j o) 0)),(12,(.d (fE x.eh x.ef.length))),(13,(.d (AF (x.ef.length:Int)))),(14,(.d (AF (q.1:Int))))],HN q.2.2⟩) (λq=>q.1<=x.ef.length/\q.2.1=(x.ef.take q.1).foldl Lo N.po/\Bx s u j i {N with nd:=N.nd.set o (EJ x),po:=q.2.1} q.2.2/\Rt q.2.1 (1000000000000000000+100000000000000000*(q.1:Int))/\(∀y∈q.2.1,y.mi<=1000000)/\q.2.1.length=N.po.length) (λq=>x.ef.length - q.1) ((0,N.po,BJ M (j o) (UV (EJ x)))) (⟨υ _,Z,h1,by show Rt N.po (1000000000000000000+100000000000000000*((0:Nat):Int));simpa using hB,hmb,Z⟩) (AY hF [40] Z Z ⟨Z,Z,Z,Z,trivial⟩) ?_))))))));rintro ⟨k,po,M1⟩ ⟨hk0,I,O,hS,C,c⟩;dsimp only at hk0 I O hS C c⊢;refine AC (AE (J (BN Z Z Z) (AD (AC (Ac Z (λL=>?_) (λL=>?_))))))
 .have l:k<x.ef.length:=Ba L;refine AZ (AC (A0 (AC ?_)));obtain ⟨eb,ec,hee⟩:=UX (h.nn o x E).2.1 l;have U:=R7 (O.nn o (EJ x) G).2.1 hee;have hjl:x.ef[k].1<po.length:=by rw [c];exact S.1 _ (ξ l)
  obtain ⟨y,R⟩:∃y,po[x.ef[k].1]? =some y:=⟨_,ω hjl⟩
  have Q:=O.p _ y R;have hys:=hS y (ϑ R);have heb:=he _ (ξ l);refine AE ?_;refine J (Vi hee (k) Z Z Z l underlying181 Rs Z) (J (Dc (f:=40) (e:=k) Z (Z) Z (U) (Ab l) Z aY Z) (V (Bn 1 Z0 Z Z Z Z) (V (B1 Z Z Z Z Z Z Z Rs) (AD (DB [[],[0],[0,1],[0,1,2],[0,1,2,3],[],[5],rg 7,rg 8,rg 9,rg 10] mixed Z (DP (AQ [3] Z (AU Z Qw Z Z Z) (CK [18] [1] Z Z (λ_=>A5 (A2 Z Z Z E1 Z)) ?_))))))));refine AQ [19] Z (DN Z Z) (AQ [20] Z (CM Z Jy Z Z Z) (CK [21] [40] Z Z (λ_=>A5 (D4 (f:=40) Z Z (Q) Z Km Z)) (AQ [3] Z (AU Z Qv Z Z Z) (CK [23] [1] Z Z (λ_=>A5 (A2 Z Z Z Km Z)) (Cg 7 Z Z Z (Ag 8 Z Z (J (RY Z Z (Ω _ (by omega)) Z) (AD ⟨Z,?_⟩))))))));refine Ag 9 Z Z (J (DN Z Z) (AD ⟨Z,?_⟩));refine Ag 10 Z Z (J (CM Z Jy Z Z Z) (AD ⟨Z,?_⟩));refine Ag 11 Z Z (V (Or (f:=40) Z Z Z Z (Q) ((by show _<10;omega)) Z tS) (AD ⟨Z,?_⟩));refine Cr (AE (J (Ar Z Z (AO (k+1) (by omega)) Z) (dd Z Z (AD ?_))));exact ⟨(k+1,po.set x.ef[k].1 {y with sum:=y.sum - x.ef[k].2},BJ M1 (i x.ef[k].1) (UU {y with sum:=y.sum - x.ef[k].2})),⟨by show k+1<=_;omega,by show po.set _ _=_;rw [LC l,<-I,jf R],O.setPo R Z Z,by show Rt _ (1000000000000000000+100000000000000000*((k+1:Nat):Int));exact Zu hS (by omega) (by show _<=y.sum - x.ef[k].2/\y.sum - x.ef[k].2<=_;omega),λz D=>by rcases iw D with D | rfl;exact C z D;exact C y (ϑ R),by show (po.set _ _).length=_;rw [fq];exact c⟩,by show x.ef.length - (k+1)<x.ef.length - k;omega,AY hF [40] Z (Z) ⟨Z,Z,Z,Z,trivial⟩⟩
 .refine BC (AC ?_);have X:po=x.ef.foldl Lo N.po:=by rw [I,ς (by have h:=L;omega)]
  have T:=(O.nn o (EJ x) G).1;refine AE ?_;refine dd Z Z (J (DN Z Z) (J (CM Z Jz Z Z Z) (J (D4 (f:=40) Z Z (T) Z WY Z) (J (Vk hpz Z underlying182 Z) (dd Z Z (AD (A0 (BX (α:=Nat×List Po×MF) (λq=>⟨51,[(32,(.d (fE x.ph x.pl.length))),(33,(.d (AF (x.pl.length:Int)))),(34,(.d (AF (q.1:Int))))],HN q.2.2⟩) (λq=>q.1<=x.pl.length/\q.2.1=(x.pl.take q.1).foldl Oe (x.ef.foldl Lo N.po)/\Bx s u j i {N with nd:=N.nd.set o (EJ x),po:=q.2.1} q.2.2/\(∀y∈q.2.1,y.mi<=1000000)/\q.2.1.length=N.po.length) (λq=>x.pl.length - q.1) ((0,po,M1)) (⟨υ _,X,O,C,c⟩) (AY hF [40] Z Z ⟨Z,Z,Z,trivial⟩) ?_))))))));rintro ⟨a,g,M2⟩ ⟨hj0,t,B,v,b⟩;dsimp only at hj0 t B v b⊢;refine AC (AE (J (BN Z Z Z) (AD (AC (Ac Z (λK=>?_) (λK=>?_))))))
  .have A:a<x.pl.length:=Ba K;refine AZ (AC (A0 (AC ?_)));obtain ⟨pbk,pcc,Y⟩:=UX (h.nn o x E).2.2 A;have H:=R7 (B.nn o (EJ x) G).2.2 Y;have hjl2:x.pl[a].1<g.length:=by rw [b];exact S.2 _ (ξ A)
   obtain ⟨z,D⟩:∃z,g[x.pl[a].1]? =some z:=⟨_,ω hjl2⟩
   have P:=B.p _ z D;have hzm:=v z (ϑ D);have hmin:(if ((x.pl[a].2:Nat):Int)<((z.mi:Nat):Int) then ((x.pl[a].2:Nat):Int) else ((z.mi:Nat):Int))=((min z.mi x.pl[a].2:Nat):Int):=by split<;>omega
   refine AE (J (Vi Y (a) Z Z Z A underlying182 PA Z) (J (Dc (f:=40) (e:=a) Z (Z) Z (H) (Ab A) Z aW Z) (V (Bn 2 Vn Z Z Z Z) ?_)));refine V (B1 Z Z Z Z Z Z Z PA) (AD (DB [[],[0],[],[2],[2,3],[2,3,4],[2,3,4,5],[],[7],[2,3,4,5,6,7,8],rg 10,rg 11,rg 12] mixed Z (DP (AQ [5] Z (AU Z Gv Z Z Z) (CK [38] [2] Z Z (λ_=>A5 (A2 Z Z Z E1 Z)) (AQ [5] Z (AU Z Gv Z Z Z) (CK [40] [2] Z Z (λ_=>A5 (A2 Z Z Z E1 Z)) (AQ [41] Z (DN Z Z) ?_))))))));refine AQ [42] Z (CM Z Jx Z Z Z) (CK [43] [40] Z Z (λ_=>A5 (D4 (f:=40) Z Z (P) Z Aw Z)) (AQ [5] Z (AU Z Qt Z Z Z) (CK [45] [2] Z Z (λ_=>A5 (A2 Z Z Z Aw Z)) (AQ [44,46] Z (QP Z Z (hmin) Z) (Cg 10 Z Z Z (Ag 11 Z Z (J (DN Z Z) (AD ⟨Z,?_⟩))))))));refine Ag 12 Z Z (J (CM Z Jx Z Z Z) (AD ⟨Z,?_⟩));refine Ag 13 Z Z (V (Or (f:=40) Z Z Z Z (P) ((by show _<10;omega)) Z BU) (AD ⟨Z,?_⟩));refine Cr ?_;skip;refine AE (J (Ar Z Z (AO (a+1) (by omega)) Z) (dd Z Z (AD ?_)));exact ⟨(a+1,g.set x.pl[a].1 {z with mi:=min z.mi x.pl[a].2},BJ M2 (i x.pl[a].1) (UU {z with mi:=min z.mi x.pl[a].2})),⟨by show a+1<=_;omega,by show g.set _ _=_;rw [LC A,<-t,We D],B.setPo D Z Z,λw hw=>by rcases iw hw with hw | rfl;exact v w hw;show min z.mi _<=_;omega,by show (g.set _ _).length=_;rw [fq];exact b⟩,by show x.pl.length - (a+1)<x.pl.length - a;omega,AY hF [40] Z (Z) ⟨Z,Z,Z,trivial⟩⟩
  .refine BC ?_;have W:g=x.pl.foldl Oe (x.ef.foldl Lo N.po):=by rw [t,ς (by have h:=K;omega)]
   exact ⟨_,[40],_,A3 Z,Z,Z,Z,M2,Z,by unfold r7;rw [<-W];exact B⟩
def BO (N:fC):List Int:=N.nd.map λx=>x.it.id
def Fb (nb:Nat ->Nat) (ids:List Int):List (Int×Value):=(List.range ids.length).map λi=>(ids.getD i 0,pV (nb i) 0)
theorem RO {nb:Nat ->Nat} {a:List Int} (c:a.Nodup) (b:o<a.length):A1 (Fb nb a) a[o] (.pointer none)=pV (nb o) 0:=by
 refine mQ ?_ (κ.2 ⟨o,Θ.2 b,by rw [EQ 0 b]⟩)
 have:(Fb nb a).map Prod.fst=a:=by
  unfold Fb;rw [fS];refine gu (by simp) λj g f=>?_
  grind
 grind
abbrev HW (mv:Nat) (bs:Option (List Nat×Nat)) (L:List (Int×Value)) (M:MF):Hp:=[(40,[.multi M]),(50,[.map bs (BK AF Kg L)]),(51,[.addr 50 0 (.map (some mv))])]
structure KV where
 id:Int
 re:Int
 r:AM
 by_:Int
def Ey:AM:=⟨0,UH,[],[]⟩
def lJ:KV:=⟨0,0,Ey,0⟩
abbrev cw (e:KV):D:= .agg [AF e.id,AF e.re,AF e.r.k,Aj e.r.acc.o,AF e.r.acc.k,Aj e.r.acc.a,Aj e.r.f,Aj e.r.t,AF e.by_]
abbrev sm (o:Option KV):D:= .tup [cw (o.getD lJ),Aa o.isSome]
def gD (N:fC) (e:Nat×Nat):Bool:=decide ((N.po.getD e.1 CI).mi<e.2)
def RA (N:fC) (x:Nd) (e:Nat×Nat):KV:=⟨x.it.id,1,(N.po.getD e.1 CI).r,(N.nd.getD ((N.po.getD e.1 CI).q.getD (N.po.getD e.1 CI).mi 0) Bo).it.id⟩
def fA (N:fC) (id:Int):Bool:=!(N.nd.getD ((BO N).idxOf id) Bo).on
def F5 (N:fC) (x:Nd):Option KV:=match x.pl.find? (gD N) with
 | some e=>some (RA N x e)
 | none=>match x.it.af.find? (fA N) with
  | some id=>some ⟨x.it.id,2,Ey,id⟩
  | none=>none
theorem Qn {b:Type} {p:b ->Bool}:∀{l:List b} {k:Nat} (c:k<l.length),(∀x∈l.take k,p x=false) ->p l[k]=true ->l.find? p=some l[k]
 | a::l,0,_,_,h=>by simp at h;simp [h]
 | a::l,k+1,c,f,h=>by
  have j:p a=false:=f a (by simp);have g:=Qn (l:=l) (k:=k) (by simpa using c) (λx i=>f x (by simp [i])) (by simpa using h);rw [List.find?_cons,j];simpa using g
theorem Pn {p:a ->Bool} (h:∀x∈c,p x=false):c.find? p=none:=by grind
structure ga (N:fC):Prop where
 i:(BO N).Nodup
 a:∀x∈N.nd,∀id∈x.it.af,id∈BO N
 l:∀x∈N.nd,x.ef.length<=60/\x.pl.length<=1000/\x.it.af.length<=1000
 e:∀x∈N.nd,∀e∈x.ef,-100000000000000000<=e.2/\e.2<=100000000000000000
 p:∀x∈N.nd,∀e∈x.pl,e.2<(N.po.getD e.1 CI).q.length/\e.2<=1000000
 m:∀y∈N.po,y.mi<=1000000
 rm:∀y∈N.po,-1000000000000000000<=y.room/\y.room<=1000000000000000000
 n:N.nd.length<=1000/\N.po.length<=1000
 ql:∀y∈N.po,y.q.length<=1000
set_option maxHeartbeats 1000000 in
theorem kj {wb K:Nat} {nb pb:Nat ->Nat} {N:fC} {M:MF} (bs:Option (List Nat×Nat)) (h:Bx wb K nb pb N M) (hw:ga N) {i:Nat} {x:Nd} (hx:N.nd[i]? =some x):
  AJ prog 193 [.d (pD wb 0),.d (pD (nb i) 0)] (HW K bs (Fb nb (BO N)) M) λr H'=>r= .d (sm (F5 N x))/\H'=HW K bs (Fb nb (BO N)) M:=by
 have hwb:=h.w;have o:=ϑ hx;obtain ⟨s,hre,C⟩:=h.nn i x hx;have hpz:=UP C;obtain ⟨_,hpl,hafl⟩:=hw.l x o;have hxe:=h.e x o;have hxp:=hw.p x o;have hxa:=hw.a x o;refine As func193 Z Z ntmps193 Z Z Z λF hF=>(AC (AE (V (Bn 1 Ia Z Z Z Z) (AB Z Z (AD (AC (AC (AE ?_))))))));refine dd Z Z (J (DN Z Z) (J (CM Z Jz Z Z Z) (J (D4 (f:=40) Z Z (s) Z WY Z) (J (Vk hpz Z underlying182 Z) (dd Z Z (AD (A0 (BX (α:=Nat) (λk=>⟨85,[(0,.d (pD wb 0)),(1,.d (pD (nb i) 0)),(4,(.ptr 1 0 0)),(13,(.d (fE x.ph x.pl.length))),(14,(.d (AF (x.pl.length:Int)))),(15,(.d (AF (k:Int))))],(1,[.blk 245 [.d (AF 0),.d (AF 0),.d (AF 0),.d (Aj []),.d (AF 0),.d (Aj []),.d (Aj []),.d (Aj []),.d (AF 0)]])::HW K bs (Fb nb (BO N)) M⟩) (λk=>k<=x.pl.length/\∀e∈x.pl.take k,gD N e=false) (λk=>x.pl.length - k) (0) (⟨υ _,by simp⟩) (AY hF [1,40,50,51] Z Z ⟨Z,Z,Z,Z,Z,Z,trivial⟩) ?_))))))));rintro k ⟨hk0,t⟩;refine AC (AE (J (BN Z Z Z) (AD (AC (Ac Z (λI=>?_) (λI=>?_))))))
 .have a:k<x.pl.length:=Ba I;refine AZ (AC (A0 (AC ?_)));obtain ⟨eb,ec,W⟩:=UX C a;have P:=R7 C W;have hjl:x.pl[k].1<N.po.length:=hxe.2 _ (ξ a)
  obtain ⟨y,hy⟩:∃y,N.po[x.pl[k].1]? =some y:=⟨_,ω hjl⟩
  have w:N.po.getD x.pl[k].1 CI=y:=by rw [Ψ,hy];rfl
  obtain ⟨l,O⟩:=h.pp _ y hy;have hpk:=hxp _ (ξ a);rw [w] at hpk;refine AE (J (Vi W (k) Z Z Z a underlying182 PA Z) ?_);refine J (Dc (f:=40) (e:=k) Z (Z) Z (P) (Ab a) Z aW Z) (V (Bn 2 Vn Z Z Z Z) (V (B1 Z Z Z Z Z Z Z PA) (AD (AC (DB [[],[0],[0,1],[0,1,2],[0,1,2,3],[],[5],rg 7] mixed Z (DP (AQ [7] Z (AU Z Gv Z Z Z) (CK [19] [2] Z Z (λ_=>A5 (A2 Z Z Z E1 Z)) ?_))))))));refine AQ [20] Z (DN Z Z) (AQ [21] Z (CM Z Jx Z Z Z) (CK [22] [40] Z Z (λ_=>A5 (D4 (f:=40) Z Z (l) Z Aw Z)) (AQ [7] Z (AU Z Qt Z Z Z) (CK [24] [2] Z Z (λ_=>A5 (A2 Z Z Z Aw Z)) (Cg 7 Z Z Z (Ag 8 Z Z (J (BN Z Z Z) (AD ⟨Z,?_⟩))))))));refine Cr (Ac Z (λA=>?_) (λA=>?_))
  .refine AC ?_;have b:y.mi<y.q.length:=by have h:=A;omega
   obtain ⟨qb,qc,Q⟩:=UX O b;have E:=R7 O Q;have hni:y.q[y.mi]<N.nd.length:=h.q y (ϑ hy) _ (ξ b)
   obtain ⟨z,L⟩:∃z,N.nd[y.q[y.mi]]? =some z:=⟨_,ω hni⟩
   obtain ⟨B,_,_⟩:=h.nn _ z L;have Y:F5 N x=some ⟨x.it.id,1,y.r,z.it.id⟩:=by unfold F5;rw [Qn a t (by unfold gD;rw [w];exact Υ (by have h:=A;omega))];unfold RA;dsimp only;rw [w,EQ 0 b,Ψ,L];rfl
   refine DB [[],[0],[0,1],[0,1,2],[0,1,2,3],[],[5],[5,6],[5,6,7],[5,6,7,8],[],[10],[10,11],[10,11,12],[10,11,12,13],[],[15],[15,16],[15,16,17],[15,16,17,18],[10,11,12,13,14,15,16,17,18,19],[10,11,12,13,14,15,16,17,18,19,20],[10,11,12,13,14,15,16,17,18,19,20,21],[10,11,12,13,14,15,16,17,18,19,20,21,22],[10,11,12,13,14,15,16,17,18,19,20,21,22,23],[10,11,12,13,14,15,16,17,18,19,20,21,22,23,24],rg 26,rg 27,rg 28] mixed Z (DP (Av 1 Z Z (AQ [27] Z (DN Z Z) (AQ [28] Z (CM Z F7 Z Z Z) ?_))));refine AQ [29] Z (CM Z OY Z Z Z) (CK [30] [40] Z Z (λ_=>A5 (D4 (f:=40) Z Z (s) Z Aw Z)) (AQ [7] Z (AU Z Gv Z Z Z) (CK [32] [2] Z Z (λ_=>A5 (A2 Z Z Z E1 Z)) (AQ [33] Z (DN Z Z) (AQ [34] Z (CM Z MN Z Z Z) (CK [35] [40] Z Z (λ_=>A5 (DE (f:=40) Z Z (l) CQ Z Z (by simp [D.one]) Z)) (AQ [7] Z (AU Z Gv Z Z Z) (CK [37] [2] Z Z (λ_=>A5 (A2 Z Z Z E1 Z)) ?_))))))));refine AQ [38] Z (DN Z Z) (AQ [39] Z (CM Z Gw Z Z Z) (CK [40] [40] Z Z (λ_=>A5 (D4 (f:=40) Z Z (l) Z GH Z)) (AQ [7] Z (AU Z Gv Z Z Z) (CK [42] [2] Z Z (λ_=>A5 (A2 Z Z Z E1 Z)) (AQ [43] Z (DN Z Z) (AQ [44] Z (CM Z Jx Z Z Z) (CK [45] [40] Z Z (λ_=>A5 (D4 (f:=40) Z Z (l) Z Aw Z)) (AQ [41,46] Z (Vi Q (y.mi) Z Z Z b R3 LU Z) ?_))))))));refine CK [47] [40] Z Z (λ_=>A5 (mJ (f:=40) (e:=y.mi) (off:=0) Z (by omega) Z (E) (Ab b) Z NG Z)) (AQ [48] Z (DN Z Z) (AQ [49] Z (CM Z F7 Z Z Z) (AQ [50] Z (CM Z OY Z Z Z) (CK [51] [40] Z Z (λ_=>A5 (D4 (f:=40) Z Z (B) Z Aw Z)) (Cg 26 Z Z Z (Ag 27 Z Z (J (Fe Ia SV Z Z Z) (AD ⟨Z,?_⟩))))))));refine Ag 28 Z Z (V (B1 Z Z Z Z Z Z Z JP) (AD ⟨Z,?_⟩));refine Ag 29 Z Z (AB Z Z (AD ⟨Z,?_⟩));refine Cr (A4 ?_);exact ⟨_,[40,50,51],_,A3 Z,Z,Z,by rw [Y];rfl,Z⟩
  .refine AZ (AE (J (Ar Z Z (AO (k+1) (by omega)) Z) (dd Z Z (AD ?_))));exact ⟨k+1,⟨by show k+1<=_;omega,by rw [χ a];intro e g;rcases ν.1 g with g | g;exact t e g;rw [ζ.1 g];unfold gD;rw [w];exact fb (by have h:=A;omega)⟩,by show x.pl.length - (k+1)<x.pl.length - k;omega,AY hF [1,40,50,51] Z (Z) ⟨Z,Z,Z,Z,Z,Z,trivial⟩⟩
 .refine BC (AC (AC ?_));have R:x.pl.find? (gD N)=none:=Pn (by have e:k=x.pl.length:=(by have h:=I;omega);rw [e,fw] at t;exact t);refine AE (dd Z Z ?_);refine J (DN Z Z) (J (CM Z F7 Z Z Z) (J (CM Z Do Z Z Z) (J (D4 (f:=40) Z Z (s) Z BG Z) (J (CB Z E0 Z) (dd Z Z (AD (A0 (BX (α:=Nat) (λj=>⟨85,[(0,.d (pD wb 0)),(1,.d (pD (nb i) 0)),(4,(.ptr 1 0 0)),(59,(.d (.sl none (x.it.af.map AF)))),(60,(.d (AF (x.it.af.length:Int)))),(61,(.d (AF (j:Int))))],(1,[.blk 245 [.d (AF 0),.d (AF 0),.d (AF 0),.d (Aj []),.d (AF 0),.d (Aj []),.d (Aj []),.d (Aj []),.d (AF 0)]])::HW K bs (Fb nb (BO N)) M⟩) (λj=>j<=x.it.af.length/\∀id∈x.it.af.take j,fA N id=false) (λj=>x.it.af.length - j) (0) (⟨υ _,by simp⟩) (AY hF [1,40,50,51] Z Z ⟨Z,Z,Z,Z,Z,Z,trivial⟩) ?_))))))));rintro j ⟨hj0,u⟩;refine AC (AE (J (BN Z Z Z) (AD (AC (Ac Z (λH=>?_) (λH=>?_))))))
  .have v:j<x.it.af.length:=Ba H;refine AZ (AC (A0 (AC ?_)));have T:=hxa _ (ξ v);have c:=jG T;have S:(BO N).idxOf x.it.af[j]<N.nd.length:=by unfold BO at c⊢;rw [ψ] at c;exact c
   obtain ⟨z,L⟩:∃z,N.nd[(BO N).idxOf x.it.af[j]]? =some z:=⟨_,ω S⟩
   have U:N.nd.getD ((BO N).idxOf x.it.af[j]) Bo=z:=by rw [Ψ,L];rfl
   obtain ⟨B,_,_⟩:=h.nn _ z L;have X:=RO (nb:=nb) hw.i c;rw [List.getElem_idxOf c] at X;refine AE (J (Bh (j) Z Z (Z) (Ab v) E0 Z BU Z) ?_);refine J (D2 Z Z Aw Z) (AB Z Z (AD (AC (AE (dd Z Z (J (DN Z Z) (J (CM Z MO Z Z Z) (J (D4 (f:=40) Z Z (hwb) Z W0 Z) ?_))))))));refine DY 68 51 0 Z Z (dd Z Z (J (HY (Fb nb (BO N)) x.it.af[j] (.pointer none) (pV (nb ((BO N).idxOf x.it.af[j])) 0) Z Z Z Wc HS Vo X Z) (J (DN Z Z) (J (CM Z Ec Z Z Z) (J (D4 (f:=40) Z Z (B) Z oV Z) (J (OZ Z Z) (AD (JJ Z (λG=>?_) (λG=>?_)))))))))
   .refine AC (AE (dd Z Z (J (DN Z Z) (J (CM Z F7 Z Z Z) ?_))));refine J (CM Z OY Z Z Z) (J (D4 (f:=40) Z Z (s) Z Aw Z) (J (Fe JM SU Z Z Z) (dd Z Z (J (Fe Ia SV Z Z Z) (V (B1 Z Z Z Z Z Z Z JP) (AB Z Z (AD (A4 ?_))))))));exact ⟨_,[40,50,51],_,A3 Z,Z,Z,by unfold F5;rw [R];dsimp only;rw [Qn v u (by unfold fA;rw [U];simpa using G)];rfl,Z⟩
   .refine AZ (AE (J (Ar Z Z (AO (j+1) (by omega)) Z) (dd Z Z (AD ?_))));exact ⟨j+1,⟨by show j+1<=_;omega,by rw [χ v];intro e g;rcases ν.1 g with g | g;exact u e g;rw [ζ.1 g];unfold fA;rw [U];simpa using G⟩,by show x.it.af.length - (j+1)<x.it.af.length - j;omega,AY hF [1,40,50,51] Z (Z) ⟨Z,Z,Z,Z,Z,Z,trivial⟩⟩
  .refine BC (AC (AE (J (Fe Ia SV Z Z Z) (V (B1 Z Z Z Z Z Z Z JP) (AB Z Z (AD (A4 ?_)))))));exact ⟨_,[40,50,51],_,A3 Z,Z,Z,by unfold F5;rw [R];dsimp only;rw [Pn (by have e:j=x.it.af.length:=(by have h:=H;omega);rw [e,fw] at u;exact u)];rfl,Z⟩
abbrev cu:FuncId:=230
theorem lu (h:Hd) (n:Nat):AJ prog 194 [.d (fE h n)] [] λr f=>r= .fn cu [.d (.ptr (fE h n))]/\f=[]:=by
 refine As func194 Z Z ntmps194 Z Z Z λF b=>(AC (AE (V (Bz 1 Z Z Z Z Z Z Z) ?_)));refine AB Z Z (AD (AC (AE (P5 1 1 (fE h n) [] b Z Z Z (by intro c a;simp [D.cells] at a;subst a;rfl) Z Z Z (J (qX Z Z) (AB Z Z (AD (A4 ?_))))))));exact ⟨_,[],[],A3 Z,Z,Z,Z,Z⟩
def Kc (q:List Nat):Nat ->List (Nat×Nat)
 | 0=> []
 | c+1=>(c,q.getD c 0)::Kc q c
def dB (nb:Nat ->Nat) (e:Nat×Nat):List AV:=[.d (AF (e.1:Int)),.d (BH (nb e.2))]
section
variable {β:Type}
theorem lv (y:Nat ->Nat) (q:List Nat) (T:q.length<=100000) {M:MF} {h:Hd} (j:BD M h 176 1 (q.map λi=>BH (y i))) (l:Nat) (H:β ->Hp) (N:List Nat) (step:β ->Nat×Nat ->β×Bool) (g:β) (K:∀a,gW (H a)=N) (Q:∀a,FJ N (H a)=true) (I:∀a,BQ (H a) N=some (H a)) (P:∀a,eQ (H a) 40=some [.multi M])
  (A:Lk prog l (dB y) H step g (Kc q q.length)):
  AJ prog cu [.d (.raw (Cs l)),.d (.ptr (fE h q.length))] (H g) λr G=>r= .tup []/\G=H (HT step g (Kc q q.length)):=by
 have O:=UP j;have x:∀a,AP N (H a)=true:=λa=>by have h:=EK (H a);rw [K] at h;exact h
 have L:∀a,CE N (H a)=some []:=λa=>by have h:=PS (H a);rw [K] at h;exact h
 refine As func230 Z Z ntmps230 Z Z Z λF U=>?_;refine AC (AE (J (D2 Z Z GH Z) (J (Vk O Z R3 Z) (J (RY Z Z (Ω _ (by omega)) Z) (AB Z Z (AD (A0 (HD (α:=Nat×β) (λp=>⟨19,[(0,.d (.raw (Cs l))),(1,.d (.ptr (fE h q.length))),(3,(.d (AF ((p.1:Int) - 1))))],H p.2⟩) (λp=>p.1<=q.length/\Lk prog l (dB y) H step p.2 (Kc q p.1)/\HT step p.2 (Kc q p.1)=HT step g (Kc q q.length)) (λp=>p.1) ((q.length,g)) (⟨ϖ _,A,Z⟩) (eF ⟨Z,Z,Z,trivial⟩) ?_))))))));rintro ⟨c,a⟩ ⟨B,u,b⟩;dsimp only at B u b⊢;refine AC (AC (AE (dd Z Z (J (ES Z Z Z) (AD (Ac Z (λC=>?_) (λC=>?_)))))))
 .obtain ⟨k,rfl⟩:∃k,c=k+1:=⟨c - 1,by have h:=C;omega⟩
  refine AZ (AC (A0 (AC ?_)));have o:k<q.length:=by omega
  obtain ⟨S,R,w⟩:=UX j o;have t:=R7 j w;have z:((k+1:Nat):Int) - 1=(k:Int):=by omega
  rw [z];refine AE (dd Z Z (dd Z Z (J (D2 Z Z GH Z) (dd Z Z (J (Vi w (k) Z Z Z o R3 LU Z) (J (mJ (f:=40) (e:=k) (off:=0) Z (by omega) (P a) t (Ab o) Z NG Z) ?_))))));rw [<-EQ 0 o];refine S7 Z Z u.1 N (Ek λ_ _=>rfl) (x a) (L a) Z Z (λr G ⟨E,D⟩=>by subst E D;exact ⟨x _,Q _,Z⟩) Z λr G ⟨E,D⟩=>?_;subst E D;rw [gN];refine J (OZ Z Z) (AD (JJ Z (λv=>?_) (λv=>?_)))
  .have s:(step a (k,q.getD k 0)).2=false:=by simpa using v
   refine A4 ?_;exact ⟨_,N,_,A3 Z,I _,x _,Z,by rw [<-b];show H _=H (HT step a ((k,q.getD k 0)::Kc q k));rw [Dq,θ (by rw [s];decide)]⟩
  .have s:(step a (k,q.getD k 0)).2=true:=by simpa using v
   refine AZ (AE (dd Z Z (J (RY Z Z (Ω _ (by omega)) Z) (AB Z Z (AD ?_)))));exact ⟨(k,(step a (k,q.getD k 0)).1),⟨by show k<=_;omega,u.2 s,by show HT step (step a (k,q.getD k 0)).1 (Kc q k)=_;rw [<-b];show _=HT step a ((k,q.getD k 0)::Kc q k);rw [Dq,ϱ s]⟩,by show k<k+1;omega,⟨Z,Z,λ_ _=>R8.get (l:=[(0,_),(1,_),(3,_)]) ⟨Z,Z,Z,trivial⟩⟩⟩
 .refine BC ?_;exact ⟨_,N,_,A3 Z,I _,x _,Z,by rw [<-b];have e:c=0:=(by have h:=C;omega);rw [e];rfl⟩
end
end Go.Proofs.YteifpcnphnhaoaaGreat
