import Derived.Test.YteifpcnphnhaoaaGreatMg20
open Go.Proofs.Tryz
namespace Go.Proofs.YteifpcnphnhaoaaGreat
open Go.RowKit
set_option maxRecDepth 100000
theorem hnewN {a:Hp} {f:Nat} {o:AN} (h:hfam a f=none) (b:Ty o=true:=by rfl):Cj a f o=some ((f,[o])::a):=by simp only [Cj,h,b]
theorem partN {b:Hp} {f:Nat} {x:List AN}:∀{a:List Nat},memB f a=false ->Bb ((f,x)::b) a=Bb b a
 | [],_=>rfl
 | g::r,h=>by
  have d:Nat.beq f g=false:=by
   cases hb:Nat.beq f g with
   | false=>rfl
   | true=>
    have e:=ωb hb;subst e
    simp [memB] at h
  have c:memB f r=false:=by
   cases hb:memB f r with
   | false=>rfl
   | true=>simp [memB,hb] at h
  simp only [Bb];rw [partN c];simp only [hfam,d]
theorem ZB (l:List Nat):K5 l l=true:=by
 have b:∀(l m:List Nat),(∀x∈l,x∈m) ->K5 l m=true:=λl=>by
  induction l with
  | nil=>intro m _;rfl
  | cons a r c=>intro m h;simp only [K5,ωd];exact ⟨G4.2 (h a (by simp)),c m λx d=>h x (by simp [d])⟩
 grind
theorem E2 {c a:Type} {step:a ->c ->a×Bool} {b:a} {x:c} {r:List c}:IO step b (x::r)=if (step b x).2=true then IO step (step b x).1 r else (step b x).1:=by grind [IO]
def encI (x:AJ):List AV:=[.d (Af x)]
section
variable {β:Type}
theorem seqV_c (a:List AJ) (u:a.length<=1000000) (l:Nat) (H:β ->Hp) (N:List Nat) (step:β ->AJ ->β×Bool) (b:β) (j:∀c,hpN (H c)=N) (y:∀c,Fu N (H c)=true) (q:∀c,Bb (H c) N=some (H c))
  (x:∀c,Aa 990 (H c)=some (H c)) (v:∀c,hfam (H c) 990=none) (w:memB 990 N=false)
  (o:NT prog l encI H step b a):
  AT prog 164 [.d (.raw (DU l)),.d (.ptr (.sl none (a.map Af)))] (H b) λr A=>r= .tup []/\A=H (IO step b a):=by
 refine Ax func164 Z Z ntmps164 Z Z Z λF z=>(AD (AE (J (CF Z Z Hc Z) (J (BU Z underlying37 Z) (goMv Z Z (AC (A2 (Gh (α:=Nat×β) (λp=>⟨16,[(0,.d (.raw (DU l))),(5,(.d (.sl none (a.map Af)))),(6,(.d (AF (a.length:Int)))),(7,(.d (AF (p.1:Int))))],H p.2⟩) (λp=>p.1<=a.length/\NT prog l encI H step p.2 (a.drop p.1)/\IO step p.2 (a.drop p.1)=IO step b a) (λp=>a.length - p.1) ((0,b)) (⟨ζ _,o,Z⟩) (al ⟨Z,Z,Z,Z,trivial⟩) ?_))))))));rintro ⟨k,c⟩ ⟨n,g,e⟩;dsimp only at n g e⊢;refine AD (AE (J (Az Z Z Z) (AC (AD (A7 Z (λt=>?_) (λt=>?_))))))
 .have m:k<a.length:=BR t;refine AX (AD (A2 (AD (AE ?_))));have s:a.drop k=a[k]::a.drop (k+1):=χo m;rw [s] at g;refine J (BC (k) Z Z (Z) (A3 m) underlying37 Z Cm Z) (J (Ca Z Z CO Z) (V (CA 990 FJ Z (x _) (hnewN (v _)) Z) (V (B4 Z Z Z Z Z Z Z Cm) (AC (AD ?_)))));refine AE (goMv Z Z (J (BA Z Z CO Z Z Z) (o_keep [0,5,6,7,11,12] Z (o_only N (z.trans (j b)) (ZB N) ((partN w).trans (q _)) (dC g.1 Z Z (by rw [j,j]) (by rw [j];exact y _) Z Z (J (NQ Z Z) (AC (JC Z (λi=>?_) (λi=>?_)))))))))
  .have f:(step c a[k]).2=false:=by simpa using i
   refine AZ ?_;exact ⟨_,N,_,AY Z,q _,by rw [<-j b];exact Em _,Z,by rw [<-e,s,E2,η (by rw [f];decide)]⟩
  .have f:(step c a[k]).2=true:=by simpa using i
   refine AX (AE (J (Ah Z Z (AK (k+1) (by omega)) Z) (goMv Z Z (AC ?_))));exact ⟨(k+1,(step c a[k]).1),⟨by show k+1<=_;omega,g.2 f,by rw [<-e,s,E2,ς f]⟩,by show a.length - (k+1)<a.length - k;omega,⟨Z,Z,λ_ _=>Sr.get (l:=[(0,_),(5,_),(6,_),(7,_)]) ⟨Z,Z,Z,Z,trivial⟩⟩⟩
 .refine Ar ?_;exact ⟨_,N,_,AY Z,q _,by rw [<-j b];exact Em _,Z,by rw [<-e,χp (by have h:=t;omega)];rfl⟩
end
variable {a:List AJ} {M:MF} {c:Type} {d:List c} {e f:Nat ->Nat} {g:List (AW×Int)} {h i j k:Nat} {m:AJ} {n:List Nat} {o:List AV} {p q:Nat} {T:TypeId} {x:c} {s:TypeId} {t:List D} {u:TypeId} {w:Hp} {A:AW} {F:Fr} {B:Type} {C:Ap}
theorem SR.freezeB {s:AS} {A:Nat ->Nat ->Value} {p:Act} {e:World} (h:SR F s A p e) (t f:Nat) (x:D) (G:List Nat) (hF:F.pn=n) (X:get s.env t=some (.ptr f 0 0)) (C:hfam s.hp f=some [.blk T o]) (E:o=x.cells.map .d) (P:∀c∈x.cells,c.one=true) (hf:memB f G=false) (B:K5 n G=true) (y:Bb s.hp G=some w):SR F ⟨s.n,(t,.d (.ptr x))::s.env,w⟩ A p e:=by
 have L:=h.only G hF B y;refine ⟨L.size,L.defs,λV a S=>?_,L.heap⟩;rcases Mp S with ⟨rfl,rfl⟩ | ⟨_,S⟩
 .have U:=h.env t _ X;have J:hget s.hp f 0=some (.blk T o):=by simp [hget,C,gl,isM]
  obtain ⟨b,q,M,e2,e3,e4,e5⟩:=h.heap.sim f 0 _ J;show A9 _ _ _ _ (p.tmps.getD t undef)
  generalize p.tmps.getD t undef=v at U
  cases U with
  | @ptr _ _ _ z u=>
   rw [M] at u;injection u with u;injection u with u;injection u with u;subst u
   have Z:∀z,F.O A w z ->F.O A s.hp z:=λz i=>i.imp id λ⟨m,I,O,g,N⟩=>by
    obtain ⟨H,_⟩:=ER y;refine ⟨m,I,O,?_,N⟩;simp only [hget] at g⊢
    cases hh:hfam w m with
    | none=>rw [hh] at g;cases g
    | some l=>rw [(H m l hh).2];rw [hh] at g;exact g
   have Q:¬F.O A w b:=λi=>by
    rcases i with i | ⟨m,I,O,g,N⟩
    .exact h.heap.notOf ⟨f,0,_,J,by rw [M];rfl⟩ i
    .obtain ⟨H,_⟩:=ER y;simp only [hget] at g
     cases hh:hfam w m with
     | none=>rw [hh] at g;cases g
     | some l=>
      have W:hget s.hp m I=some O:=by simp only [hget];rw [(H m l hh).2];rw [hh] at g;exact g
      obtain ⟨e1',_⟩:=h.heap.inj m I f 0 _ _ b W J N (by rw [M];rfl);have:=G4.2 (H m l hh).1
      grind
   have r:q.length=x.cells.length:=by rw [e3,E,χ]
   refine .d (.ptr (λj=>q.getD j undef) (h.heap.ltO (.inr ⟨f,0,_,J,by rw [M];rfl⟩)) Q P (λj c K=>?_) (λj c K=>?_))
   .have k:j<q.length:=by rw [r];exact (φ.1 K).1
    rw [ψu,cell_of_row e b j q.toArray T (0,0) e2]
    simp [k]
   .have k:j<q.length:=by rw [r];exact (φ.1 K).1
    have R:=e4 j (.d c) q[j] (by rw [E,ν,K];rfl) (ω k);have Y:q.getD j undef=q[j]:=by simp [k]
    rw [Y]
    cases R with
    | d R=>exact R.mono (Γ _) (λ_ _ _=>rfl) λz _=>Z z
 .exact L.env V a S
theorem Qo {P:Program} {Q:Exit ->AS ->Prop} {e:Array Oper} {s:List Oper} {r:Nat} {b:List (Nat×AV)} {m:Hp} (t f:Nat) (x:D) (j:List Nat) (A:F.pn=n) (v:get b t=some (.ptr f 0 0)) (i:hfam m f=some [.blk T o]) (p:o=x.cells.map .d) (k:∀c∈x.cells,c.one=true) (z:memB f j=false) (g:K5 n j=true) (l:Bb m j=some w)
  (h:Ao P F e s Q ⟨r,(t,.d (.ptr x))::b,w⟩):Ao P F e s Q ⟨r,b,m⟩:=λu q a y=>h u q a (y.freezeB t f x j A v i p k z g l)
theorem bF (a:List AJ):AT prog 121 [.d (.sl none (a.map Af))] [] λr f=>r= .fn 164 [.d (.ptr (.sl none (a.map Af)))]/\f=[]:=by
 refine Ax func121 Z Z ntmps121 Z Z Z λF e=>(AD (AE (V (Bi 1 Z Z Z Z Z Z Z) ?_)));refine AB Z Z (AC (AD (AE (Qo 1 1 (.sl none (a.map Af)) [] e Z Z Z (by intro c b;simp [D.cells] at b;subst b;rfl) Z Z Z (J (ZcN Z Z) (AB Z Z (AC (AZ ?_))))))));exact ⟨_,[],[],AY Z,Z,Z,Z,Z⟩
abbrev hV (q:List AJ):Hp:=[(920,[.rowD 55 6 (q.map Af)]),(1,[.blk 37 [.own 920 0 q.length]])]
def XV (q:List AJ) (x:AJ):List AJ×Bool:=(q++ [x],true)
theorem Ug:∀(l q:List AJ),IO XV q l=q++l
 | [],q=>by simp [IO]
 | x::l,q=>by rw [E2];show (if true=true then IO XV (q++ [x]) l else _)=_;rw [ς Z,Ug l];simp
theorem RK {P:Program} {l:Nat} {H:List AJ ->Hp} {n:Nat} (b:∀q x,q.length<n ->Gk P l (encI x) (H q) λv c=>v= .d (.raw (.bool true))/\c=H (q++ [x])):∀(a q:List AJ),q.length+a.length<=n ->NT P l encI H XV q a
 | [],_,_=>trivial
 | x::a,q,h=>⟨b q x (by simp at h;omega),λ_=>RK b a (q++ [x]) (by simp at h⊢;omega)⟩
theorem fi (a:List AJ) (b:a.length<=1000000):AT prog 210 [.d (.sl (some true) []),.fn 164 [.d (.ptr (.sl none (a.map Af)))]] [] λr f=>r= .own 920 0 a.length/\f=[(920,[.rowD 55 6 (a.map Af)])]:=by
 refine Ph func210 Z Z ntmps210 Z Z Z λF e c=>(AD (AE (V (Bi 1 Z Z Z Z Z Z Z) ?_)));refine AB Z Z (AC (AD (AD (XA 1 0 0 920 Ls Z Z Z Z Z Z Z (AE (goMv Z Z (AC (A2 ?_))))))));refine fx [2,6] Z ?_;refine Y8 (γ:=Unit) c 900 Z Z Z Z Z [1,920] (CHr:=hV []) (λ_=>True) (λ_=>hV a) (λ_=> .ready) (λ_=>none) ⟨Z,Z,trivial⟩ Z Z Z (λ_=>rfl) (λ_=>rfl) Z (λ_ _=>by simp) (λ_ _=>⟨Z,Z⟩) [920,1] e Z Z (λ_ _=>rfl) (λl A B h g=>?_) (λ_ _=>?_)
 .refine (seqV_c a b l (λq:List AJ=>(900,[.loop ⟨l,13,[(2,.ptr 1 0 0),(6,.fn 164 [.d (.ptr (.sl none (a.map Af)))])],.ready,none, #[7],A,B⟩])::hV q) [900,920,1] XV [] (λ_=>rfl) (λ_=>rfl) (λ_=>rfl) (λ_=>rfl) (λ_=>rfl) Z ?_).mono (λr f ⟨j,i⟩=>⟨j,(),trivial,by rw [i,Ug];rfl⟩);refine RK (n:=a.length) (λq x m=>?_) a [] (by simp);refine Sw (lf:=900) Z Z Z Z λF e k=>?_;show CG _ _ A _ _;rw [h];refine AE (V (CA 2 FJ Z Z Z Z) (V (B4 Z Z Z Z Z Z Z Cm) (AC (⟨Z,_,_,Z,Z,Z,Z,?_⟩))));show CG _ _ B _ _;rw [g];refine A2 (AE (J (AQ Z Z Z Hc Z) (J (BA Z Z CO Z Z Z) (V (C1 30 Ls Z Z Z Z Z Z Z Z) (V (Eu (q) ([x]) Z Z Z Z Z Z Z Z Ls (by simp only [υ];omega) Z Z Z Z) (V (B4 Z Z Z Z Z Z Z sz37) (AC ?_)))))));exact ⟨none,_,_,[900,920,1],_,Z,Z,Z,Z,Z,Z,Z,Z⟩
 .refine AD (AE (J (AQ Z Z Z Hc Z) (AB Z Z (AC (AZ ?_)))));exact ⟨_,[920],_,AY Z,Z,Z,Z,Z⟩
theorem insO_perm (l:List AJ) (x:AJ):(MY l x).Perm (x::l):=by
 induction l with
 | nil=>exact List.Perm.refl _
 | cons a l b=>
  grind [MY]
theorem U1 (h:a.Pairwise λc b=>¬ES b c<0) (x:AJ):(MY a x).Pairwise λc b=>¬ES b c<0:=by
 induction a with
 | nil=>simp [MY]
 | cons c a j=>
  rw [ψr] at h;simp only [MY]
  split
  .rename_i f
   exact ψr.2 ⟨λy g=>by have n:=f y g;have m:=Ds.anti x y;omega,ψr.2 h⟩
  .rename_i k
   refine ψr.2 ⟨λy g=>?_,j h.2⟩;rcases Υ.1 ((insO_perm a x).mem_iff.1 g) with rfl | g
   .intro d;refine k λz i=>?_;rcases Υ.1 i with rfl | i
    .exact d
    .have n:=h.1 z i;have m:=Ds.anti c z
     by_cases e:ES c z=0
     .have q:=Ds.eqv c z y e;have p:=Ds.anti c y;have o:=Ds.anti z y;omega
     .exact Ds.trans _ _ _ d (by omega)
   grind
theorem ah (l:List AJ):(BP l).Perm l:=by
 induction l using ac with
 | h0=>exact List.Perm.refl _
 | h1 l x a=>
  grind [Fg,insO_perm]
theorem Rb (l:List AJ):(BP l).Pairwise λa b=>¬ES b a<0:=by
 induction l using ac with
 | h0=>exact List.Pairwise.nil
 | h1 l x c=>rw [Fg];exact U1 c x
theorem Z8 {a b:AJ} (h:ES a b=0):a.sq=b.sq:=by
 unfold ES at h;simp only [BQ] at h
 split at h
 .split at h
  .rename_i c;exact RT.1 c
  omega
 omega
theorem QY (d:(a.map AJ.sq).Nodup) (h:a.Pairwise λc b=>¬ES b c<0):a.Pairwise λc b=>ES c b<0:=by
 rw [List.Nodup,ψc] at d;refine (h.and d).imp λ{c b} ⟨g,f⟩=>?_;have e:=Ds.anti c b
 grind [Z8]
theorem Xa {c d:List AJ} (e:(c.map AJ.sq).Nodup) (f:d.Perm c) (g:d.Pairwise λa b=>¬ES b a<0):d=BP c:=
 DV (R:=λa b=>ES a b<0) (λx=>by rw [Ds.refl];omega) (λx y z=>Ds.trans x y z) (QY ((f.map _).nodup_iff.2 e) g) (QY (((ah c).map _).nodup_iff.2 e) (Rb c)) λx=>by rw [f.mem_iff,(ah c).mem_iff]
theorem UW (x:AJ):∃a,Af x= .agg a:=⟨_,Z⟩
abbrev seqA (its:List AJ):AV:= .fn 164 [.d (.ptr (.sl none (its.map Af)))]
theorem aN (a:List AJ) (b:a.length<=1000000):AT prog 163 [seqA a] [] λr c=>r= .own 920 0 a.length/\c=[(920,[.rowD 55 6 (a.map Af)])]:=by
 refine Ax func163 Z Z ntmps163 Z Z Z λF d=>(AD (AE ?_));refine AB Z Z (AC (AD (AE (goMv Z Z (V (FG (fi a b) Z [920] ⟨Z,trivial⟩ Z Z Z Z Z Z Z Z Z) (AB Z Z (AC (AZ ?_))))))));exact ⟨_,[920],_,AY Z,Z,Z,Z,Z⟩
theorem ZG (a:List AJ) (b:a.length<=1000000) (c:(a.map AJ.sq).Nodup):AM prog 120 [seqA a,.d (.raw (.func (.func 122) #[] #[]))] (.sl none ((BP a).map Af)):=by
 refine Ax func120 Z Z ntmps120 Z Z Z λF h=>(AD (AE (AB Z Z (AC (AD ?_)))));refine AE (goMv Z Z (V (FG (aN a b) Z [920] ⟨Z,trivial⟩ Z Z Z Z Z Z Z Z Z) (AB Z Z (AC (AD (AE (goMv Z Z (goMv Z Z ?_))))))));refine V (Nf laysI (k:=6) (by decide) isAgg55 sizeOf55 func122 Z Z UW ES Ds.swo a (BP a) (by omega) (λx _ y _=>X9 x y) (λg f e=>Xa c f e) Z Z Z Ma Z Z Z Z Z) (AC (AD (KP (emb:=Af) 5 920 (BP a) Z Z Z (am a).symm Z Z Z (AE (goMv Z Z (AB Z Z (AC (AZ ?_))))))));exact ⟨_,[],[],AY Z,Z,Z,Z,Z⟩
theorem NE (h:Ey a=0):(a.map AJ.sq).Nodup:=by
 have d:=V1.1 h;rw [List.Nodup,ψc,ωk];intro i j f b c e;have:=d j (Ψ.2 b)
 grind [KB,Gb]
theorem Pk {p:Prb} (h:BE p=0):Dp p.ro=0/\Ey p.it=0/\Pg p.it=0:=by
 unfold BE at h
 split at h; · cases h
 have a:=HI h
 simp_all
def ordP (p:Prb):List AJ:=if BE p=0 then BP p.it else []
theorem ME (p:Prb) (e:E6 p):AM prog 68 [.d (Bg p)] (.sl none ((ordP p).map Af)):=by
 have a:=HB p e;obtain ⟨_,g,_⟩:=e
 by_cases b:BE p=0
 .rw [b] at a;have c:ordP p=BP p.it:=ς b;rw [c];refine Ax func68 Z Z ntmps68 Z Z Z λF f=>(AD (AE (V (Bi 1 Z Z Z Z Z Z Z) (AB Z Z (AC ?_)))));refine AD (AD (AE (J (BA Z Z Br Z Z Z) (J (Aw (a) Z Z) (J (C7 Z Z Z) (AC (Cu Z ((by decide)) (AX ?_))))))));refine AD (AE (J (AL Z Sd Z Z Z) (J (AQ Z Z Z Hc Z) (V (FG (bF p.it) Z [] trivial Z Z Z Z Z Z Z Z Z) (J (Aw (ZG p.it (by omega) (NE (Pk b).2.1)) Z Z) (AB Z Z (AC (AZ ?_))))))));exact ⟨_,[],[],AY Z,Z,Z,Z,Z⟩
 .have c:ordP p=[]:=η b;rw [c];refine Ax func68 Z Z ntmps68 Z Z Z λF f=>(AD (AE ?_));refine V (Bi 1 Z Z Z Z Z Z Z) (AB Z Z (Yb 2 Z (AC (AD (AD (AE (J (BA Z Z Br Z Z Z) (J (Aw (a) Z Z) ?_))))))));refine J (C7 Z Z Z) (AC (Bz Z ((by simpa using b)) (AD (AE (AB Z Z (Yb 2 Z (AC (AZ ?_))))))));exact ⟨_,[],[],AY Z,Z,Z,Z,Z⟩
theorem Dr (p:Prb):(ordP p).length<=p.it.length:=by unfold ordP;split<;>simp [am]
theorem I7 {p:Prb} (h:m∈ordP p):m∈p.it:=by grind [ordP,ah]
theorem I6 (p:Prb) (j:E6 p):AM prog 33 [.d (Bg p)] (.sl none (((ordP p).map AJ.id).map AF)):=by
 have c:=ME p j;have e:=Dr p;have m:=j.2.1
 obtain ⟨S,o⟩:∃S,ordP p=S:=⟨_,Z⟩
 rw [o] at c e⊢;refine Ax func33 Z Z ntmps33 Z Z Z λF l=>(AD (AE ?_));refine V (Bi 1 Z Z Z Z Z Z Z) (AB Z Z (AC (AD (AE (AB Z Z (AC (AD (AD ?_))))))));refine NR 3 900 BT Z Z Z Z (AE (J (BA Z Z Br Z Z Z) (J (Aw (c) Z Z) (J (BU Z underlying37 Z) (goMv Z Z (AC (A2 (BO (α:=Nat×List Int) (λq=>⟨20,[(3,(.own 900 0 q.2.length)),(7,(.d (.sl none (S.map Af)))),(8,(.d (AF (S.length:Int)))),(9,(.d (AF (q.1:Int))))],[(900,[.rowD 3 1 (q.2.map AF)])]⟩) (λq=>q.1<=S.length/\q.2=(S.take q.1).map AJ.id) (λq=>S.length - q.1) ((0,[])) (⟨ζ _,Z⟩) (AU l [900] Z Z ⟨Z,Z,Z,Z,trivial⟩) ?_))))))));rintro ⟨k,b⟩ ⟨i,g⟩;dsimp only at i g⊢;refine AD (AE (J (Az Z Z Z) (AC (AD (A7 Z (λa=>?_) (λa=>?_))))))
 .have f:k<S.length:=BR a;refine AX (AD (A2 (AD (AE ?_))));have n:b.length<=100000:=by rw [g,χ,ϱ];omega
  refine J (BC (k) Z Z (Z) (A3 f) underlying37 Z Cm Z) (J (Ca Z Z CO Z) (V (CA 2 FJ Z Z Z Z) (V (B4 Z Z Z Z Z Z Z Cm) (AC (AE (goMv Z Z (J (AL Z OG Z Z Z) ?_)))))));refine J (AQ Z Z Z Ai Z) (V (C1 3 BT Z Z Z Z Z Z Z Z) (V (Eu (b) ([S[k].id]) Z Z Z Z Z Z Z Z BT (by simp only [υ];omega) Z Z Z Z) (AB Z Z (AC (AE (J (Ah Z Z (AK (k+1) (by omega)) Z) (goMv Z Z (AC ?_))))))));exact ⟨(k+1,_),⟨by show k+1<=_;omega,by show _=(S.take (k+1)).map AJ.id;rw [EK f,<-g]⟩,by show S.length - (k+1)<S.length - k;omega,AU l [900] Z (Z) ⟨Z,Z,Z,Z,trivial⟩⟩
 .refine Ar (AD (KP (emb:=AF) 3 900 b Z Z Z Z Z Z Z (AE (goMv Z Z (AB Z Z (AC (AZ ?_)))))));exact ⟨_,[],[],AY Z,Z,Z,by rw [g,θ (by have h:=a;omega)],Z⟩
theorem queue_p (p:Prb) (r:AW) (n:E6 p):AM prog 173 [.d (Bg p),.d (Bd r)] (.sl none ((Ke (ordP p) r).map AF)):=by
 have g:=ME p n;have j:=Dr p;have u:=n.2.1;have b:∀i∈ordP p,i.po.length<=100000/\i.pa.length<=100000/\i.af.length<=100000:=λi s=>n.2.2 i (I7 s)
 obtain ⟨S,w⟩:∃S,ordP p=S:=⟨_,Z⟩
 rw [w] at g j b⊢;refine Ax func173 Z Z ntmps173 Z Z Z λF o=>(AD (AE (V (Bi 1 Z Z Z Z Z Z Z) ?_)));refine V (Bi 2 Z Z Z Z Z Z Z) (AB Z Z (AC (AD (AE (AB Z Z (AC (AD (AD ?_))))))));refine NR 5 900 BT Z Z Z Z (AE (J (BA Z Z Br Z Z Z) (J (Aw (g) Z Z) (J (BU Z underlying37 Z) (goMv Z Z (AC (A2 (BO (α:=Nat×List Int) (λq=>⟨26,[(3,(.ptr 2 0 0)),(5,(.own 900 0 q.2.length)),(9,(.d (.sl none (S.map Af)))),(10,(.d (AF (S.length:Int)))),(11,(.d (AF (q.1:Int))))],[(2,[.blk 64 [.d (AF r.k),.d (Aq r.acc.o),.d (AF r.acc.k),.d (Aq r.acc.a),.d (Aq r.f),.d (Aq r.t)]]),(900,[.rowD 3 1 (q.2.map AF)])]⟩) (λq=>q.1<=S.length/\q.2=Ke (S.take q.1) r) (λq=>S.length - q.1) ((0,[])) (⟨ζ _,Z⟩) (AU o [2,900] Z Z ⟨Z,Z,Z,Z,Z,trivial⟩) ?_))))))));rintro ⟨k,f⟩ ⟨m,l⟩;dsimp only at m l⊢;refine AD (AE (J (Az Z Z Z) (AC (AD (A7 Z (λe=>?_) (λe=>?_))))))
 .have a:k<S.length:=BR e;refine AX (AD (A2 (AD (AE ?_))));have t:=b _ (ϑ a);have v:f.length<=100000:=by rw [l];unfold Ke;rw [χ];have:=ωj (λi=>decide (CC i r<0)) (S.take k);rw [ϱ] at this;omega
  refine J (BC (k) Z Z (Z) (A3 a) underlying37 Z Cm Z) (J (Ca Z Z CO Z) (V (CA 3 FJ Z Z Z Z) (V (B4 Z Z Z Z Z Z Z Cm) ?_)));refine AC (AD (AE (J (BA Z Z CO Z Z Z) (J (BA Z Z Cc Z Z Z) (J (Aw (YZ S[k] r (by omega) (by omega) (by omega)) Z Z) (J (Az Z Z Z) (AC (A7 Z (λc=>?_) (λc=>?_)))))))))
  .refine AE (goMv Z Z (J (AL Z OG Z Z Z) ?_));refine J (AQ Z Z Z Ai Z) (V (C1 4 BT Z Z Z Z Z Z Z Z) (V (Eu (f) ([S[k].id]) Z Z Z Z Z Z Z Z BT (by simp only [υ];omega) Z Z Z Z) (AB Z Z (AC (AE (J (Ah Z Z (AK (k+1) (by omega)) Z) (goMv Z Z (AC ?_))))))));exact ⟨(k+1,_),⟨by show k+1<=_;omega,by show _=Ke (S.take (k+1)) r;unfold Ke;rw [Er a,ς (by simpa using c),Ω,l];rfl⟩,by show S.length - (k+1)<S.length - k;omega,AU o [2,900] Z (Z) ⟨Z,Z,Z,Z,Z,trivial⟩⟩
  .refine AX (AE (J (Ah Z Z (AK (k+1) (by omega)) Z) (goMv Z Z (AC ?_))));exact ⟨(k+1,_),⟨by show k+1<=_;omega,by show _=Ke (S.take (k+1)) r;unfold Ke;rw [Er a,η (by simpa using c),ωi,l];rfl⟩,by show S.length - (k+1)<S.length - k;omega,AU o [2,900] Z (Z) ⟨Z,Z,Z,Z,Z,trivial⟩⟩
 .refine Ar (AD (KP (emb:=AF) 5 900 f Z Z Z Z Z Z Z (AE (goMv Z Z (AB Z Z (AC (AZ ?_)))))));exact ⟨_,[],[],AY Z,Z,Z,by rw [l,θ (by have h:=e;omega)],Z⟩
def PE (l:List AJ) (id:Int):AJ×Bool:=match l.find? λx=>decide (x.id=id) with
 | some x=>(x,true)
 | none=>(Ag,false)
theorem UY {id:Int} (b:q<a.length) (c:id∉(a.take q).map AJ.id) (h:a[q].id=id):PE a id=(a[q],true):=by
 have:a.find? (λx=>decide (x.id=id))=some a[q]:=by
  grind [List.find?_eq_some_iff_getElem,Gb]
 unfold PE;rw [this]
theorem dz {id:Int} (h:id∉a.map AJ.id):PE a id=(Ag,false):=by grind [PE]
theorem aA:∀w O v,A1 w O (.agg [AF 0,AF 0,AF 0,.sl (some true) [],.sl (some true) [],.sl (some true) []]) v ->A1 w O (Af Ag) v:=λw O v h=>h.aggMono Z (by simp [D.one]) λi c e b a v d=>by
 match i,b,a with
 | 0,b,a=>injection b with b;injection a with a;subst b a;exact d
 | 1,b,a=>injection b with b;injection a with a;subst b a;exact d
 | 2,b,a=>injection b with b;injection a with a;subst b a;exact d
 | 3,b,a=>injection b with b;injection a with a;subst b a;exact d.anyNil
 | 4,b,a=>injection b with b;injection a with a;subst b a;exact d.anyNil
 | 5,b,a=>injection b with b;injection a with a;subst b a;exact d.anyNil
theorem item_p (p:Prb) (id:Int) (l:E6 p):AM prog 24 [.d (Bg p),.d (AF id)] (.tup [Af (PE (ordP p) id).1,Am (PE (ordP p) id).2]):=by
 have f:=ME p l;have g:=Dr p;have r:=l.2.1;have b:∀i∈ordP p,i.po.length<=100000/\i.pa.length<=100000/\i.af.length<=100000:=λi o=>l.2.2 i (I7 o)
 obtain ⟨S,s⟩:∃S,ordP p=S:=⟨_,Z⟩
 rw [s] at f g b⊢;refine Ax func24 Z Z ntmps24 Z Z Z λF m=>(AD (AE (V (Bi 1 Z Z Z Z Z Z Z) (V (CA 2 FJ Z Z Z Z) (AB Z Z (AC (AD ?_)))))));refine AD (AE (J (BA Z Z Br Z Z Z) (J (Aw (f) Z Z) (J (BU Z underlying37 Z) (goMv Z Z (AC (A2 (BO (α:=Nat) (λk=>⟨23,[(1,.d (AF id)),(4,(.ptr 2 0 0)),(9,(.d (.sl none (S.map Af)))),(10,(.d (AF (S.length:Int)))),(11,(.d (AF (k:Int))))],[(2,[.blk 55 [.d (AF 0),.d (AF 0),.d (AF 0),Ex,Ex,Ex]])]⟩) (λk=>k<=S.length/\id∉(S.take k).map AJ.id) (λk=>S.length - k) (0) (⟨ζ _,by simp⟩) (AU m [2] Z Z ⟨Z,Z,Z,Z,Z,trivial⟩) ?_))))))));rintro k ⟨n,j⟩;refine AD (AE (J (Az Z Z Z) (AC (AD (A7 Z (λe=>?_) (λe=>?_))))))
 .have a:k<S.length:=BR e;refine AX (AD (A2 (AD (AE ?_))));have q:=b _ (ϑ a);refine J (BC (k) Z Z (Z) (A3 a) underlying37 Z Cm Z) (J (Ca Z Z CO Z) (V (CA 3 FJ Z Z Z Z) (V (B4 Z Z Z Z Z Z Z Cm) ?_)));refine AC (AD (AE (J (AL Z OG Z Z Z) (J (AQ Z Z Z Ai Z) (goMv Z Z (J (FC Z Z Z) (AC (A7 Z (λc=>?_) (λc=>?_)))))))))
  .refine AD (AE (J (BA Z Z CO Z Z Z) (J (Aw (clone_p S[k] (by omega) (by omega) (by omega)) Z Z) (V (B4 Z Z Z Z Z Z Z Cm) (AB Z Z (AC (AZ ?_)))))));exact ⟨_,[],[],AY Z,Z,Z,by rw [UY a j c],Z⟩
  .refine AX (AE (J (Ah Z Z (AK (k+1) (by omega)) Z) (goMv Z Z (AC ?_))));exact ⟨k+1,⟨by show k+1<=_;omega,HD a j c⟩,by show S.length - (k+1)<S.length - k;omega,AU m [2] Z (Z) ⟨Z,Z,Z,Z,Z,trivial⟩⟩
 .refine Ar (AD (AE (J (EI FJ pl55 Z Z Z) (Xl 22 (Af Ag) Z aA (V (B4 Z Z Z Z Z Z Z Cm) (AB Z Z (AC (AZ ?_))))))));exact ⟨_,[],[],AY Z,Z,Z,by rw [dz (by rw [θ (by have h:=e;omega)] at j;exact j)],Z⟩
theorem ids_inj (f:(a.map AJ.id).Nodup) {x y:AJ} (c:x∈a) (e:y∈a) (h:x.id=y.id):x=y:=by
 induction a with
 | nil=>cases c
 | cons b a d=>
  grind
theorem Df (h:Ey a=0):(a.map AJ.id).Nodup:=by
 have d:=V1.1 h;rw [List.Nodup,ψc,ωk];intro i j f b c e;have:=d j (Ψ.2 b)
 grind [KB,Gb]
theorem own_p (p:Prb) (h:Sml p):AM prog 13 [.d (Bg p)] (Bg p):=by
 obtain ⟨u,t,s⟩:=h;refine Ax func13 Z Z ntmps13 Z Z Z λF k=>(AD (AE (V (Bi 1 Z Z Z Z Z Z Z) (V (CA 2 Py Z Z Z Z) (AC (AD (AE (V (CA 3 Py Z Z Z Z) ?_))))))));refine AC (AD (AD (XA 3 0 0 901 NX Z Z Z Z Z Z Z (AE (AB Z Z (AC (A2 (BO (α:=List Ae) (λb=>⟨51,[(1,(.ptr 1 0 0)),(2,(.ptr 2 0 0)),(3,(.ptr 3 0 0)),(4,(.d (AF (b.length:Int))))],[(901,[.rowD 88 7 (b.map Bl)]),(1,[Dq 25 p]),(2,[.blk 39 [Ex,Ex]]),(3,[.blk 39 [.own 901 0 b.length,Ex]])]⟩) (λb=>b=p.ro.take b.length/\b.length<=p.ro.length) (λb=>p.ro.length - b.length) ([]) (⟨by simp,ζ _⟩) (AU k [901,1,2,3] Z Z ⟨Z,Z,Z,Z,trivial⟩) ?_))))))));rintro b ⟨m,o⟩;refine AD ?_;refine AD (AE (goMv Z Z (J (AL Z Pj Z Z Z) (J (AQ Z Z Z GP Z) (J (BU Z underlying22 Z) (J (Az Z Z Z) (AC (A7 Z (λi=>?_) (λi=>?_)))))))))
 .have e:b.length<p.ro.length:=BR i;refine AX (AD (A2 (CD [[],[0],[],[2],[],[2,3,4],[2,3,4,5],[2,3,4,5,6],[2,3,4,5,6,7],[],[9],[],[9,10,11],[9,10,11,12],[9,10,11,12,13],[2,3,4,5,6,7,8,9,10,11,12,13,14],[2,3,4,5,6,7,8,9,10,11,12,13,14,15],rg 17,rg 18,rg 19] mixed Z (Bt (AP [3] Z (AL Z DF Z Z Z) (Aj [13] Z Z (λ_=>A8 (AQ Z Z Z ML Z)) (AP [1] Z (AL Z Pj Z Z Z) ?_)))))));refine Aj [15] Z Z (λ_=>A8 (AQ Z Z Z GP Z)) (Ak 4 Z Z (AP [16,17] Z (BC (b.length) Z Z (Z) (A3 e) underlying22 Z IF Z) (AP [18] Z (V3 Z J0 Z Z Z) (AP [19] Z (Ca Z Z G6 Z) (AP [20] Z (Aw (cp p.ro[b.length].r) Z Z) (AP [1] Z (AL Z Pj Z Z Z) (Aj [22] Z Z (λ_=>A8 (AQ Z Z Z GP Z)) (Ak 4 Z Z ?_))))))));refine AP [23,24] Z (BC (b.length) Z Z (Z) (A3 e) underlying22 Z IF Z) (AP [25] Z (NP Z ST Z Z Z) (AP [26] Z (CF Z Z Fn Z) (AP [21,27] Z (EI R3 pl88 Z Z Z) (F5 [28] [50] [(29,_)] Z Z (λ_=>F6 (C1 50 NX Z Z Z Z Z Z Z Z)) (.inr ⟨29,_,Z,Z,Z,Z,Z⟩) Z Z Z Z Z (Bk 17 Z Z Z (Ab 18 Z Z (V (Eu (b) ([p.ro[b.length]]) Z Z Z Z Z Z Z Z NX (by simp only [υ];omega) Z Z Z Z) (AC ⟨Z,?_⟩))))))));refine Ab 19 Z Z (J (AL Z DF Z Z Z) (AC ⟨Z,?_⟩));refine Ab 20 Z Z (V (B4 Z Z Z Z Z Z Z sz36) (AC ⟨Z,?_⟩));refine Bx (AE (goMv Z Z (J (Ah Z Z (KR b p.ro[b.length] (by omega)) Z) (AB Z Z (AC ?_)))));exact ⟨b++ [p.ro[b.length]],⟨GR m e,by rw [Δ];show b.length+1<=_;omega⟩,by rw [Δ];show p.ro.length - (b.length+1)<p.ro.length - b.length;omega,AU k [901,1,2,3] Z (Z) ⟨Z,Z,Z,Z,trivial⟩⟩
 .refine Ar (AD (AD ?_));have j:=IW m (λh=>i (by omega));refine Va (ys:=p.ro.map Bl) 3 0 0 901 Z Z Z (by simp) (by rw [j];exact θ (by simp)) Z Z Z Z Z Z (XA 3 0 1 902 Ls Z Z Z Z Z Z Z (AE (AB Z Z (AC (A2 (BO (α:=List AJ) (λa=>⟨51,[(1,(.ptr 1 0 0)),(2,(.ptr 2 0 0)),(3,(.ptr 3 0 0)),(5,(.d (AF (a.length:Int))))],[(902,[.rowD 55 6 (a.map Af)]),(1,[Dq 25 p]),(2,[.blk 39 [Ex,Ex]]),(3,[.blk 39 [.d (.sl none (p.ro.map Bl)),.own 902 0 a.length]])]⟩) (λa=>a=p.it.take a.length/\a.length<=p.it.length) (λa=>p.it.length - a.length) ([]) (⟨by simp,ζ _⟩) (AU k [902,1,2,3] Z Z ⟨Z,Z,Z,Z,trivial⟩) ?_))))));rintro a ⟨l,n⟩;refine AD ?_;refine AD (AE (goMv Z Z (J (AL Z J6 Z Z Z) (J (AQ Z Z Z DM Z) (J (BU Z underlying23 Z) (J (Az Z Z Z) (AC (A7 Z (λg=>?_) (λg=>?_)))))))))
  .have c:a.length<p.it.length:=BR g;refine AX ?_;refine AD (A2 (CD [[],[0],[],[2],[],[2,3,4],[2,3,4,5],[2,3,4,5,6],[2,3,4,5,6,7],rg 9,rg 10,rg 11] mixed Z (Bt (AP [3] Z (AL Z Sd Z Z Z) (Aj [39] Z Z (λ_=>A8 (AQ Z Z Z Hc Z)) (AP [1] Z (AL Z J6 Z Z Z) (Aj [41] Z Z (λ_=>A8 (AQ Z Z Z DM Z)) (Ak 5 Z Z ?_))))))));have q:=s _ (ϑ c);refine AP [42,43] Z (BC (a.length) Z Z (Z) (A3 c) underlying23 Z DD Z) (AP [44] Z (Ca Z Z G7 Z) (AP [45] Z (Aw (Z3 p.it[a.length] (by omega) (by omega) (by omega)) Z Z) (F5 [46] [51] [(47,_)] Z Z (λ_=>F6 (C1 51 Ls Z Z Z Z Z Z Z Z)) (.inr ⟨47,_,Z,Z,Z,Z,Z⟩) Z Z Z Z Z (Bk 9 Z Z Z (Ab 10 Z Z (V (Eu (a) ([p.it[a.length]]) Z Z Z Z Z Z Z Z Ls (by simp only [υ];omega) Z Z Z Z) (AC ⟨Z,?_⟩)))))));refine Ab 11 Z Z (J (AL Z Sd Z Z Z) (AC ⟨Z,?_⟩));refine Ab 12 Z Z (V (B4 Z Z Z Z Z Z Z sz37) (AC ⟨Z,?_⟩));refine Bx (AE (goMv Z Z (J (Ah Z Z (KR a p.it[a.length] (by omega)) Z) (AB Z Z (AC ?_)))));exact ⟨a++ [p.it[a.length]],⟨GR l c,by rw [Δ];show a.length+1<=_;omega⟩,by rw [Δ];show p.it.length - (a.length+1)<p.it.length - a.length;omega,AU k [902,1,2,3] Z (Z) ⟨Z,Z,Z,Z,trivial⟩⟩
  .refine Ar (AD ?_);have f:=IW l (λh=>g (by omega));refine Va (ys:=p.it.map Af) 3 0 1 902 Z Z Z (by simp) (by rw [f];exact θ (by simp)) Z Z Z Z Z Z (AE (J (BA Z Z Br Z Z Z) (V (B4 Z Z Z Z Z Z Z Yw) (AC (AZ ?_)))));exact ⟨_,[],[],AY Z,Z,Z,Z,Z⟩
def Et (ids l:List Int) (k:Nat):Int:=if l.getD k 0∉ids then 9 else if l.getD k 0∈l.take k then 7 else 0
def K8 (ids l:List Int):Int:=BQ ((List.range l.length).map (Et ids l))
def C5 (p:Prb) (l:List Int):Int:=if BE p≠0 then BE p else K8 (p.it.map AJ.id) l
theorem Re {a l:List Int} (h:K8 a l=0):l.Nodup/\∀x∈l,x∈a:=by
 have c:=V1.1 h;refine ⟨ωk.2 λi j g b f e=>?_,λx d=>?_⟩
 .have:=c j (Ψ.2 b)
  grind [Et,ψg]
 .obtain ⟨j,b,rfl⟩:=ωq d;have:=c j (Ψ.2 b)
  grind [Et]
theorem Wp (p:Prb) (l:List Int) (z:E6 p) (D:l.length<=100000) (t:C5 p l≠0):AM prog 159 [.d (Bg p),.d (.sl none (l.map AF))] (.tup [.raw (.map none),AF (C5 p l)]):=by
 have c:=HB p z;have B:=z.2.1
 by_cases q:BE p=0
 .have m:=Df (Pk q).2.1;rw [q] at c;have u:C5 p l=K8 (p.it.map AJ.id) l:=η (λh=>h q);rw [u] at t⊢
  obtain ⟨C,o⟩:∃e,K8 (p.it.map AJ.id) l=e:=⟨_,Z⟩
  rw [o] at t⊢;refine Ax func159 Z Z ntmps159 Z Z Z λF n=>(AD (AE (V (Bi 1 Z Z Z Z Z Z Z) (AB Z Z (AB Z Z (AC (AD (AD ?_))))))));refine AE (J (BA Z Z Br Z Z Z) (J (Aw (c) Z Z) (AB Z Z (AC (AD (AE (goMv Z Z (J (C7 Z Z Z) ?_))))))));refine AC (Cu Z ((by decide)) (AX (AD (AE (V (Ps 2 Z Z Z Z) (AB Z Z (AC (AD ?_))))))));refine AD (AE (J (AL Z Sd Z Z Z) (J (AQ Z Z Z Hc Z) (J (BU Z underlying37 Z) (goMv Z Z (AC (A2 (BO (α:=Nat) (λk=>⟨50,[(1,.d (.sl none (l.map AF))),(7,(.map 2 0)),(20,(.d (.sl none (p.it.map Af)))),(21,(.d (AF (p.it.length:Int)))),(22,(.d (AF (k:Int))))],[(2,[B1 AF Am (BS ((p.it.take k).map AJ.id))])]⟩) (λk=>k<=p.it.length) (λk=>p.it.length - k) (0) (ζ _) (AU n [2] Z Z ⟨Z,Z,Z,Z,Z,trivial⟩) ?_))))))));rintro k s;refine AD (AE (J (Az Z Z Z) (AC (AD (A7 Z (λi=>?_) (λi=>?_))))))
  .have a:k<p.it.length:=BR i;refine AX (AD (A2 (AD (AE ?_))));have r:p.it[k].id∉(p.it.take k).map AJ.id:=λh=>by rw [List.Nodup,ψc,ωk] at m;obtain ⟨x,A,e⟩:=Ξ.1 h;obtain ⟨j,E,rfl⟩:=ψg.1 A;exact m j k (by omega) a (by omega) e
   refine J (BC (k) Z Z (Z) (A3 a) underlying37 Z Cm Z) (J (Ca Z Z CO Z) (V (CA 3 FJ Z Z Z Z) (V (B4 Z Z Z Z Z Z Z Cm) (AC (AE ?_)))));refine goMv Z Z (J (AL Z OG Z Z Z) (J (AQ Z Z Z Ai Z) (V (VZ (BS ((p.it.take k).map AJ.id)) (p.it[k].id) (true) Z Z Z En IN Z Z) (AC (AE (J (Ah Z Z (AK (k+1) (by omega)) Z) (goMv Z Z (AC ?_))))))));exact ⟨k+1,by show k+1<=_;omega,by show p.it.length - (k+1)<p.it.length - k;omega,AU n [2] Z (by rw [EK a,<-ao r];rfl) ⟨Z,Z,Z,Z,Z,trivial⟩⟩
  .refine Ar (AD ?_);rw [θ (show p.it.length<=k by have h:=i;omega)];refine AE (V (Ps 4 Z Z Z Z) (AB Z Z (AC ?_)));refine AD (AD (AE (goMv Z Z (J (BU Z underlying28 Z) (goMv Z Z (AC (A2 (BO (α:=Nat) (λk=>⟨50,[(7,(.map 2 0)),(10,(.map 4 0)),(31,(.d (.sl none (l.map AF)))),(32,(.d (AF (l.length:Int)))),(33,(.d (AF (k:Int))))],[(2,[B1 AF Am (BS (p.it.map AJ.id))]),(4,[B1 AF Am (BS (l.take k))])]⟩) (λk=>k<=l.length/\C=BQ (((List.range l.length).drop k).map (Et (p.it.map AJ.id) l))) (λk=>l.length - k) (0) (⟨ζ _,o.symm⟩) (AU n [2,4] Z Z ⟨Z,Z,Z,Z,Z,trivial⟩) ?_))))))));rintro k ⟨s,y⟩;refine AD (AE (J (Az Z Z Z) (AC (AD (A7 Z (λg=>?_) (λg=>?_))))))
   .have a:k<l.length:=BR g;refine AX (AD (A2 (AD (AE ?_))));have f:=Zcw a y;have b:=FF 0 a;refine J (BC (k) Z Z (Z) (A3 a) underlying28 Z BD Z) (J (CF Z Z Ai Z) ?_);refine AB Z Z (AC (AD (A2 (AD (AE (goMv Z Z (goMv Z Z (J (IR (BS (p.it.map AJ.id)) (l[k]) (false) _ Z Z Z En IN Sv Z Z) ?_))))))));rw [Yc];refine J (Je Z Z) (AB Z Z (AC (A7 Z (λw=>?_) (λw=>?_))))
    .refine AD (AE (AB Z Z (AB Z Z (AC (AZ ?_)))));exact ⟨_,[],[],AY Z,Z,Z,by rw [f.2 9 (by unfold Et;rw [b,ς (by simp_all)]) (by decide)],Z⟩
    .refine AD (AE (goMv Z Z (goMv Z Z (J (IR (BS (l.take k)) (l[k]) (false) _ Z Z Z En IN Sv Z Z) ?_))));rw [Yc];refine AB Z Z (AC (A7 Z (λv=>?_) (λv=>?_)))
     .refine AD (AE (AB Z Z (AB Z Z (AC (AZ ?_)))));exact ⟨_,[],[],AY Z,Z,Z,by rw [f.2 7 (by unfold Et;rw [b,η (by simp_all),ς (by simp_all)]) (by decide)],Z⟩
     .refine AX ?_;refine AE (goMv Z Z (goMv Z Z (V (VZ (BS (l.take k)) (l[k]) (true) Z Z Z En IN Z Z) (AC (AE (J (Ah Z Z (AK (k+1) (by omega)) Z) (goMv Z Z (AC ?_))))))));exact ⟨k+1,⟨by show k+1<=_;omega,f.1 (by unfold Et;rw [b,η (by simp_all),η (by simp_all)])⟩,by show l.length - (k+1)<l.length - k;omega,AU n [2,4] Z (by rw [ψ a,<-ao (by simp_all)];rfl) ⟨Z,Z,Z,Z,Z,trivial⟩⟩
   .refine Ar (AD (AE (goMv Z Z (AB Z Z (AB Z Z (AC (AZ ?_)))))));exact absurd (by rw [y,χp (by have h:=g;simp only [ωo];omega)];rfl) t
 .have u:C5 p l=BE p:=ς q;rw [u];refine Ax func159 Z Z ntmps159 Z Z Z λF n=>(AD (AE (V (Bi 1 Z Z Z Z Z Z Z) (AB Z Z (AB Z Z (AC (AD (AD ?_))))))));refine AE (J (BA Z Z Br Z Z Z) (J (Aw (c) Z Z) (AB Z Z (AC (AD (AE (goMv Z Z (J (C7 Z Z Z) ?_))))))));refine AC (Bz Z ((ωf q)) (AD (AE (goMv Z Z (AB Z Z (AB Z Z (AC (AZ ?_))))))));exact ⟨_,[],[],AY Z,Z,Z,Z,Z⟩
theorem aT (p:Prb) (l:List Int) (w:E6 p) (G:l.length<=100000) (c:C5 p l=0):AT prog 159 [.d (Bg p),.d (.sl none (l.map AF))] [] λr D=>r= .tup [.map 4 0,.d (AF 0)]/\D=[(4,[B1 AF Am (BS l)])]:=by
 have n:=HB p w;have B:=w.2.1
 have v:BE p=0:=by
  unfold C5 at c;split at c
  .exact c
  .rename_i h;simpa using h
 have i:=Df (Pk v).2.1;rw [v] at n;have C:C5 p l=K8 (p.it.map AJ.id) l:=η (λh=>h v);rw [C] at c;refine Ax func159 Z Z ntmps159 Z Z Z λF o=>(AD (AE (V (Bi 1 Z Z Z Z Z Z Z) (AB Z Z (AB Z Z (AC (AD (AD ?_))))))));refine AE (J (BA Z Z Br Z Z Z) (J (Aw (n) Z Z) (AB Z Z (AC (AD (AE (goMv Z Z (J (C7 Z Z Z) ?_))))))));refine AC (Cu Z ((by decide)) (AX (AD (AE (V (Ps 2 Z Z Z Z) (AB Z Z (AC (AD ?_))))))));refine AD (AE (J (AL Z Sd Z Z Z) (J (AQ Z Z Z Hc Z) (J (BU Z underlying37 Z) (goMv Z Z (AC (A2 (BO (α:=Nat) (λk=>⟨50,[(1,.d (.sl none (l.map AF))),(7,(.map 2 0)),(20,(.d (.sl none (p.it.map Af)))),(21,(.d (AF (p.it.length:Int)))),(22,(.d (AF (k:Int))))],[(2,[B1 AF Am (BS ((p.it.take k).map AJ.id))])]⟩) (λk=>k<=p.it.length) (λk=>p.it.length - k) (0) (ζ _) (AU o [2] Z Z ⟨Z,Z,Z,Z,Z,trivial⟩) ?_))))))));rintro k q;refine AD (AE (J (Az Z Z Z) (AC (AD (A7 Z (λg=>?_) (λg=>?_))))))
 .have a:k<p.it.length:=BR g;refine AX (AD (A2 (AD (AE ?_))));have b:p.it[k].id∉(p.it.take k).map AJ.id:=λh=>by rw [List.Nodup,ψc,ωk] at i;obtain ⟨x,y,e⟩:=Ξ.1 h;obtain ⟨j,z,rfl⟩:=ψg.1 y;exact i j k (by omega) a (by omega) e
  refine J (BC (k) Z Z (Z) (A3 a) underlying37 Z Cm Z) (J (Ca Z Z CO Z) (V (CA 3 FJ Z Z Z Z) (V (B4 Z Z Z Z Z Z Z Cm) (AC (AE ?_)))));refine goMv Z Z (J (AL Z OG Z Z Z) (J (AQ Z Z Z Ai Z) (V (VZ (BS ((p.it.take k).map AJ.id)) (p.it[k].id) (true) Z Z Z En IN Z Z) (AC (AE (J (Ah Z Z (AK (k+1) (by omega)) Z) (goMv Z Z (AC ?_))))))));exact ⟨k+1,by show k+1<=_;omega,by show p.it.length - (k+1)<p.it.length - k;omega,AU o [2] Z (by rw [EK a,<-ao b];rfl) ⟨Z,Z,Z,Z,Z,trivial⟩⟩
 .refine Ar (AD ?_);rw [θ (show p.it.length<=k by have h:=g;omega)];refine AE (V (Ps 4 Z Z Z Z) (AB Z Z (AC ?_)));refine AD (AD (AE (goMv Z Z (J (BU Z underlying28 Z) (goMv Z Z (AC (A2 (BO (α:=Nat) (λk=>⟨50,[(7,(.map 2 0)),(10,(.map 4 0)),(31,(.d (.sl none (l.map AF)))),(32,(.d (AF (l.length:Int)))),(33,(.d (AF (k:Int))))],[(2,[B1 AF Am (BS (p.it.map AJ.id))]),(4,[B1 AF Am (BS (l.take k))])]⟩) (λk=>k<=l.length) (λk=>l.length - k) (0) (ζ _) (AU o [2,4] Z Z ⟨Z,Z,Z,Z,Z,trivial⟩) ?_))))))));rintro k q;refine AD (AE (J (Az Z Z Z) (AC (AD (A7 Z (λf=>?_) (λf=>?_))))))
  .have a:k<l.length:=BR f;refine AX (AD (A2 (AD (AE ?_))));have E:=V1.1 c k (Ψ.2 a);have A:=FF 0 a;have s:l[k]∈p.it.map AJ.id:=(Re c).2 _ (ϑ a);have b:l[k]∉l.take k:=λh=>by have m:=(Re c).1;rw [List.Nodup,ωk] at m;obtain ⟨j,z,e⟩:=ψg.1 h;exact m j k (by omega) a (by omega) e
   refine J (BC (k) Z Z (Z) (A3 a) underlying28 Z BD Z) (J (CF Z Z Ai Z) ?_);refine AB Z Z (AC (AD (A2 (AD (AE (goMv Z Z (goMv Z Z (J (IR (BS (p.it.map AJ.id)) (l[k]) (false) _ Z Z Z En IN Sv Z Z) ?_))))))));rw [Yc];refine J (Je Z Z) (AB Z Z (AC (A7 Z (λu=>?_) (λu=>?_))))
   .refine AD (AE (AB Z Z (AB Z Z (AC (AZ ?_)))));exact absurd s (by simp_all)
   .refine AD (AE (goMv Z Z (goMv Z Z (J (IR (BS (l.take k)) (l[k]) (false) _ Z Z Z En IN Sv Z Z) ?_))));rw [Yc];refine AB Z Z (AC (A7 Z (λt=>?_) (λt=>?_)))
    .refine AD (AE (AB Z Z (AB Z Z (AC (AZ ?_)))));exact absurd b (by simp_all)
    .refine AX ?_;refine AE (goMv Z Z (goMv Z Z (V (VZ (BS (l.take k)) (l[k]) (true) Z Z Z En IN Z Z) (AC (AE (J (Ah Z Z (AK (k+1) (by omega)) Z) (goMv Z Z (AC ?_))))))));exact ⟨k+1,by show k+1<=_;omega,by show l.length - (k+1)<l.length - k;omega,AU o [2,4] Z (by rw [ψ a,<-ao b];rfl) ⟨Z,Z,Z,Z,Z,trivial⟩⟩
  .refine Ar (AD (AE (goMv Z Z (AB Z Z (AB Z Z (AC (AZ ?_)))))));exact ⟨_,[4],_,AY Z,Z,Z,Z,by rw [θ (show l.length<=k by have h:=f;omega)]<;>rfl⟩
theorem Dg (x:AW×Int) (l:List (AW×Int)) (r:AW):An (x::l) r=(if x.1=r then x.2 else 0)+An l r:=by simp [An]
theorem Us {m:List (AW×Int)} (h:g.Perm m) (r:AW):An g r=An m r:=by
 induction h with
 | nil=>rfl
 | cons x _ c=>rw [Dg,Dg,c]
 | swap x y g=>simp only [Dg];omega
 | trans _ _ b a=>rw [b,a]
theorem Is (h:A∉g.map Prod.fst):An g A=0:=by
 induction g with
 | nil=>rfl
 | cons x g a=>
  grind [Dg]
theorem Wm (b:(g.map Prod.fst).Nodup) {v:Int} (h:(A,v)∈g):An g A=v:=by
 induction g with
 | nil=>cases h
 | cons x g a=>
  grind [Dg,Is]
theorem Ur (c:List (AW×Int)) (r:AW):An (sumL c) r=An c r:=by grind [Wm,Fb,Fc,Is,JJ]
theorem lft_sub {m:List (c×B)} {d seen:List Nat} {x:c×B} (h:x∈CE m d seen):x∈m:=by
 unfold CE at h;obtain ⟨y,e,rfl⟩:=Ξ.1 h;exact (List.of_mem_zip (a:=y.1) (b:=y.2) (ωc.1 e).1).1
theorem YE {b a:Type} {m:List (b×a)} {B seen:List Nat}:(CE m B seen).length<=m.length:=by grind [CE]
def NV (l:List AJ) (r:AW):Int:=(l.map λi=>An (ctr i) r).sum
theorem Yu (l:List AJ) (i:AJ) (r:AW):NV (l++ [i]) r=NV l r+An (ctr i) r:=by simp [NV]
def inB (l:List Int) (i:AJ):Bool:=decide (i.id∈l)
theorem UX (h:Ey a=0):∀i∈a,Ay i=0:=λi d=>by
 have e:=V1.1 h;obtain ⟨j,b,rfl⟩:=ωq d;have:=e j (Ψ.2 b);unfold KB at this;rw [FF Ag b] at this
 split at this
 .contradiction
 .rename_i c;simpa using c
theorem OC (h:Ay m=0) (r:AW): -Mx<=An (ctr m) r/\An (ctr m) r<=Mx:=by
 have a:=(GA h).2.2.2.2.2.2.2.2;unfold Mk at a
 split at a
 .cases a
 .rename_i c
  by_cases b:r∈(sumL (ctr m)).map Prod.fst
  .grind [Fc]
  grind [Is,JJ]
theorem bnd_E (h:Ay m=0):Px (sumL (ctr m)):=λx a=>by
 have b:=((Fc (ctr m) x.1 x.2).1 a).2;rw [b];simpa [Mx] using OC h x.1
theorem len_E (h:Ay m=0):(sumL (ctr m)).length<=1280:=by
 have a:=(GA h).1;have c:=a.po;have b:=a.pa;have:=IX (ctr m);rw [Hx] at this;omega
theorem OP {l:List AJ} (h:∀i∈l,Ay i=0) (a:l.length<=1000) (r:AW): -1000000000000000000<=NV l r/\NV l r<=1000000000000000000:=by
 have:=JI (l:=l) (f:=λi=>An (ctr i) r) (B:=1000000000000000) (λi b=>by simpa [Mx] using OC (h i b) r) 1000 a (by omega);unfold NV;omega
def Vl (p:Prb) (l:List Int):List Ae:=p.ro.map λx=>⟨x.r,x.n+NV (p.it.filter (inB l)) x.r⟩
theorem Lw {l:List Ae} (h:Dp l=0):∀x∈l,-4000000000000000<=x.n/\x.n<=4000000000000000:=λx b=>by
 have d:=V1.1 h;obtain ⟨j,a,rfl⟩:=ωq b;have:=d j (Ψ.2 a);unfold Ja at this;rw [FF I2 a] at this
 split at this
 .contradiction
 .split at this
  .cases this
  .rename_i c;simp only [Mx] at c;omega
theorem Uf {p:c ->Bool} (a:q<d.length):(d.take (q+1)).filter p=(d.take q).filter p++(if p d[q] then [d[q]] else []):=Er a
theorem bM (p:Prb) (l:List Int) (Y:E6 p) (hl:l.length<=100000) (G:p.it.length<=1000):AM prog 113 [.d (Bg p),.d (.sl none (l.map AF))] (.tup [.sl none ((if C5 p l=0 then Vl p l else []).map Bl),AF (C5 p l)]):=by
 by_cases j:C5 p l=0
 .have X:=(aT p l Y hl j).by [(4,40)] rfl
  have h0:BE p=0:=by
   unfold C5 at j;split at j
   .exact j
   .rename_i h;simpa using h
  have w:=UX (Pk h0).2.1;have K:=Lw (Pk h0).1;have hb1:=Y.1;rw [ς j,j];refine Ax func113 Z Z ntmps113 Z Z Z λF u=>(AD (AE (V (Bi 1 Z Z Z Z Z Z Z) (AB Z Z ?_))));refine AB Z Z (AC (AD (AE (J (BA Z Z Br Z Z Z) (goMv Z Z (V (FG X Z [40] ⟨Z,trivial⟩ Z Z Z Z Z Z Z Z Z) (goMv Z Z (J (DG Z Z Z) ?_))))))));refine J (DG Z Z Z) (AB Z Z (AB Z Z (AC (AD (AD (AE (goMv Z Z (J (C7 Z Z Z) ?_))))))));refine AC (Cu Z ((by decide)) (AX (AD (AE (V (Ps 2 Z Z Z Z) (AB Z Z (AC (AD ?_))))))));refine AD (AE (J (AL Z Sd Z Z Z) (J (AQ Z Z Z Hc Z) (J (BU Z underlying37 Z) (goMv Z Z (AC (A2 (BO (α:=Nat×List (AW×Int)) (λq=>⟨76,[(2,(.ptr 1 0 0)),(6,(.map 40 0)),(8,(.map 2 0)),(27,(.d (.sl none (p.it.map Af)))),(28,(.d (AF (p.it.length:Int)))),(29,(.d (AF (q.1:Int))))],[(1,[Dq 39 p]),(40,[B1 AF Am (BS l)]),(2,[B1 Bd AF q.2])]⟩) (λq=>q.1<=p.it.length/\∀r,Ad q.2 r 0=NV ((p.it.take q.1).filter (inB l)) r) (λq=>p.it.length - q.1) ((0,[])) (⟨ζ _,λ_=>rfl⟩) (AU u [1,40,2] Z Z ⟨Z,Z,Z,Z,Z,Z,trivial⟩) ?_))))))));rintro ⟨k,M⟩ ⟨T,I⟩;dsimp only at T I⊢;refine AD (AE (J (Az Z Z Z) (AC (AD (A7 Z (λD=>?_) (λD=>?_))))))
  .have f:k<p.it.length:=BR D;refine AX (AD (A2 (AD (AE ?_))));have y:=w _ (ϑ f);have hs:=(R8 p.it[k] (GA y).1).by [(2,41)] rfl;have g:=bnd_E y;have hEl:=len_E y;have Q:=λr=>Ur (ctr p.it[k]) r;have hEn:=Fb (ctr p.it[k]);have hT:=OP (l:=(p.it.take k).filter (inB l)) (λi U=>w i (ωs (ωc.1 U).1)) (ωa (ωj _ _) (by rw [ϱ];omega))
   obtain ⟨E,hEE⟩:∃E,sumL (ctr p.it[k])=E:=⟨_,Z⟩
   rw [hEE] at hs g hEl Q hEn;refine J (BC (k) Z Z (Z) (A3 f) underlying37 Z Cm Z) (J (Ca Z Z CO Z) (V (CA 3 FJ Z Z Z Z) ?_));refine V (B4 Z Z Z Z Z Z Z Cm) (AC (AD (AD (AE (goMv Z Z (J (AL Z OG Z Z Z) (J (AQ Z Z Z Ai Z) (J (IR (BS l) (p.it[k].id) (false) _ Z Z Z En IN Sv Z Z) ?_))))))));rw [Yc];refine J (Je Z Z) (AC (A7 Z (λC=>?_) (λC=>?_)))
   .refine Ar (AE (J (Ah Z Z (AK (k+1) (by omega)) Z) (goMv Z Z (AC ?_))));exact ⟨(k+1,M),⟨by show k+1<=_;omega,λr=>by show Ad M r 0=NV ((p.it.take (k+1)).filter (inB l)) r;rw [Uf f,η (by unfold inB;simpa using C),ωi];exact I r⟩,by show p.it.length - (k+1)<p.it.length - k;omega,AU u [1,40,2] Z (Z) ⟨Z,Z,Z,Z,Z,Z,trivial⟩⟩
   .refine AX (AD (AE (J (BA Z Z CO Z Z Z) (V (FG hs Z [41] ⟨Z,trivial⟩ Z Z Z Z Z Z Z Z Z) (V (Gs 4 Z Z Z CQ Z Z Z Z) (AC (A2 (BO (α:=List Nat×List (AW×Int)) (λq=>⟨76,[(2,(.ptr 1 0 0)),(6,(.map 40 0)),(8,(.map 2 0)),(27,(.d (.sl none (p.it.map Af)))),(28,(.d (AF (p.it.length:Int)))),(29,(.d (AF (k:Int)))),(40,(.ptr 4 0 0))],[(4,[.iter 41 0 E.length q.1]),(41,[B1 Bd AF E]),(1,[Dq 39 p]),(40,[B1 AF Am (BS l)]),(2,[B1 Bd AF q.2])]⟩) (λq=>∀r,Ad q.2 r 0+An (CE E (List.range E.length) q.1) r=NV ((p.it.take k).filter (inB l)) r+An E r) (λq=>(CE E (List.range E.length) q.1).length) (([],M)) (λr=>by show Ad M r 0+An (CE E (List.range E.length) []) r=_;rw [ZcM (by simp),I r]) (AU u [4,41,1,40,2] Z Z ⟨Z,Z,Z,Z,Z,Z,Z,trivial⟩) ?_))))))));rintro ⟨seen,N⟩ R;dsimp only at R⊢;refine AD (AE (MM (E) Z Z Z Z (λL=>?_) (λS o b c t P hB41 s=>⟨_,Z,?_⟩)))
    .have O:∀r,Ad N r 0=NV ((p.it.take k).filter (inB l)) r+An (ctr p.it[k]) r:=λr=>by have H:=R r;rw [L] at H;rw [<-Q r];have h2:An ([]:List (AW×Int)) r=0:=rfl;omega
     refine J (DG Z Z Z) (AC (AD (Cu Z Z (Ar (AE (J (Ah Z Z (AK (k+1) (by omega)) Z) (goMv Z Z (AC ?_))))))));exact ⟨(k+1,N),⟨by show k+1<=_;omega,λr=>by show Ad N r 0=NV ((p.it.take (k+1)).filter (inB l)) r;rw [Uf f,ς (by unfold inB;simpa using C),Yu];exact O r⟩,by show p.it.length - (k+1)<p.it.length - k;omega,AU u [1,40,2] Z (Z) ⟨Z,Z,Z,Z,Z,Z,trivial⟩⟩
    .refine J (DG Z Z Z) (AC (AD ?_));refine Bz Z Z (AX (A2 (AD (AE (J (Gt (E) S o Z Z Z t P Z) (J (DG Z Z Z) (J (DG Z Z Z) (V (CA 5 KQ Z Z Z Z) ?_))))))));refine V (B4 Z Z Z Z Z Z Z Yv) (AB Z Z (AC (CD [[],[],[0,1],[],[0,1,2,3],[0,1,3],[0,1,3,5],rg 7] mixed Z (aK 2 ([B1 Bd AF (Be N b 0)]) Z (Ak 8 Z Z (Aj [11] Z Z (λ_=>A8 (BA Z Z Cc Z Z Z)) (J2 [46,47] [] Z Z Z (λ_=>A8 (IR (N) (b) (0) _ Z Z Z CQ C4 Pp Z Z)) (λ_=>A8 (IR (Be (N) (b) (0)) (b) (0) _ Z Z Z CQ C4 Pp (EW _ _ _ _) Z)) (Ak 12 Z Z ?_))))))))
     have hNb: -6000000000000000000<=Ad N b 0+c/\Ad N b 0+c<=6000000000000000000:=by {have H:=R b;have h2:=Hy (l:=CE E (List.range E.length) seen) (λx hx=>g x (lft_sub hx)) b;have h3:=Hy g b;have h4:=YE (m:=E) (B:=List.range E.length) (seen:=seen);have h5:=hT b;have h6:=g (b,c) (ξ t);simp only at h6;omega}
     refine AP [48,49] Z (Ah Z Z (Θ _ (by omega)) Z) (F5 [46,47] [2] [(51,_)] Z Z (λ_=>F6 (HZ (N) (b) (0) Z Z Z CQ C4 Pp Z Z)) (.inr ⟨51,_,Z,Z,Z,Z,Z⟩) Z Z Z Z Z ?_ (hCn:=RW Z));refine AP [51] Z (DG Z Z Z) (Bk 7 Z Z Z (Ab 8 Z Z (V (H3 (N) (b) (0) (Ad N b 0+c) Z Z Z C4 Z Z) (AC ⟨Z,?_⟩))));refine Bx ?_;exact ⟨(seen++ [o],_),(λr=>by show Ad (BZ N b (Ad N b 0+c)) r 0+An (CE E (List.range E.length) (seen++ [o])) r=_;have H:=R r;rw [Us s,Dg] at H;rw [HF];by_cases e:r=b; · {rw [ς e];rw [ς e.symm] at H;rw [e] at H⊢;omega}; · {rw [η e];rw [η (λh=>e h.symm)] at H;omega}),by show (CE E (List.range E.length) (seen++ [o])).length<(CE E (List.range E.length) seen).length;rw [s.length_eq];exact ψp _,AU u [4,41,1,40,2] Z (Z) ⟨Z,Z,Z,Z,Z,Z,Z,trivial⟩⟩
  .refine Ar (AD ?_);have v:p.it.take k=p.it:=θ (by have h:=D;omega);rw [v] at I;have hTb:=OP (l:=p.it.filter (inB l)) (λi U=>w i (ωc.1 U).1) (ωa (ωj _ _) G);refine AE (AB Z Z (AC (AD (AD ?_))));refine NR 13 900 NX Z Z Z Z (AE (J (AL Z DF Z Z Z) (J (AQ Z Z Z ML Z) (J (BU Z underlying36 Z) (goMv Z Z (AC (A2 (BO (α:=List Ae) (λa=>⟨76,[(8,(.map 2 0)),(13,(.own 900 0 a.length)),(55,(.d (.sl none (p.ro.map Bl)))),(56,(.d (AF (p.ro.length:Int)))),(57,(.d (AF (a.length:Int))))],[(900,[.rowD 88 7 (a.map Bl)]),(2,[B1 Bd AF M])]⟩) (λa=>a.length<=p.ro.length/\a=(Vl p l).take a.length) (λa=>p.ro.length - a.length) ([]) (⟨ζ _,by simp⟩) (AU u [900,2] Z Z ⟨Z,Z,Z,Z,Z,trivial⟩) ?_))))))));rintro a ⟨ha0,hA⟩;refine AD (AE (J (Az Z Z Z) (AC (AD (A7 Z (λA=>?_) (λA=>?_))))))
   .have z:a.length<p.ro.length:=BR A;refine AX (AD (A2 ?_));refine AD (AE (J (BC (a.length) Z Z (Z) (A3 z) underlying36 Z KY Z) (J (Ca Z Z Vz Z) (V (CA 6 R3 Z Z Z Z) (V (B4 Z Z Z Z Z Z Z KY) (AC (CD [[],[],[1],[],[3],[],[],[6],[5,6,7],[3,4,5,6,7,8],[1,2,3,4,5,6,7,8,9],[1,2,3,4,5,6,7,8,9,10],rg 12,rg 13] mixed Z (Bt ?_))))))));refine Ak 13 Z Z (AP [15] Z (AL Z EY Z Z Z) (Aj [62] Z Z (λ_=>A8 (BA Z Z Cc Z Z Z)) (AP [15] Z (AL Z PU Z Z Z) (Aj [64] Z Z (λ_=>A8 (AQ Z Z Z Fn Z)) (Ak 8 Z Z (AP [15] Z (AL Z EY Z Z Z) (Aj [67] Z Z (λ_=>A8 (BA Z Z Cc Z Z Z)) (Aj [66,68] Z Z (λ_=>A8 (IR (M) (p.ro[a.length].r) (0) _ Z Z Z CQ C4 Pp Z Z)) ?_))))))));have hr1:=K _ (ϑ z);have hr2:=hTb p.ro[a.length].r;have hr3:=I p.ro[a.length].r;refine AP [65,69] Z (Ah Z Z (Θ _ (by omega)) Z) (AP [63,70] Z (EI R3 pl88 Z Z Z) (F5 [71] [50] [(72,_)] Z Z (λ_=>F6 (C1 50 NX Z Z Z Z Z Z Z Z)) (.inr ⟨72,_,Z,Z,Z,Z,Z⟩) Z Z Z Z Z (Bk 12 Z Z Z (Ab 13 Z Z (V (Eu (a) ([⟨p.ro[a.length].r,p.ro[a.length].n+Ad M p.ro[a.length].r 0⟩]) Z Z Z Z Z Z Z Z NX (by simp only [υ];omega) Z Z Z Z) (AC ⟨Z,?_⟩))))));refine Ab 14 Z Z (AB Z Z (AC ⟨Z,?_⟩));refine Bx (AE (J (Ah Z Z (KR a (⟨p.ro[a.length].r,p.ro[a.length].n+Ad M p.ro[a.length].r 0⟩:Ae) (by omega)) Z) (goMv Z Z (AC ?_))));exact ⟨a++ [⟨p.ro[a.length].r,p.ro[a.length].n+Ad M p.ro[a.length].r 0⟩],⟨by rw [Δ];show a.length+1<=_;omega,by rw [Δ];show _=(Vl p l).take (a.length+1);rw [ψ (by unfold Vl;simpa using z),<-hA];congr 1;unfold Vl;simp [I]⟩,by rw [Δ];show p.ro.length - (a.length+1)<p.ro.length - a.length;omega,AU u [900,2] Z (Z) ⟨Z,Z,Z,Z,Z,trivial⟩⟩
   .refine Ar (AD ?_);have W:a=Vl p l:=by rw [hA];exact θ (by unfold Vl;rw [χ];have h:=A;omega)
    refine KP (emb:=Bl) 13 900 a Z Z Z Z Z Z Z (AE (goMv Z Z (AB Z Z (AB Z Z (AC (AZ ?_))))));exact ⟨_,[],[],AY Z,Z,Z,by rw [W],Z⟩
 .have X:=Wp p l Y hl j;rw [η j];refine Ax func113 Z Z ntmps113 Z Z Z λF u=>(AD (AE (V (Bi 1 Z Z Z Z Z Z Z) (AB Z Z (Yb 4 Z (AB Z Z ?_))))));refine AC (AD (AE (J (BA Z Z Br Z Z Z) (goMv Z Z (J (Aw (X) Z Z) (goMv Z Z (J (Di Z Z Z) (J (Di Z Z Z) ?_))))))));refine AB Z Z (AB Z Z (AC (AD (AD (AE (goMv Z Z (J (C7 Z Z Z) (AC ?_))))))));refine Bz Z ((ωf j)) (AD (AE (goMv Z Z (AB Z Z (Yb 4 Z (AB Z Z (AC (AZ ?_))))))));exact ⟨_,[],[],AY Z,Z,Z,Z,Z⟩
theorem VF (l:List Int) (c:l.length<=1000000):AT prog 89 [.d (.sl none (l.map AF))] [] λr b=>r= .own 20 0 l.length/\b=[(20,[.rowD 3 1 (l.map AF)])]:=by
 refine Ax func89 Z Z ntmps89 Z Z Z λF e=>(AD (AE (AB Z Z ?_)));skip;refine AC (AD (AD (AE (goMv Z Z (Fp 3 Z (λa=>?_) ?_)))))
 .refine J (Ea underlying28 Z Z) (AC (Bz Z (Z) (AD (AE (AB Z Z (Xn 2 20 BT Z Z Z Z (AC (AZ ?_))))))));exact ⟨_,[20],_,AY Z,Z,Z,by rw [<-χ (f:=AF),a];rfl,by rw [a]⟩
 .refine J (Ea underlying28 Z Z) ?_;refine AC (Cu Z (Z) (AX (AD (AE (V (C1 20 BT Z Z Z Z Z Z Z Z) (goMv Z Z (V (QR (([]:List Int)) (l) Z Z Z Z Z Z (λ_=>rfl) BT (by simp only [χc];omega) Z Z Z Z) (AB Z Z ?_))))))));skip;refine AC (AZ ?_);exact ⟨_,[20],_,AY Z,Z,Z,by simp,by simp⟩
def B8 (p:Prb) (id:Int):AJ:=p.it.getD ((p.it.map AJ.id).idxOf id) Ag
theorem LF {p:Prb} {id:Int} (h:id∈p.it.map AJ.id):∃b:(p.it.map AJ.id).idxOf id<p.it.length,W3 id (p.it.map AJ.id)=(((p.it.map AJ.id).idxOf id:Nat):Int)/\B8 p id=p.it[(p.it.map AJ.id).idxOf id]/\(B8 p id).id=id:=by
 have b:(p.it.map AJ.id).idxOf id<(p.it.map AJ.id).length:=List.idxOf_lt_length_iff.2 h;have a:(p.it.map AJ.id).idxOf id<p.it.length:=by simpa using b
 have c:B8 p id=p.it[(p.it.map AJ.id).idxOf id]:=FF Ag a;refine ⟨a,ς h,c,?_⟩;have d:=List.getElem_idxOf b
 grind
theorem cm {m:List c} (h:d.Perm m) (f:c ->Int):(d.map f).sum=(m.map f).sum:=by
 induction h with
 | nil=>rfl
 | cons x _ e=>simp [e]
 | swap x y d=>simp;omega
 | trans _ _ b a=>rw [b,a]
theorem WY (l:List Ae) (j:l.length<=100000):AM prog 92 [.d (.sl none (l.map Bl))] (.sl none (l.map Bl)):=by
 refine Ax func92 Z Z ntmps92 Z Z Z λF g=>(AD (AE (AB Z Z (AC (AD (AE (AB Z Z ?_)))))));refine AC (AD (AD (NR 3 900 ZL Z Z Z Z (AE (AB Z Z (AC (A2 (BO (α:=List Ae) (λa=>⟨27,[(0,.d (.sl none (l.map Bl))),(3,(.own 900 0 a.length)),(4,(.d (AF (a.length:Int))))],[(900,[.rowD 100 7 (a.map Bl)])]⟩) (λa=>a=l.take a.length/\a.length<=l.length) (λa=>l.length - a.length) ([]) (⟨by simp,ζ _⟩) (AU g [900] Z Z ⟨Z,Z,Z,trivial⟩) ?_))))))));rintro a ⟨f,i⟩;refine AD (AD (AE (goMv Z Z (goMv Z Z (J (BU Z underlying36 Z) (J (Az Z Z Z) (AC (A7 Z (λe=>?_) (λe=>?_)))))))))
 .have b:a.length<l.length:=BR e;refine AX (AD (A2 (CD [[],[],[],[1,2],[1,2,3],[1,2,3,4],[1,2,3,4,5],[],[],[7,8],[7,8,9],[7,8,9,10],[1,2,3,4,5,6,7,8,9,10,11],[1,2,3,4,5,6,7,8,9,10,11,12],rg 14,rg 15] mixed Z (Bt ?_))));refine Ak 3 Z Z (Ak 0 Z Z (Ak 4 Z Z (AP [12,13] Z (BC (a.length) Z Z (Z) (A3 b) underlying36 Z KY Z) (AP [14] Z (V3 Z EY Z Z Z) (AP [15] Z (Ca Z Z Cc Z) (AP [16] Z (Aw (aZ l[a.length].r) Z Z) (Ak 0 Z Z (Ak 4 Z Z ?_))))))));refine AP [18,19] Z (BC (a.length) Z Z (Z) (A3 b) underlying36 Z KY Z) (AP [20] Z (NP Z PU Z Z Z) (AP [21] Z (CF Z Z Fn Z) (AP [17,22] Z (EI zl100 pl100 Z Z Z) (F5 [23] [50] [(24,_)] Z Z (λ_=>F6 (C1 50 ZL Z Z Z Z Z Z Z Z)) (.inr ⟨24,_,Z,Z,Z,Z,Z⟩) Z Z Z Z Z (Bk 14 Z Z Z (Ab 15 Z Z (V (Eu (a) ([l[a.length]]) Z Z Z Z Z Z Z Z ZL (by simp only [υ];omega) Z Z Z Z) (AC ⟨Z,?_⟩))))))));refine Ab 16 Z Z (AB Z Z (AC ⟨Z,?_⟩));refine Bx (AE (goMv Z Z (J (Ah Z Z (KR a l[a.length] (by omega)) Z) (AB Z Z (AC ?_)))));exact ⟨a++ [l[a.length]],⟨GR f b,by rw [Δ];show a.length+1<=_;omega⟩,by rw [Δ];show l.length - (a.length+1)<l.length - a.length;omega,AU g [900] Z (Z) ⟨Z,Z,Z,trivial⟩⟩
 .refine Ar (AD ?_);have c:=IW f (λh=>e (by omega));refine KP (emb:=Bl) 3 900 a Z Z Z Z Z Z Z (AE (goMv Z Z (AB Z Z (AC (AZ ?_)))));exact ⟨_,[],[],AY Z,Z,Z,by rw [c],Z⟩
theorem back_p (p:Prb) (m:p.ro.length<=100000) (n:p.it.length<=100000) (l:∀i∈p.it,i.po.length<=10000/\i.pa.length<=10000/\i.af.length<=10000):AM prog 37 [.d (Bg p)] (Bg p):=by
 refine Ax func37 Z Z ntmps37 Z Z Z λF g=>(AD (AE (V (Bi 1 Z Z Z Z Z Z Z) (V (CA 2 av Z Z Z Z) ?_))));refine AC (AD (AE (J (AL Z DF Z Z Z) (J (AQ Z Z Z ML Z) (J (Aw (WY p.ro m) Z Z) (J (EI av pl25 Z Z Z) (V (CA 3 av Z Z Z Z) (V (B4 Z Z Z Z Z Z Z sz25) ?_))))))));refine AC (AD (AD (XA 3 0 1 902 J8 Z Z Z Z Z Z Z (AE (AB Z Z (AC (A2 (BO (α:=List AJ) (λa=>⟨28,[(1,(.ptr 1 0 0)),(2,(.ptr 2 0 0)),(3,(.ptr 3 0 0)),(4,(.d (AF (a.length:Int))))],[(902,[.rowD 93 6 (a.map Af)]),(1,[Dq 39 p]),(2,[.blk 25 [Ex,Ex]]),(3,[.blk 25 [.d (.sl none (p.ro.map Bl)),.own 902 0 a.length]])]⟩) (λa=>a=p.it.take a.length/\a.length<=p.it.length) (λa=>p.it.length - a.length) ([]) (⟨by simp,ζ _⟩) (AU g [902,1,2,3] Z Z ⟨Z,Z,Z,Z,trivial⟩) ?_))))))));rintro a ⟨f,j⟩;refine AD ?_;refine AD (AE (goMv Z Z (J (AL Z Sd Z Z Z) (J (AQ Z Z Z Hc Z) (J (BU Z underlying37 Z) (J (Az Z Z Z) (AC (A7 Z (λe=>?_) (λe=>?_)))))))))
 .have b:a.length<p.it.length:=BR e;refine AX ?_;refine AD (A2 (CD [[],[0],[],[2],[],[2,3,4],[2,3,4,5],[2,3,4,5,6],[2,3,4,5,6,7],rg 9,rg 10,rg 11] mixed Z (Bt (AP [3] Z (AL Z J6 Z Z Z) (Aj [16] Z Z (λ_=>A8 (AQ Z Z Z DM Z)) (AP [1] Z (AL Z Sd Z Z Z) (Aj [18] Z Z (λ_=>A8 (AQ Z Z Z Hc Z)) (Ak 4 Z Z ?_))))))));have k:=l _ (ϑ b);refine AP [19,20] Z (BC (a.length) Z Z (Z) (A3 b) underlying37 Z Cm Z) (AP [21] Z (Ca Z Z CO Z) (AP [22] Z (Aw (Wt p.it[a.length] (by omega) (by omega) (by omega)) Z Z) (F5 [23] [51] [(24,_)] Z Z (λ_=>F6 (C1 51 J8 Z Z Z Z Z Z Z Z)) (.inr ⟨24,_,Z,Z,Z,Z,Z⟩) Z Z Z Z Z (Bk 9 Z Z Z (Ab 10 Z Z (V (Eu (a) ([p.it[a.length]]) Z Z Z Z Z Z Z Z J8 (by simp only [υ];omega) Z Z Z Z) (AC ⟨Z,?_⟩)))))));refine Ab 11 Z Z (J (AL Z J6 Z Z Z) (AC ⟨Z,?_⟩));refine Ab 12 Z Z (V (B4 Z Z Z Z Z Z Z sz23) (AC ⟨Z,?_⟩));refine Bx (AE (goMv Z Z (J (Ah Z Z (KR a p.it[a.length] (by omega)) Z) (AB Z Z (AC ?_)))));exact ⟨a++ [p.it[a.length]],⟨GR f b,by rw [Δ];show a.length+1<=_;omega⟩,by rw [Δ];show p.it.length - (a.length+1)<p.it.length - a.length;omega,AU g [902,1,2,3] Z (Z) ⟨Z,Z,Z,Z,trivial⟩⟩
 .refine Ar (AD ?_);have c:=IW f (λh=>e (by omega));refine Va (ys:=p.it.map Af) 3 0 1 902 Z Z Z (by simp) (by rw [c];exact θ (by simp)) Z Z Z Z Z Z (AE (J (BA Z Z ED Z Z Z) (V (B4 Z Z Z Z Z Z Z sz25) (AC (AZ ?_)))));exact ⟨_,[],[],AY Z,Z,Z,Z,Z⟩
abbrev Hd:=Option (Nat×Nat)
def hdrV:Hd ->Nat ->Value
 | none,_=> .slice none 0 0
 | some (b,c),n=>sV b n c
abbrev hdr (h:Hd) (n:Nat):D:= .raw (hdrV h n)
structure Nd where
 it:AJ
 eh:Hd
 ef:List (Nat×Int)
 ph:Hd
 pl:List (Nat×Nat)
 on:Bool
structure Po where
 r:AW
 room:Int
 sum:Int
 qh:Hd
 q:List Nat
 mi:Nat
structure Net where
 nd:List Nd
 po:List Po
 nh:Hd
 mh:Hd
abbrev ndC (x:Nd):List D:=[AF x.it.id,AF x.it.pr,AF x.it.sq,.sl none (x.it.po.map BV),.sl none (x.it.pa.map C8),.sl none (x.it.af.map AF),hdr x.eh x.ef.length,hdr x.ph x.pl.length,Am x.on]
abbrev poC (y:Po):List D:=[AF y.r.k,Aq y.r.acc.o,AF y.r.acc.k,Aq y.r.acc.a,Aq y.r.f,Aq y.r.t,AF y.room,AF y.sum,hdr y.qh y.q.length,AF (y.mi:Int)]
abbrev et (pb:Nat ->Nat) (e:Nat×Int):D:= .agg [pD (pb e.1) 0,AF e.2]
abbrev plD (pb:Nat ->Nat) (e:Nat×Nat):D:= .agg [pD (pb e.1) 0,AF (e.2:Int)]
abbrev B3 (b:Nat):D:=pD b 0
def B2 (M:MF) (h:Hd) (t:TypeId) (k:Nat) (xs:List D):Prop:=match h with
 | none=>xs=[]
 | some (b,c)=>xs.length<=c/\M b=some (.row t k c xs)
abbrev V8 (x:Nd):Ap:= .cells 184 (ndC x)
abbrev V7 (y:Po):Ap:= .cells 190 (poC y)
variable {z:Hd}
theorem WD {e:Ap} (f:M j=some (.cells s t)) {d:List D} (a:B2 M z u q d):B2 (B6 M j e) z u q d:=by
 match z,a with
 | none,a=>exact a
 | some (g,c),a=>
  grind [B2,B6]
abbrev MD (v:Value):D:= .raw v
def Co:Po:=⟨⟨0,Sc,[],[]⟩,0,0,none,[],0⟩
def CT:Nd:=⟨Ag,none,[],none,[],false⟩
structure RowM where
 h:Hd
 t:TypeId
 k:Nat
 xs:List D
inductive RI where
 | e (i:Nat)
 | p (i:Nat)
 | q (j:Nat)
 | n
 | m
def Ch (nb pb:Nat ->Nat) (N:Net):RI ->RowM
 | .e i=>⟨(N.nd.getD i CT).eh,188,2,(N.nd.getD i CT).ef.map (et pb)⟩
 | .p i=>⟨(N.nd.getD i CT).ph,254,2,(N.nd.getD i CT).pl.map (plD pb)⟩
 | .q j=>⟨(N.po.getD j Co).qh,176,1,(N.po.getD j Co).q.map λi=>B3 (nb i)⟩
 | .n=>⟨N.nh,176,1,(List.range N.nd.length).map λi=>B3 (nb i)⟩
 | .m=>⟨N.mh,186,1,(List.range N.po.length).map λj=>B3 (pb j)⟩
def FH (M:MF) (R:RI ->RowM):Prop:=(∀r,B2 M (R r).h (R r).t (R r).k (R r).xs)/\∀r r' b c c',(R r).h=some (b,c) ->(R r').h=some (b,c') ->r=r'
def Bj (M:MF):Hd ->MF
 | none=>M
 | some (b,_)=>FE M b
variable {R:RI ->RowM}
theorem FH.blk (h:FH M R) {r:RI} {c:Nat} (a:(R r).h=some (j,c)):M j=some (.row (R r).t (R r).k c (R r).xs):=by
 have:=h.1 r;rw [a] at this;exact this.2
theorem Jx {h:Hd} (d:M j=some C) (a:∀c,h≠some (j,c)):Bj M h j=some C:=by
 match h,a with
 | none,_=>exact d
 | some (f,c),a=>
  show FE M f j=_;rw [He (λe=>a c (by rw [e]))];exact d
theorem keepM {a:Nat} {v:Ap} (f:Bj M z j=none) (e:M a=some C) (d:∀c,z≠some (a,c)):B6 (Bj M z) j v a=some C:=by grind [Jx,IB]
theorem FH.upd {R':RI ->RowM} (h:FH M R) (a:RI) (s:∀r,r≠a ->R' r=R r) {b cap:Nat} (q:Bj M (R a).h b=none) (v:(R' a).h=some (b,cap)) (o:(R' a).xs.length<=cap):FH (B6 (Bj M (R a).h) b (.row (R' a).t (R' a).k cap (R' a).xs)) R':=by
 have j:∀r,r≠a ->∀g c,(R r).h=some (g,c) ->g≠b:=λr n g c i e=>by
  have d:=h.blk i;have u:=Jx (h:=(R a).h) d λl f=>n (h.2 r a g c l i f)
  grind
 refine ⟨λr=>?_,λr D x c l d u=>?_⟩
 .by_cases e:r=a
  .subst e;rw [v];exact ⟨o,GF _ _ _⟩
  .rw [s r e];have d:=h.1 r
   cases hh:(R r).h with
   | none=>rw [hh] at d;exact d
   | some p=>
    obtain ⟨g,c⟩:=p;rw [hh] at d;exact ⟨d.1,keepM q d.2 λl f=>e (h.2 r a g c l hh f)⟩
 .by_cases e:r=a<;>by_cases w:D=a
  all_goals (grind [FH])
theorem FH.cells (h:FH M R) {a:List D} (c:M j=some (.cells u t)):FH (B6 M j (.cells s a)) R:=
 ⟨λr=>WD c (h.1 r),h.2⟩
structure C3 (wb mv:Nat) (nb pb:Nat ->Nat) (N:Net) (M:MF):Prop where
 n:∀(i:Nat) x,N.nd[i]? =some x ->M (nb i)=some (V8 x)
 p:∀(j:Nat) y,N.po[j]? =some y ->M (pb j)=some (V7 y)
 rs:FH M (Ch nb pb N)
 w:M wb=some (.cells 180 [hdr N.nh N.nd.length,hdr N.mh N.po.length,MD (.map (some mv))])
 ni:∀i j:Nat,i<N.nd.length ->j<N.nd.length ->nb i=nb j ->i=j
 pi:∀i j:Nat,i<N.po.length ->j<N.po.length ->pb i=pb j ->i=j
 e:∀x∈N.nd,(∀e∈x.ef,e.1<N.po.length)/\∀e∈x.pl,e.1<N.po.length
 q:∀y∈N.po,∀i∈y.q,i<N.nd.length
theorem Hn {a:c} (h:d[k]? =some x):d.getD k a=x:=by rw [Φ,h];rfl
variable {N:Net}
theorem C3.nn (b:C3 i h f e N M) (a:Nat) (x:Nd) (c:N.nd[a]? =some x):M (f a)=some (V8 x)/\B2 M x.eh 188 2 (x.ef.map (et e))/\B2 M x.ph 254 2 (x.pl.map (plD e)):=by
 have g:B2 M (N.nd.getD a CT).eh 188 2 ((N.nd.getD a CT).ef.map (et e)):=b.rs.1 (.e a);have d:B2 M (N.nd.getD a CT).ph 254 2 ((N.nd.getD a CT).pl.map (plD e)):=b.rs.1 (.p a);rw [Hn c] at g d;exact ⟨b.n a x c,g,d⟩
theorem C3.pp (b:C3 i h f e N M) (j:Nat) (y:Po) (c:N.po[j]? =some y):M (e j)=some (V7 y)/\B2 M y.qh 176 1 (y.q.map λa=>B3 (f a)):=by
 have d:B2 M (N.po.getD j Co).qh 176 1 ((N.po.getD j Co).q.map λa=>B3 (f a)):=b.rs.1 (.q j);rw [Hn c] at d;exact ⟨b.p j y c,d⟩
theorem Ep (e:k<d.length) (a:Nat) (b:c):(d.set k x).getD a b=if a=k then x else d.getD a b:=by grind
theorem RD (e:d[k]? =some x) (a:Nat) (b:c):d.getD a b=if a=k then x else d.getD a b:=by grind
variable {y:Po}
theorem C3.setPo {l A:Nat} {g a:Nat ->Nat} {N:Net} {M:MF} (h:C3 l A g a N M) {j:Nat} {y y':Po} (o:N.po[j]? =some y) (C:y'.q=y.q) (B:y'.qh=y.qh):C3 l A g a {N with po:=N.po.set j y'} (B6 M (a j) (V7 y')):=by
 have G:=h.p j y o;have u:=(φ.1 o).1
 have H:Ch g a {N with po:=N.po.set j y'}=Ch g a N:=funext λr=>by
  cases r with
  | e i=>rfl
  | p i=>rfl
  | n=>rfl
  | m=>show (⟨_,_,_,(List.range (N.po.set j y').length).map _⟩:RowM)=_;rw [ωr];rfl
  | q k=>
   show (⟨((N.po.set j y').getD k Co).qh,_,_,((N.po.set j y').getD k Co).q.map _⟩:RowM)=⟨(N.po.getD k Co).qh,_,_,(N.po.getD k Co).q.map _⟩
   grind
 have f:∀(b:Nat) (t:TypeId) (w:List D),t≠190 ->M b=some (.cells t w) ->B6 M (a j) (V7 y') b=some (.cells t w):=λb t w J K=>by
  grind [IB]
 refine ⟨λi x s=>f _ _ _ (by decide) (h.n i x s),λi z d=>?_,by rw [H];exact h.rs.cells G,?_,h.ni,λi k F E=>h.pi i k (by simpa using F) (by simpa using E),λx s=>?_,λz d=>?_⟩
 .have v:i<N.po.length:=by have:=(φ.1 d).1;rw [ωr] at this;exact this
  have c:(N.po.set j y')[i]? =some z:=d
  clear d
  rw [χw] at c
  split at c
  .grind [GF]
  .rename_i e
   rw [IB]
   .exact h.p i z c
   .intro I;exact e (h.pi i j v u I).symm
 .show B6 M (a j) (V7 y') l=some (.cells _ [hdr N.nh N.nd.length,hdr N.mh (N.po.set j y').length,_]);rw [ωr];exact f _ _ _ (by decide) h.w
 .have:=h.e x s
  simpa using this
 .rcases ψs d with d | rfl
  .exact h.q z d
  .rw [C];exact h.q y (ξ o)
theorem C3.setNd {l A:Nat} {a g:Nat ->Nat} {N:Net} {M:MF} (h:C3 l A a g N M) {i:Nat} {x x':Nd} (s:N.nd[i]? =some x) (H:x'.ef=x.ef) (O:x'.eh=x.eh) (G:x'.pl=x.pl) (L:x'.ph=x.ph):C3 l A a g {N with nd:=N.nd.set i x'} (B6 M (a i) (V8 x')):=by
 have E:=h.n i x s;have v:=(φ.1 s).1
 have F:Ch a g {N with nd:=N.nd.set i x'}=Ch a g N:=funext λr=>by
  cases r with
  | q j=>rfl
  | m=>rfl
  | n=>show (⟨_,_,_,(List.range (N.nd.set i x').length).map _⟩:RowM)=_;rw [ωr];rfl
  | e k=>
   show (⟨((N.nd.set i x').getD k CT).eh,_,_,((N.nd.set i x').getD k CT).ef.map _⟩:RowM)=⟨(N.nd.getD k CT).eh,_,_,(N.nd.getD k CT).ef.map _⟩
   grind
  | p k=>
   show (⟨((N.nd.set i x').getD k CT).ph,_,_,((N.nd.set i x').getD k CT).pl.map _⟩:RowM)=⟨(N.nd.getD k CT).ph,_,_,(N.nd.getD k CT).pl.map _⟩
   grind
 have f:∀(b:Nat) (t:TypeId) (w:List D),t≠184 ->M b=some (.cells t w) ->B6 M (a i) (V8 x') b=some (.cells t w):=λb t w J K=>by
  grind [IB]
 refine ⟨λj z d=>?_,λj y o=>f _ _ _ (by decide) (h.p j y o),by rw [F];exact h.rs.cells E,?_,λj k C B=>h.ni j k (by simpa using C) (by simpa using B),h.pi,λz d=>?_,λy o=>?_⟩
 .have u:j<N.nd.length:=by have:=(φ.1 d).1;rw [ωr] at this;exact this
  have c:(N.nd.set i x')[j]? =some z:=d
  clear d
  rw [χw] at c
  split at c
  .grind [GF]
  .rename_i e
   rw [IB]
   .exact h.n j z c
   .intro I;exact e (h.ni j i u v I).symm
 .show B6 M (a i) (V8 x') l=some (.cells _ [hdr N.nh (N.nd.set i x').length,hdr N.mh N.po.length,_]);rw [ωr];exact f _ _ _ (by decide) h.w
 .rcases ψs d with d | rfl
  .exact h.e z d
  .rw [H,G];exact h.e x (ξ s)
 .have:=h.q y o
  simpa using this
abbrev HN (M:MF):Hp:=[(40,[.multi M])]
def aftP (y:Po) (c:Int):Int:=max y.room 0+c
def Sm (y:Po) (c:Int):Bool:=decide (c<0/\aftP y c<0)
theorem after_c {b g:Nat} {e a:Nat ->Nat} {N:Net} {M:MF} (h:C3 b g e a N M) {j:Nat} {y:Po} (i:N.po[j]? =some y) (c:Int) (n: -1000000000000000000<=y.room/\y.room<=1000000000000000000) (o: -2000000000000000000<=c/\c<=2000000000000000000):
  AT prog 198 [.d (pD (a j) 0),.d (AF c)] (HN M) λr m=>r= .d (AF (aftP y c))/\m=HN M:=by
 have k:=h.p j y i;have l:(if 0>y.room then 0 else y.room)=max y.room 0:=by rw [Int.max_def];split<;>split<;>omega
 refine Ax func198 Z Z ntmps198 Z Z Z λF p=>(AD (AE (AB Z Z (AC (AD (AE (goMv Z Z ?_)))))));refine J (Dk Z Z) (J (Cg Z SP Z Z Z) (J (EG (f:=40) Z Z (k) Z Fn Z) (J (R9 Z Z (l) Z) (goMv Z Z (J (Ah Z Z (Θ _ (by omega)) Z) (AB Z Z (AC (AZ ?_))))))));exact ⟨_,[40],_,AY Z,Z,Z,Z,Z⟩
theorem NA (a:C3 i h f e N M) (b:N.po[p]? =some y) (c:Int) (g: -1000000000000000000<=y.room/\y.room<=1000000000000000000) (k: -2000000000000000000<=c/\c<=2000000000000000000):
  AT prog 150 [.d (pD (e p) 0),.d (AF c)] (HN M) λr n=>r= .d (Am (Sm y c))/\n=HN M:=by
 have l:=after_c a b c g k;refine Ax func150 Z Z ntmps150 Z Z Z λF o=>(AD ?_);refine AE (AB Z Z (AC (AD (AE (goMv Z Z (J (Az Z Z Z) (goMv Z Z (CX 7 Z (λm=>?_) (λm=>?_)))))))))
 .refine AR Z Z Z (goMv Z Z (AR Z Z Z ?_));refine goMv Z Z (AR Z Z Z (V (FG l Z [40] ⟨Z,trivial⟩ Z Z Z Z Z Z Z Z Z) (AR Z Z Z (J (Az Z Z Z) (J (BY Z Z Z Z) (AB Z Z (AC (AZ ?_))))))));exact ⟨_,[40],_,AY Z,Z,Z,O5 (by unfold Sm;first | exact (ωh (by omega)).symm | exact decide_eq_decide.2 ⟨λa=>⟨by omega,a⟩,λa=>a.2⟩),Z⟩
 .refine AI Z Z Z Z (AI Z Z Z Z (AI Z Z Z Z (AI Z Z Z Z (J (Bf Z Z Z Z) (AB Z Z (AC (AZ ?_)))))));exact ⟨_,[40],_,AY Z,Z,Z,O5 (by unfold Sm;first | exact (ωh (by omega)).symm | exact decide_eq_decide.2 ⟨λa=>⟨by omega,a⟩,λa=>a.2⟩),Z⟩
section
variable {P:Program} {F:Fr} {s:AS} {d:Nat} {x y:Operand} {T E:TypeId} {ty:TypeId} {pos:String} {aft:Array Edge} {g:Option (Nat×Bool)} {k:IntKind} {i:Int}
variable {h:Hd} {n:Nat}
theorem Wz {h:Hd} {n:Nat} (j:h=none ->n=0) (f:s.ev x=some (.d (hdr h n))) (m:P.underlying T=some (.slice E)) (l:Nat.blt d s.n=true):
  AA P F ⟨some d,.call {callee:= .builtin .len,args:= #[x],argTypes:= #[T]},ty,pos,aft,g⟩ s d (.d (AF (n:Int))):=by
 match h,j,f with
 | none,j,f=>
  have e:=j rfl;subst e;exact XX (a:=none) (n:=0) (cap:=0) f m l
 | some (b,c),_,f=>exact XX (a:=some ⟨b,0,none⟩) (n:=n) (cap:=c) f m l
theorem XC {b c a:Nat} (o:h=some (b,c)) (m:Nat) (f:s.ev x=some (.d (hdr h n))) (e:s.ev y=some (.d (.raw (.int k i)))) (l:i=(m:Int)) (j:m<n) (q:P.underlying T=some (.slice E)) (r:A5 P E a=true) (p:Nat.blt d s.n=true):
  AA P F ⟨some d,.indexAddr T x y,ty,pos,aft,g⟩ s d (.d (pD b (m*a))):=by
 subst o;exact ZE m f e l j q r p
end
variable {a:Type} {c:List a} {d:List Po} {M:MF} {k:Nat} {t:TypeId} {h:Hd} {f:a ->D} {e g:Nat ->Nat} {i:Nat} {N:Net} {y:Po} {j m:Nat}
theorem V2 (b:B2 M h t k (c.map f)):h=none ->c.length=0:=λe=>by
 subst e;have:c.map f=[]:=b
 simpa using this
theorem Vd (e:B2 M h t k (c.map f)) {j:Nat} (g:j<c.length):∃b d,h=some (b,d):=by
 cases h with
 | none=>have:=V2 e rfl;omega
 | some p=>exact ⟨p.1,p.2,Z⟩
theorem Sp {a:List D} (d:B2 M h t k a) {b c:Nat} (e:h=some (b,c)):M b=some (.row t k c a):=by
 subst e;exact d.2
def NW (po:List Po) (e:Nat×Int):List Po:=match po[e.1]? with
 | some y=>po.set e.1 {y with sum:=y.sum - e.2}
 | none=>po
def QH (po:List Po) (e:Nat×Nat):List Po:=match po[e.1]? with
 | some y=>po.set e.1 {y with mi:=min y.mi e.2}
 | none=>po
theorem subE_at {e:Nat×Int} (h:d[e.1]? =some y):NW d e=d.set e.1 {y with sum:=y.sum - e.2}:=by unfold NW;rw [h]
theorem Xx {e:Nat×Nat} {y:Po} (h:d[e.1]? =some y):QH d e=d.set e.1 {y with mi:=min y.mi e.2}:=by unfold QH;rw [h]
def El (x:Nd):Nd:={x with on:=false}
def rmN (N:Net) (i:Nat) (x:Nd):Net:={N with nd:=N.nd.set i (El x),po:=x.pl.foldl QH (x.ef.foldl NW N.po)}
theorem M6 {d:Type} {f:d ->a ->d} (e:k<c.length) (b:d):(c.take (k+1)).foldl f b=f ((c.take k).foldl f b) c[k]:=by
 rw [ψ e,List.foldl_append];rfl
def TJ (po:List Po) (b:Int):Prop:=∀y∈po,-b<=y.sum/\y.sum<=b
theorem ba {b c:Int} (h:TJ d b) (f:b<=c) {j:Nat} (e: -c<=y.sum/\y.sum<=c):TJ (d.set j y) c:=λz a=>by
 rcases ψs a with a | rfl
 .have:=h z a;omega
 .exact e
theorem cX {X Y:Nat} {u E:Nat ->Nat} {N:Net} {M:MF} (h:C3 X Y u E N M) {i:Nat} {x:Nd} (t:N.nd[i]? =some x) (hB:TJ N.po 1000000000000000000) (he:∀e∈x.ef,-100000000000000000<=e.2/\e.2<=100000000000000000) (hel:x.ef.length<=60) (hpl:x.pl.length<=1000) (hpb:∀e∈x.pl,e.2<=1000000) (hmb:∀y∈N.po,y.mi<=1000000):
  AT prog 140 [.d (pD (u i) 0)] (HN M) λr H'=>r= .tup []/\∃M',H'=HN M'/\C3 X Y u E (rmN N i x) M':=by
 have hxb:=(h.nn i x t).1;have hil:=(φ.1 t).1;have h1:=h.setNd (x':=El x) t Z Z Z Z;have v:(N.nd.set i (El x))[i]? =some (El x):=by rw [List.getElem?_set_self hil]
 have hez:=V2 (h.nn i x t).2.1;have hpz:=V2 (h.nn i x t).2.2;have L:=h.e x (ξ t);refine Ax func140 Z Z ntmps140 Z Z Z λF hF=>(AD ?_);refine AE (goMv Z Z (J (Dk Z Z) (J (Cg Z FR Z Z Z) (V (QT (f:=40) Z Z Z Z (hxb) ((by show _<9;omega)) Z sz4) (AC (AD (AD (AE ?_))))))));refine goMv Z Z (J (Dk Z Z) (J (Cg Z LT Z Z Z) (J (EG (f:=40) Z Z ((GF _ _ _)) Z Xg Z) (J (Wz hez Z underlying181 Z) (goMv Z Z (AC (A2 (BO (α:=Nat×List Po×MF) (λq=>⟨51,[(0,.d (pD (u i) 0)),(12,(.d (hdr x.eh x.ef.length))),(13,(.d (AF (x.ef.length:Int)))),(14,(.d (AF (q.1:Int))))],HN q.2.2⟩) (λq=>q.1<=x.ef.length/\q.2.1=(x.ef.take q.1).foldl NW N.po/\C3 X Y u E {N with nd:=N.nd.set i (El x),po:=q.2.1} q.2.2/\TJ q.2.1 (1000000000000000000+100000000000000000*(q.1:Int))/\(∀y∈q.2.1,y.mi<=1000000)/\q.2.1.length=N.po.length) (λq=>x.ef.length - q.1) ((0,N.po,B6 M (u i) (V8 (El x)))) (⟨ζ _,Z,h1,by show TJ N.po (1000000000000000000+100000000000000000*((0:Nat):Int));simpa using hB,hmb,Z⟩) (AU hF [40] Z Z ⟨Z,Z,Z,Z,trivial⟩) ?_))))))));rintro ⟨k,po,M1⟩ ⟨hk0,B,G,hS,p,b⟩;dsimp only at hk0 B G hS p b⊢;refine AD (AE (J (Az Z Z Z) (AC (AD (A7 Z (λD=>?_) (λD=>?_))))))
 .have g:k<x.ef.length:=BR D;refine AX (AD (A2 (AD ?_)));obtain ⟨eb,ec,W⟩:=Vd (h.nn i x t).2.1 g;have P:=Sp (G.nn i (El x) v).2.1 W;have hjl:x.ef[k].1<po.length:=by rw [b];exact L.1 _ (ϑ g)
  obtain ⟨y,K⟩:∃y,po[x.ef[k].1]? =some y:=⟨_,ω hjl⟩
  have I:=G.p _ y K;have hys:=hS y (ξ K);have heb:=he _ (ϑ g);refine AE ?_;refine J (XC W (k) Z Z Z g underlying181 TF Z) (J (EL (f:=40) (e:=k) Z (Z) Z (P) (A3 g) Z cF Z) (V (CA 1 az Z Z Z Z) (V (B4 Z Z Z Z Z Z Z TF) (AC (CD [[],[0],[0,1],[0,1,2],[0,1,2,3],[],[5],rg 7,rg 8,rg 9,rg 10] mixed Z (Bt (AP [3] Z (AL Z SS Z Z Z) (As [18] [1] Z Z (λ_=>A8 (AQ Z Z Z FD Z)) ?_))))))));refine AP [19] Z (Dk Z Z) (AP [20] Z (Cg Z LR Z Z Z) (As [21] [40] Z Z (λ_=>A8 (EG (f:=40) Z Z (I) Z Fn Z)) (AP [3] Z (AL Z SQ Z Z Z) (As [23] [1] Z Z (λ_=>A8 (AQ Z Z Z Fn Z)) (Bk 7 Z Z Z (Ab 8 Z Z (J (KL Z Z (Θ _ (by omega)) Z) (AC ⟨Z,?_⟩))))))));refine Ab 9 Z Z (J (Dk Z Z) (AC ⟨Z,?_⟩));refine Ab 10 Z Z (J (Cg Z LR Z Z Z) (AC ⟨Z,?_⟩));refine Ab 11 Z Z (V (QT (f:=40) Z Z Z Z (I) ((by show _<10;omega)) Z sz2) (AC ⟨Z,?_⟩));refine Bx (AE (J (Ah Z Z (AK (k+1) (by omega)) Z) (goMv Z Z (AC ?_))));exact ⟨(k+1,po.set x.ef[k].1 {y with sum:=y.sum - x.ef[k].2},B6 M1 (E x.ef[k].1) (V7 {y with sum:=y.sum - x.ef[k].2})),⟨by show k+1<=_;omega,by show po.set _ _=_;rw [M6 g,<-B,subE_at K],G.setPo K Z Z,by show TJ _ (1000000000000000000+100000000000000000*((k+1:Nat):Int));exact ba hS (by omega) (by show _<=y.sum - x.ef[k].2/\y.sum - x.ef[k].2<=_;omega),λz s=>by rcases ψs s with s | rfl;exact p z s;exact p y (ξ K),by show (po.set _ _).length=_;rw [ωr];exact b⟩,by show x.ef.length - (k+1)<x.ef.length - k;omega,AU hF [40] Z (Z) ⟨Z,Z,Z,Z,trivial⟩⟩
 .refine Ar (AD ?_);have R:po=x.ef.foldl NW N.po:=by rw [B,θ (by have h:=D;omega)]
  have O:=(G.nn i (El x) v).1;refine AE ?_;refine goMv Z Z (J (Dk Z Z) (J (Cg Z LS Z Z Z) (J (EG (f:=40) Z Z (O) Z Xf Z) (J (Wz hpz Z underlying182 Z) (goMv Z Z (AC (A2 (BO (α:=Nat×List Po×MF) (λq=>⟨51,[(32,(.d (hdr x.ph x.pl.length))),(33,(.d (AF (x.pl.length:Int)))),(34,(.d (AF (q.1:Int))))],HN q.2.2⟩) (λq=>q.1<=x.pl.length/\q.2.1=(x.pl.take q.1).foldl QH (x.ef.foldl NW N.po)/\C3 X Y u E {N with nd:=N.nd.set i (El x),po:=q.2.1} q.2.2/\(∀y∈q.2.1,y.mi<=1000000)/\q.2.1.length=N.po.length) (λq=>x.pl.length - q.1) ((0,po,M1)) (⟨ζ _,R,G,p,b⟩) (AU hF [40] Z Z ⟨Z,Z,Z,trivial⟩) ?_))))))));rintro ⟨j,c,M2⟩ ⟨hj0,l,o,m,a⟩;dsimp only at hj0 l o m a⊢;refine AD (AE (J (Az Z Z Z) (AC (AD (A7 Z (λC=>?_) (λC=>?_))))))
  .have n:j<x.pl.length:=BR C;refine AX (AD (A2 (AD ?_)));obtain ⟨pbk,pcc,S⟩:=Vd (h.nn i x t).2.2 n;have A:=Sp (o.nn i (El x) v).2.2 S;have U:x.pl[j].1<c.length:=by rw [a];exact L.2 _ (ϑ n)
   obtain ⟨z,s⟩:∃z,c[x.pl[j].1]? =some z:=⟨_,ω U⟩
   have H:=o.p _ z s;have hzm:=m z (ξ s);have T:(if ((x.pl[j].2:Nat):Int)<((z.mi:Nat):Int) then ((x.pl[j].2:Nat):Int) else ((z.mi:Nat):Int))=((min z.mi x.pl[j].2:Nat):Int):=by split<;>omega
   refine AE (J (XC S (j) Z Z Z n underlying182 QX Z) (J (EL (f:=40) (e:=j) Z (Z) Z (A) (A3 n) Z cD Z) (V (CA 2 XE Z Z Z Z) ?_)));refine V (B4 Z Z Z Z Z Z Z QX) (AC (CD [[],[0],[],[2],[2,3],[2,3,4],[2,3,4,5],[],[7],[2,3,4,5,6,7,8],rg 10,rg 11,rg 12] mixed Z (Bt (AP [5] Z (AL Z Ht Z Z Z) (As [38] [2] Z Z (λ_=>A8 (AQ Z Z Z FD Z)) (AP [5] Z (AL Z Ht Z Z Z) (As [40] [2] Z Z (λ_=>A8 (AQ Z Z Z FD Z)) (AP [41] Z (Dk Z Z) ?_))))))));refine AP [42] Z (Cg Z LQ Z Z Z) (As [43] [40] Z Z (λ_=>A8 (EG (f:=40) Z Z (H) Z Ai Z)) (AP [5] Z (AL Z SO Z Z Z) (As [45] [2] Z Z (λ_=>A8 (AQ Z Z Z Ai Z)) (AP [44,46] Z (Lp Z Z (T) Z) (Bk 10 Z Z Z (Ab 11 Z Z (J (Dk Z Z) (AC ⟨Z,?_⟩))))))));refine Ab 12 Z Z (J (Cg Z LQ Z Z Z) (AC ⟨Z,?_⟩));refine Ab 13 Z Z (V (QT (f:=40) Z Z Z Z (H) ((by show _<10;omega)) Z BD) (AC ⟨Z,?_⟩));refine Bx ?_;skip;refine AE (J (Ah Z Z (AK (j+1) (by omega)) Z) (goMv Z Z (AC ?_)));exact ⟨(j+1,c.set x.pl[j].1 {z with mi:=min z.mi x.pl[j].2},B6 M2 (E x.pl[j].1) (V7 {z with mi:=min z.mi x.pl[j].2})),⟨by show j+1<=_;omega,by show c.set _ _=_;rw [M6 n,<-l,Xx s],o.setPo s Z Z,λw hw=>by rcases ψs hw with hw | rfl;exact m w hw;show min z.mi _<=_;omega,by show (c.set _ _).length=_;rw [ωr];exact a⟩,by show x.pl.length - (j+1)<x.pl.length - j;omega,AU hF [40] Z (Z) ⟨Z,Z,Z,trivial⟩⟩
  .refine Ar ?_;have Q:c=x.pl.foldl QH (x.ef.foldl NW N.po):=by rw [l,θ (by have h:=C;omega)]
   exact ⟨_,[40],_,AY Z,Z,Z,Z,M2,Z,by unfold rmN;rw [<-Q];exact o⟩
def B9 (N:Net):List Int:=N.nd.map λx=>x.it.id
def G3 (nb:Nat ->Nat) (ids:List Int):List (Int×Value):=(List.range ids.length).map λi=>(ids.getD i 0,pV (nb i) 0)
theorem Sb {nb:Nat ->Nat} {a:List Int} (c:a.Nodup) (b:i<a.length):Ad (G3 nb a) a[i] (.pointer none)=pV (nb i) 0:=by
 refine Dc ?_ (Ξ.2 ⟨i,Ψ.2 b,by rw [FF 0 b]⟩)
 have:(G3 nb a).map Prod.fst=a:=by
  unfold G3;rw [ωt];refine ψk (by simp) λj e d=>?_
  grind
 grind
abbrev HW (mv:Nat) (bs:Option (List Nat×Nat)) (L:List (Int×Value)) (M:MF):Hp:=[(40,[.multi M]),(50,[.map bs (B5 AF MD L)]),(51,[.addr 50 0 (.map (some mv))])]
structure Pw where
 id:Int
 re:Int
 r:AW
 by_:Int
def GN:AW:=⟨0,Sc,[],[]⟩
def exc0:Pw:=⟨0,0,GN,0⟩
abbrev ee (e:Pw):D:= .agg [AF e.id,AF e.re,AF e.r.k,Aq e.r.acc.o,AF e.r.acc.k,Aq e.r.acc.a,Aq e.r.f,Aq e.r.t,AF e.by_]
abbrev excR (o:Option Pw):D:= .tup [ee (o.getD exc0),Am o.isSome]
def VP (N:Net) (e:Nat×Nat):Bool:=decide ((N.po.getD e.1 Co).mi<e.2)
def ed (N:Net) (x:Nd) (e:Nat×Nat):Pw:=⟨x.it.id,1,(N.po.getD e.1 Co).r,(N.nd.getD ((N.po.getD e.1 Co).q.getD (N.po.getD e.1 Co).mi 0) CT).it.id⟩
def Dt (N:Net) (id:Int):Bool:=!(N.nd.getD ((B9 N).idxOf id) CT).on
def IJ (N:Net) (x:Nd):Option Pw:=match x.pl.find? (VP N) with
 | some e=>some (ed N x e)
 | none=>match x.it.af.find? (Dt N) with
  | some id=>some ⟨x.it.id,2,GN,id⟩
  | none=>none
theorem SJ {b:Type} {p:b ->Bool}:∀{l:List b} {k:Nat} (c:k<l.length),(∀x∈l.take k,p x=false) ->p l[k]=true ->l.find? p=some l[k]
 | a::l,0,_,_,h=>by simp at h;simp [h]
 | a::l,k+1,c,d,h=>by
  have g:p a=false:=d a (by simp);have e:=SJ (l:=l) (k:=k) (by simpa using c) (λx f=>d x (by simp [f])) (by simpa using h);rw [List.find?_cons,g];simpa using e
theorem RG {p:a ->Bool} (h:∀x∈c,p x=false):c.find? p=none:=by grind
structure NetW (N:Net):Prop where
 i:(B9 N).Nodup
 a:∀x∈N.nd,∀id∈x.it.af,id∈B9 N
 l:∀x∈N.nd,x.ef.length<=60/\x.pl.length<=1000/\x.it.af.length<=1000
 e:∀x∈N.nd,∀e∈x.ef,-100000000000000000<=e.2/\e.2<=100000000000000000
 p:∀x∈N.nd,∀e∈x.pl,e.2<(N.po.getD e.1 Co).q.length/\e.2<=1000000
 m:∀y∈N.po,y.mi<=1000000
 rm:∀y∈N.po,-1000000000000000000<=y.room/\y.room<=1000000000000000000
 n:N.nd.length<=1000/\N.po.length<=1000
 ql:∀y∈N.po,y.q.length<=1000
set_option maxHeartbeats 1000000 in
theorem inadm_c {U E:Nat} {nb pb:Nat ->Nat} {N:Net} {M:MF} (Y:Option (List Nat×Nat)) (h:C3 U E nb pb N M) (W:NetW N) {i:Nat} {x:Nd} (hx:N.nd[i]? =some x):
  AT prog 193 [.d (pD U 0),.d (pD (nb i) 0)] (HW E Y (G3 nb (B9 N)) M) λr H'=>r= .d (excR (IJ N x))/\H'=HW E Y (G3 nb (B9 N)) M:=by
 have hwb:=h.w;have m:=ξ hx;obtain ⟨n,hre,v⟩:=h.nn i x hx;have hpz:=V2 v;obtain ⟨_,hpl,hafl⟩:=W.l x m;have hxe:=h.e x m;have hxp:=W.p x m;have hxa:=W.a x m;refine Ax func193 Z Z ntmps193 Z Z Z λF X=>(AD (AE (V (CA 1 Jg Z Z Z Z) (AB Z Z (AC (AD (AD (AE ?_))))))));refine goMv Z Z (J (Dk Z Z) (J (Cg Z LS Z Z Z) (J (EG (f:=40) Z Z (n) Z Xf Z) (J (Wz hpz Z underlying182 Z) (goMv Z Z (AC (A2 (BO (α:=Nat) (λk=>⟨85,[(0,.d (pD U 0)),(1,.d (pD (nb i) 0)),(4,(.ptr 1 0 0)),(13,(.d (hdr x.ph x.pl.length))),(14,(.d (AF (x.pl.length:Int)))),(15,(.d (AF (k:Int))))],(1,[.blk 245 [.d (AF 0),.d (AF 0),.d (AF 0),.d (Aq []),.d (AF 0),.d (Aq []),.d (Aq []),.d (Aq []),.d (AF 0)]])::HW E Y (G3 nb (B9 N)) M⟩) (λk=>k<=x.pl.length/\∀e∈x.pl.take k,VP N e=false) (λk=>x.pl.length - k) (0) (⟨ζ _,by simp⟩) (AU X [1,40,50,51] Z Z ⟨Z,Z,Z,Z,Z,Z,trivial⟩) ?_))))))));rintro k ⟨hk0,o⟩;refine AD (AE (J (Az Z Z Z) (AC (AD (A7 Z (λC=>?_) (λC=>?_))))))
 .have a:k<x.pl.length:=BR C;refine AX (AD (A2 (AD ?_)));obtain ⟨eb,ec,R⟩:=Vd v a;have I:=Sp v R;have hjl:x.pl[k].1<N.po.length:=hxe.2 _ (ϑ a)
  obtain ⟨y,hy⟩:∃y,N.po[x.pl[k].1]? =some y:=⟨_,ω hjl⟩
  have s:N.po.getD x.pl[k].1 Co=y:=by rw [Φ,hy];rfl
  obtain ⟨l,H⟩:=h.pp _ y hy;have hpk:=hxp _ (ϑ a);rw [s] at hpk;refine AE (J (XC R (k) Z Z Z a underlying182 QX Z) ?_);refine J (EL (f:=40) (e:=k) Z (Z) Z (I) (A3 a) Z cD Z) (V (CA 2 XE Z Z Z Z) (V (B4 Z Z Z Z Z Z Z QX) (AC (AD (CD [[],[0],[0,1],[0,1,2],[0,1,2,3],[],[5],rg 7] mixed Z (Bt (AP [7] Z (AL Z Ht Z Z Z) (As [19] [2] Z Z (λ_=>A8 (AQ Z Z Z FD Z)) ?_))))))));refine AP [20] Z (Dk Z Z) (AP [21] Z (Cg Z LQ Z Z Z) (As [22] [40] Z Z (λ_=>A8 (EG (f:=40) Z Z (l) Z Ai Z)) (AP [7] Z (AL Z SO Z Z Z) (As [24] [2] Z Z (λ_=>A8 (AQ Z Z Z Ai Z)) (Bk 7 Z Z Z (Ab 8 Z Z (J (Az Z Z Z) (AC ⟨Z,?_⟩))))))));refine Bx (A7 Z (λt=>?_) (λt=>?_))
  .refine AD ?_;have b:y.mi<y.q.length:=by have h:=t;omega
   obtain ⟨qb,qc,K⟩:=Vd H b;have w:=Sp H K;have hni:y.q[y.mi]<N.nd.length:=h.q y (ξ hy) _ (ϑ b)
   obtain ⟨z,G⟩:∃z,N.nd[y.q[y.mi]]? =some z:=⟨_,ω hni⟩
   obtain ⟨u,_,_⟩:=h.nn _ z G;have T:IJ N x=some ⟨x.it.id,1,y.r,z.it.id⟩:=by unfold IJ;rw [SJ a o (by unfold VP;rw [s];exact ωf (by have h:=t;omega))];unfold ed;dsimp only;rw [s,FF 0 b,Φ,G];rfl
   refine CD [[],[0],[0,1],[0,1,2],[0,1,2,3],[],[5],[5,6],[5,6,7],[5,6,7,8],[],[10],[10,11],[10,11,12],[10,11,12,13],[],[15],[15,16],[15,16,17],[15,16,17,18],[10,11,12,13,14,15,16,17,18,19],[10,11,12,13,14,15,16,17,18,19,20],[10,11,12,13,14,15,16,17,18,19,20,21],[10,11,12,13,14,15,16,17,18,19,20,21,22],[10,11,12,13,14,15,16,17,18,19,20,21,22,23],[10,11,12,13,14,15,16,17,18,19,20,21,22,23,24],rg 26,rg 27,rg 28] mixed Z (Bt (Ak 1 Z Z (AP [27] Z (Dk Z Z) (AP [28] Z (Cg Z G1 Z Z Z) ?_))));refine AP [29] Z (Cg Z OG Z Z Z) (As [30] [40] Z Z (λ_=>A8 (EG (f:=40) Z Z (n) Z Ai Z)) (AP [7] Z (AL Z Ht Z Z Z) (As [32] [2] Z Z (λ_=>A8 (AQ Z Z Z FD Z)) (AP [33] Z (Dk Z Z) (AP [34] Z (Cg Z Nu Z Z Z) (As [35] [40] Z Z (λ_=>A8 (D7 (f:=40) Z Z (l) Cc Z Z (by simp [D.one]) Z)) (AP [7] Z (AL Z Ht Z Z Z) (As [37] [2] Z Z (λ_=>A8 (AQ Z Z Z FD Z)) ?_))))))));refine AP [38] Z (Dk Z Z) (AP [39] Z (Cg Z Hu Z Z Z) (As [40] [40] Z Z (λ_=>A8 (EG (f:=40) Z Z (l) Z HC Z)) (AP [7] Z (AL Z Ht Z Z Z) (As [42] [2] Z Z (λ_=>A8 (AQ Z Z Z FD Z)) (AP [43] Z (Dk Z Z) (AP [44] Z (Cg Z LQ Z Z Z) (As [45] [40] Z Z (λ_=>A8 (EG (f:=40) Z Z (l) Z Ai Z)) (AP [41,46] Z (XC K (y.mi) Z Z Z b underlying175 Mu Z) ?_))))))));refine As [47] [40] Z Z (λ_=>A8 (ZcL (f:=40) (e:=y.mi) (off:=0) Z (by omega) Z (w) (A3 b) Z Oj Z)) (AP [48] Z (Dk Z Z) (AP [49] Z (Cg Z G1 Z Z Z) (AP [50] Z (Cg Z OG Z Z Z) (As [51] [40] Z Z (λ_=>A8 (EG (f:=40) Z Z (u) Z Ai Z)) (Bk 26 Z Z Z (Ab 27 Z Z (J (EI Jg Tl Z Z Z) (AC ⟨Z,?_⟩))))))));refine Ab 28 Z Z (V (B4 Z Z Z Z Z Z Z KZ) (AC ⟨Z,?_⟩));refine Ab 29 Z Z (AB Z Z (AC ⟨Z,?_⟩));refine Bx (AZ ?_);exact ⟨_,[40,50,51],_,AY Z,Z,Z,by rw [T];rfl,Z⟩
  .refine AX (AE (J (Ah Z Z (AK (k+1) (by omega)) Z) (goMv Z Z (AC ?_))));exact ⟨k+1,⟨by show k+1<=_;omega,by rw [ψ a];intro e g;rcases ϖ.1 g with g | g;exact o e g;rw [κ.1 g];unfold VP;rw [s];exact ωh (by have h:=t;omega)⟩,by show x.pl.length - (k+1)<x.pl.length - k;omega,AU X [1,40,50,51] Z (Z) ⟨Z,Z,Z,Z,Z,Z,trivial⟩⟩
 .refine Ar (AD (AD ?_));have L:x.pl.find? (VP N)=none:=RG (by have e:k=x.pl.length:=(by have h:=C;omega);rw [e,ωl] at o;exact o);refine AE (goMv Z Z ?_);refine J (Dk Z Z) (J (Cg Z G1 Z Z Z) (J (Cg Z EA Z Z Z) (J (EG (f:=40) Z Z (n) Z BF Z) (J (BU Z underlying28 Z) (goMv Z Z (AC (A2 (BO (α:=Nat) (λj=>⟨85,[(0,.d (pD U 0)),(1,.d (pD (nb i) 0)),(4,(.ptr 1 0 0)),(59,(.d (.sl none (x.it.af.map AF)))),(60,(.d (AF (x.it.af.length:Int)))),(61,(.d (AF (j:Int))))],(1,[.blk 245 [.d (AF 0),.d (AF 0),.d (AF 0),.d (Aq []),.d (AF 0),.d (Aq []),.d (Aq []),.d (Aq []),.d (AF 0)]])::HW E Y (G3 nb (B9 N)) M⟩) (λj=>j<=x.it.af.length/\∀id∈x.it.af.take j,Dt N id=false) (λj=>x.it.af.length - j) (0) (⟨ζ _,by simp⟩) (AU X [1,40,50,51] Z Z ⟨Z,Z,Z,Z,Z,Z,trivial⟩) ?_))))))));rintro j ⟨hj0,p⟩;refine AD (AE (J (Az Z Z Z) (AC (AD (A7 Z (λB=>?_) (λB=>?_))))))
  .have q:j<x.it.af.length:=BR B;refine AX (AD (A2 (AD ?_)));have P:=hxa _ (ϑ q);have c:=χi P;have O:(B9 N).idxOf x.it.af[j]<N.nd.length:=by unfold B9 at c⊢;rw [χ] at c;exact c
   obtain ⟨z,G⟩:∃z,N.nd[(B9 N).idxOf x.it.af[j]]? =some z:=⟨_,ω O⟩
   have Q:N.nd.getD ((B9 N).idxOf x.it.af[j]) CT=z:=by rw [Φ,G];rfl
   obtain ⟨u,_,_⟩:=h.nn _ z G;have S:=Sb (nb:=nb) W.i c;rw [List.getElem_idxOf c] at S;refine AE (J (BC (j) Z Z (Z) (A3 q) underlying28 Z BD Z) ?_);refine J (CF Z Z Ai Z) (AB Z Z (AC (AD (AE (goMv Z Z (J (Dk Z Z) (J (Cg Z Nv Z Z Z) (J (EG (f:=40) Z Z (hwb) Z Xh Z) ?_))))))));refine Dv 68 51 0 Z Z (goMv Z Z (J (IR (G3 nb (B9 N)) x.it.af[j] (.pointer none) (pV (nb ((B9 N).idxOf x.it.af[j])) 0) Z Z Z Xv IN XF S Z) (J (Dk Z Z) (J (Cg Z FR Z Z Z) (J (EG (f:=40) Z Z (u) Z on4 Z) (J (NQ Z Z) (AC (JC Z (λA=>?_) (λA=>?_)))))))))
   .refine AD (AE (goMv Z Z (J (Dk Z Z) (J (Cg Z G1 Z Z Z) ?_))));refine J (Cg Z OG Z Z Z) (J (EG (f:=40) Z Z (n) Z Ai Z) (J (EI KQ Tk Z Z Z) (goMv Z Z (J (EI Jg Tl Z Z Z) (V (B4 Z Z Z Z Z Z Z KZ) (AB Z Z (AC (AZ ?_))))))));exact ⟨_,[40,50,51],_,AY Z,Z,Z,by unfold IJ;rw [L];dsimp only;rw [SJ q p (by unfold Dt;rw [Q];simpa using A)];rfl,Z⟩
   .refine AX (AE (J (Ah Z Z (AK (j+1) (by omega)) Z) (goMv Z Z (AC ?_))));exact ⟨j+1,⟨by show j+1<=_;omega,by rw [ψ q];intro e g;rcases ϖ.1 g with g | g;exact p e g;rw [κ.1 g];unfold Dt;rw [Q];simpa using A⟩,by show x.it.af.length - (j+1)<x.it.af.length - j;omega,AU X [1,40,50,51] Z (Z) ⟨Z,Z,Z,Z,Z,Z,trivial⟩⟩
  .refine Ar (AD (AE (J (EI Jg Tl Z Z Z) (V (B4 Z Z Z Z Z Z Z KZ) (AB Z Z (AC (AZ ?_)))))));exact ⟨_,[40,50,51],_,AY Z,Z,Z,by unfold IJ;rw [L];dsimp only;rw [RG (by have e:j=x.it.af.length:=(by have h:=B;omega);rw [e,ωl] at p;exact p)];rfl,Z⟩
abbrev eZ:FuncId:=230
theorem backF_c (h:Hd) (n:Nat):AT prog 194 [.d (hdr h n)] [] λr e=>r= .fn eZ [.d (.ptr (hdr h n))]/\e=[]:=by
 refine Ax func194 Z Z ntmps194 Z Z Z λF b=>(AD (AE (V (Bi 1 Z Z Z Z Z Z Z) ?_)));refine AB Z Z (AC (AD (AE (Qo 1 1 (hdr h n) [] b Z Z Z (by intro c a;simp [D.cells] at a;subst a;rfl) Z Z Z (J (ZcN Z Z) (AB Z Z (AC (AZ ?_))))))));exact ⟨_,[],[],AY Z,Z,Z,Z,Z⟩
def Ly (q:List Nat):Nat ->List (Nat×Nat)
 | 0=> []
 | c+1=>(c,q.getD c 0)::Ly q c
def er (nb:Nat ->Nat) (e:Nat×Nat):List AV:=[.d (AF (e.1:Int)),.d (B3 (nb e.2))]
section
variable {β:Type}
theorem back1_c (w:Nat ->Nat) (q:List Nat) (R:q.length<=100000) {M:MF} {h:Hd} (j:B2 M h 176 1 (q.map λi=>B3 (w i))) (l:Nat) (H:β ->Hp) (N:List Nat) (step:β ->Nat×Nat ->β×Bool) (g:β) (G:∀a,hpN (H a)=N) (O:∀a,Fu N (H a)=true) (E:∀a,Bb (H a) N=some (H a)) (L:∀a,hfam (H a) 40=some [.multi M])
  (y:NT prog l (er w) H step g (Ly q q.length)):
  AT prog eZ [.d (.raw (DU l)),.d (.ptr (hdr h q.length))] (H g) λr D=>r= .tup []/\D=H (IO step g (Ly q q.length)):=by
 have K:=V2 j;have v:∀a,A6 N (H a)=true:=λa=>by have h:=Em (H a);rw [G] at h;exact h
 have I:∀a,C9 N (H a)=some []:=λa=>by have h:=Qa (H a);rw [G] at h;exact h
 refine Ax func230 Z Z ntmps230 Z Z Z λF S=>?_;refine AD (AE (J (CF Z Z HC Z) (J (Wz K Z underlying175 Z) (J (KL Z Z (Θ _ (by omega)) Z) (AB Z Z (AC (A2 (Gh (α:=Nat×β) (λp=>⟨19,[(0,.d (.raw (DU l))),(1,.d (.ptr (hdr h q.length))),(3,(.d (AF ((p.1:Int) - 1))))],H p.2⟩) (λp=>p.1<=q.length/\NT prog l (er w) H step p.2 (Ly q p.1)/\IO step p.2 (Ly q p.1)=IO step g (Ly q q.length)) (λp=>p.1) ((q.length,g)) (⟨Γ _,y,Z⟩) (al ⟨Z,Z,Z,trivial⟩) ?_))))))));rintro ⟨c,a⟩ ⟨z,s,b⟩;dsimp only at z s b⊢;refine AD (AD (AE (goMv Z Z (J (EM Z Z Z) (AC (A7 Z (λA=>?_) (λA=>?_)))))))
 .obtain ⟨k,rfl⟩:∃k,c=k+1:=⟨c - 1,by have h:=A;omega⟩
  refine AX (AD (A2 (AD ?_)));have m:k<q.length:=by omega
  obtain ⟨Q,P,u⟩:=Vd j m;have o:=Sp j u;have x:((k+1:Nat):Int) - 1=(k:Int):=by omega
  rw [x];refine AE (goMv Z Z (goMv Z Z (J (CF Z Z HC Z) (goMv Z Z (J (XC u (k) Z Z Z m underlying175 Mu Z) (J (ZcL (f:=40) (e:=k) (off:=0) Z (by omega) (L a) o (A3 m) Z Oj Z) ?_))))));rw [<-FF 0 m];refine Tv Z Z s.1 N (F2 λ_ _=>rfl) (v a) (I a) Z Z (λr D ⟨C,B⟩=>by subst C B;exact ⟨v _,O _,Z⟩) Z λr D ⟨C,B⟩=>?_;subst C B;rw [ωi];refine J (NQ Z Z) (AC (JC Z (λt=>?_) (λt=>?_)))
  .have n:(step a (k,q.getD k 0)).2=false:=by simpa using t
   refine AZ ?_;exact ⟨_,N,_,AY Z,E _,v _,Z,by rw [<-b];show H _=H (IO step a ((k,q.getD k 0)::Ly q k));rw [E2,η (by rw [n];decide)]⟩
  .have n:(step a (k,q.getD k 0)).2=true:=by simpa using t
   refine AX (AE (goMv Z Z (J (KL Z Z (Θ _ (by omega)) Z) (AB Z Z (AC ?_)))));exact ⟨(k,(step a (k,q.getD k 0)).1),⟨by show k<=_;omega,s.2 n,by show IO step (step a (k,q.getD k 0)).1 (Ly q k)=_;rw [<-b];show _=IO step a ((k,q.getD k 0)::Ly q k);rw [E2,ς n]⟩,by show k<k+1;omega,⟨Z,Z,λ_ _=>Sr.get (l:=[(0,_),(1,_),(3,_)]) ⟨Z,Z,Z,trivial⟩⟩⟩
 .refine Ar ?_;exact ⟨_,N,_,AY Z,E _,v _,Z,by rw [<-b];have e:c=0:=(by have h:=A;omega);rw [e];rfl⟩
end
end Go.Proofs.YteifpcnphnhaoaaGreat
