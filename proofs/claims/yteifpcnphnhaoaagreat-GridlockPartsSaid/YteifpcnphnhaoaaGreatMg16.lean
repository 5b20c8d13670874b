import Derived.Test.YteifpcnphnhaoaaGreatMg15
import Derived.SizedLaws
open Go.Proofs.Tryz
namespace Go.Proofs.YteifpcnphnhaoaaGreat
open Go.ChangeShapes Go.WideShapes Go.ChangeAt Go.RowKit Go.Deep
variable {w:World}
abbrev np:Nat ->Prop:=λ_=>False
def Uq (w:World) (d:D) (cs:List Value):Prop:=cs.length=d.cells.length/\(∀c∈d.cells,c.one=true)/\∀(j:Nat) c u,d.cells[j]? =some c ->cs[j]? =some u ->AW w np c u
theorem KK {d:D} {u:Value} (a:d.one=true) (h:AW w np d u):Uq w d [u]:=by grind [Uq,D.cells_one]
theorem Uq.argS {w:World} {b:Nat ->Nat ->Value} {O:Nat ->Prop} {a:List D} {cs:Array Value} (c:O=np) (h:Uq w (.agg a) (Value.agg cs).cells.toList):A6 w O b (.d (.agg a)) (.agg cs):=by
 subst c;obtain ⟨i,g,f⟩:=h;have:=AW.agg (w:=w) (O:=np) (cs:=a) (vs:=cs.toList) i g f;exact .d (by simpa using this)
section
variable {H:Type} {enc:TypeId×Value ->H} {P:Program} {w:World}
variable {a:Type} {Q:a ->Prop} {t:TypeId} {c:a ->D} {k f:Nat} {g:TypeId} {h:Type}
def CT {α:Type} (enc:TypeId×Value ->H) (P:Program) (w:World) (t:TypeId) (k:Nat) (emb:α ->D) (Q:α ->Prop):Prop:=
 ∀fuel cs x,DataW.trod enc P w 0 (λ_=>true) true fuel t cs=some x ->(∀p∈x.2,p.block<w.heap.size) ->(∀n∈x.1.weights P t,n<=reachBytes) ->∃a,Q a/\(emb a).cells.length=k/\Uq w (emb a) cs
theorem Ng {l:List (DataW H)} {d:DataW H} (b:d∈l) {n:Nat} (f:n∈d.weights P g):n∈DataW.weightsAll P g l:=by
 induction l with
 | nil=>cases b
 | cons a r c=>
  grind [DataW.weightsAll]
theorem Wx {k:IntKind} (c:P.underlying t=some (.int k)):CT enc P w t 1 (λz:Int=> .raw (.int k z)) (λz=>k.min<=z/\z<=k.max):=λb f x h _ _=>by
 obtain ⟨z,rfl,_,a⟩:=DataW.trod_int c h;simp only [Lit.wf,gW,iz] at a;exact ⟨z,a,Z,KK Z (.raw Z)⟩
theorem lH (c:P.underlying t=some .string):CT enc P w t 1 (λs:ByteArray=> .raw (.string s)) (λs=>s.size<=140737488351232):=λa g x h _ b=>by
 obtain ⟨s,rfl,rfl,f⟩:=DataW.trod_string c h;exact ⟨s,by simpa [DataW.weights,reachBytes] using b,Z,KK Z (.raw Z)⟩
theorem Lj {b:Nat} (W:P.underlying t=some (.slice g)) (hk:P.cellsOf g=k) (Y:0<k) (N:P.bytesOf g=b) (hO:CT enc P w g k c Q):CT enc P w t 1 (λl:List a=> .sl none (l.map c)) (λl=>(∀r∈l,Q r)/\l.length*b<=140737488351232):=λfuel cs x h K G=>by
 rcases open_slice W h with ⟨rfl,rfl⟩ | ⟨r,u,cap,m,n,Dd,Pl,rfl,_,hl,hm,I,rfl,hi⟩
 .refine ⟨[],⟨by simp,by simp⟩,Z,KK Z (.sl k (λb N=>by cases N) (λ_=>rfl) Z (Γ _) (ζ _) (by simp) (by simp) (λb o g=>by cases g))⟩
 .simp only [if_true] at I;subst I
  have R:∀i,i<u ->∃y:a,Q y/\(c y).cells.length=k/\∃s:List Value,Uq w (c y) s/\∀j,j<k ->w.cell? ((r.add (i*k)).add j)=s[j]?:=by
   intro i M;obtain ⟨s,E,V⟩:=hi i (by omega)
   obtain ⟨y,hq,U,hr⟩:=hO _ _ _ V (λp hp=>K p (by
    simp only [υ,jQ,Ψ]
    exact .inr ⟨i,by omega,hp⟩)) (λn hn=>G n (by
    simp only [DataW.weights,W,Υ,υ]
    exact .inr (.inl (Ng (Θ.2 ⟨i,Ψ.2 M,Z⟩) hn))))
   obtain ⟨_,B,O⟩:=World.cells?_some E;rw [hk] at O;exact ⟨y,hq,U,s,hr,O⟩
  obtain ⟨l,L,z⟩:=lT u R;refine ⟨l,⟨λy A=>?_,?_⟩,Z,KK Z (.sl k (λb N=>by cases N) (λg=>by cases g) (by rw [χ];exact L) hl hm (λx v=>?_) (λX=>?_) (λb o g i x v=>?_))⟩
  .obtain ⟨i,C,rfl⟩:=hY A;exact (z i _ (ω C)).1
  .have D:=G ((u+(m - u))*P.bytesOf g) (by simp [DataW.weights,W]);rw [N] at D;have F:=ie b (show l.length<=u+(m - u) by omega);have T:reachBytes=140737488351232:=rfl;omega
  .obtain ⟨y,A,rfl⟩:=Θ.1 v;obtain ⟨i,C,rfl⟩:=hY A;exact (z i _ (ω C)).2.1
  .have h0:0<l.length:=by
    cases l with
    | nil=>exact absurd Z X
    | cons _ _=>simp
   obtain ⟨_,D,s,F,T⟩:=z 0 _ (ω h0);have h4:=T 0 Y;have B:s.length=k:=by rw [F.1,D]
   rw [ω (by omega)] at h4;have:r.spot=none:=by simpa [Addr.add] using World.cell?_spot h4
   exact ⟨r.block,r.off,by cases r;simp_all⟩
  .rw [ν] at v
   cases A:l[i]? with
   | none=>rw [A] at v;cases v
   | some y=>
    rw [A] at v;injection v with v
    subst v;obtain ⟨hq,D,s,F,T⟩:=z i y A;injection g with g
    subst g;have B:s.length=k:=by rw [F.1,D]
    have M:i<u:=by rw [<-L];exact (φ.1 A).1
    have hin:∀j,j<k ->w.cell? ⟨b,o+i*k+j,none⟩=s[j]?:=λj S=>by
     have:=T j S
     rwa [Go.WideShapes.add_plain,Go.WideShapes.add_plain] at this
    refine .ptr (λj=>s.getD j undef) ?_ (λh=>h) F.2.1 (λj f E=>?_) (λj f E=>?_)
    .have J:MemPlace.cell b (o+i*k)∈MemPlace.row ⟨b,o,none⟩ (m*P.cellsOf g):=MemPlace.mem_row.2 ⟨i*k,by
      rw [hk];have:(i+1)*k<=m*k:=ie _ (by omega)
      rw [jT] at this;omega,Z⟩
     exact K _ (jN _ J)
    .have S:j<k:=by rw [<-D];exact (φ.1 E).1
     rw [hin j S,Φ,ω (by omega)];rfl
    .have S:j<k:=by rw [<-D];exact (φ.1 E).1
     rw [Φ,ω (by omega)];exact F.2.2 j f _ E (ω (by omega))
def SN {α:Type} (enc:TypeId×Value ->H) (P:Program) (w:World) (off total:Nat) (fs:List Field) (emb:α ->List D) (Q:α ->Prop):Prop:=
 ∀n (cs:List Value),cs.length=total ->(∀(i:Nat) f,fs[i]? =some f ->∃x,DataW.trod enc P w 0 (λ_=>true) true n f.type ((cs.drop f.offset).take (P.cellsOf f.type))=some x/\(∀p∈x.2,p.block<w.heap.size)/\∀n∈x.1.weights P f.type,n<=reachBytes)→
  ∃a,Q a/\off+(emb a).length=total/\(∀c∈emb a,c.one=true)/\∀(j:Nat) c u,(emb a)[j]? =some c ->cs[off+j]? =some u ->AW w np c u
theorem Jg:SN enc P w f f [] (λ_:Unit=> []) (λ_=>True):=λn a _ _=>⟨(),trivial,Z,by simp,by simp⟩
theorem CC {s:Nat} {l:Field} {G:List Field} {v:h ->List D} {I:h ->Prop} (R:l.offset=s) (S:P.cellsOf l.type=k) (V:CT enc P w l.type k c Q) (U:SN enc P w (s+k) f G v I):
  SN enc P w s f (l::G) (λr:a×h=>(c r.1).cells++v r.2) (λr=>Q r.1/\I r.2):=λn W C F=>by
 obtain ⟨x,N,O,B⟩:=F 0 l rfl;obtain ⟨r,M,y,A⟩:=V _ _ _ N O B;obtain ⟨b,L,X,K,J⟩:=U n W C (λi g T=>F (i+1) g (by simpa using T));rw [R,S] at A;refine ⟨(r,b),⟨M,L⟩,by simp only [Δ,y];omega,λo t=>?_,λj o u t E=>?_⟩
 .rcases υ.1 t with t | t
  .exact A.2.1 o t
  .exact K o t
 .rcases Nat.lt_or_ge j k with z | z
  .rw [oW (by rw [y];exact z)] at t;exact A.2.2 j o u t (by rw [j7,ϱ z,j1];exact E)
  .rw [List.getElem?_append_right (by rw [y];exact z),y] at t;exact J (j - k) o u t (by rw [show s+k+(j - k)=s+j by omega];exact E)
theorem Jf {A:Type} {t:TypeId} {z:Array Field} {k:Nat} {g:A ->List D} {Q:A ->Prop} (B:P.underlying t=some (.struct z)) (E:P.cellsOf t=k) (h:SN enc P w 0 k z.toList g Q):CT enc P w t k (λa=> .agg (g a)) Q:=λF G x L y v=>by
 obtain ⟨r,n,_,rfl,C,o,S⟩:=DataW.trod_struct B L
 obtain ⟨a,K,s,J,I⟩:=h n G (by rw [C,E]) (λi f R=>by
  have l:z[i]? =some f:=by simpa using R
  have b:i<r.length:=by rw [o];exact (i6.1 l).1
  refine ⟨r[i],by rw [S i f l];exact ω b,λp N=>y p (jQ.2 ⟨_,ξ b,N⟩),λn O=>v n ?_⟩;simp only [DataW.weights,B]
  refine DataW.weights_mem_each (j:=i) (t:=f.type) (d:=r[i].1) (by rw [ν];simp [l]) (by rw [ν,ω b];rfl) n O)
 rw [iR] at s;exact ⟨a,K,s,by show G.length=_;rw [C,E];exact s.symm,J,λj c u T M=>I j c u T (by rw [iR];exact M)⟩
theorem CT.as {i:h ->D} {j:h ->Prop} (b:CT enc P w t k c Q) (f:a ->h) (o:∀g,c g=i (f g)) (l:∀g,Q g ->j (f g)):CT enc P w t k i j:=by grind [CT]
end
theorem ZK {P:Program} {f:FuncId} {k:List AV} (h:AK P f k (.raw (.bool true))) {w:World} {vs:List Value} (C:vs.length=k.length) (B:∀(i:Nat) a v,k[i]? =some a ->vs[i]? =some v ->A6 w np (λ_ _=>undef) a v):
  Calls P f vs.toArray w λe y=>e= .returned (.bool true)/\Below w.heap.size w y:=by
 have l:∀c b,¬BD c [] b:=λc b ⟨_,_,_,h,_⟩=>nomatch h
 let c:Nat ->Nat ->Value:=λ_ _=>undef
 let F:Fr:=Fr.mk none (.marks w.heap.size) w np (BD c []) (Cf c []) (λb t=>t.elim) [] (λ_ _ _ h=>D4 h)
 have E:F.O c []=np:=funext λb=>propext ⟨λh=>h.elim id λh=>(l c b h).elim,λh=>h.elim⟩
 have s:B6 F [] c w:=⟨(λf i o u=>nomatch u),(λf i L K o J b u=>nomatch u),λb t=>(l c b t).elim,Z,Z,Z,Γ _,λ_ _ _=>rfl,λf i b t=>nC t,Γ _⟩
 refine (h.2 F c vs Z Z ⟨Z,Z,Z⟩ s C (λi a v D A=>by rw [E];exact B i a v D A)).mono λe y ⟨v,r,M,z,I,⟨H,G⟩,g,j⟩=>?_;subst I H G;refine ⟨?_,j.os,j.tape,j.output,j.size0,λb x=>j.keep b x (l c b)⟩
 cases g with
 | d g=>
  cases g with
  | raw _=>rfl
end Go.Proofs.YteifpcnphnhaoaaGreat
namespace Go.Proofs.YteifpcnphnhaoaaGreat
open Go.ChangeShapes Go.WideShapes Go.ChangeAt Go.RowKit
section
variable {H:Type} {enc:TypeId×Value ->H} {P:Program} {w:World}
variable {t:TypeId}
theorem CT.asQ {i g:Type} {k:Nat} {c:i ->D} {Q:i ->Prop} {b:g ->D} {j:g ->Prop} (h:CT enc P w t k c Q) (f:i ->g) (o:∀a,Q a ->c a=b (f a)) (l:∀a,Q a ->j (f a)):CT enc P w t k b j:=by grind [CT]
theorem Wy (a:P.underlying t=some (.int .i64)):CT enc P w t 1 (λn:Int=> .raw (.int .i64 n)) (λn=> -9223372036854775808<=n/\n<=9223372036854775807):=
 (Wx a).asQ id (λ_ _=>rfl) (λ_ h=>h)
theorem cE (b:P.underlying t=some .string):CT enc P w t 1 Am (λl=>l.length<=140737488351232):=
 (lH b).asQ (λs=>s.data.toList) (λa _=>rfl) (λa h=>by simpa using h)
end
end Go.Proofs.YteifpcnphnhaoaaGreat
namespace Go.Proofs.YteifpcnphnhaoaaGreat
open Go.RowKit
variable {M:List (List UInt8×Int)} {k:Nat} {c:Type} {g:List c} {h:c ->Int} {j:Prop} {E:Int} {x:c}
set_option maxRecDepth 100000
abbrev AF (z:Int):D:= .raw (.int .i64 z)
structure Ut where
 o:List UInt8
 k:Int
 a:List UInt8
structure AT where
 k:Int
 acc:Ut
 f:List UInt8
 t:List UInt8
structure FT where
 acc:Ut
 d:Int
structure MW where
 f:List UInt8
 t:List UInt8
 n:Int
structure AI where
 id:Int
 pr:Int
 sq:Int
 po:List FT
 pa:List MW
 af:List Int
structure Ac where
 r:AT
 n:Int
structure fj where
 ro:List Ac
 it:List AI
theorem Ut.eq_iff {x y:Ut}:x=y↔x.o=y.o/\x.k=y.k/\x.a=y.a:=by cases x;cases y;simp
instance:DecidableEq Ut:=λ_ _=>decidable_of_iff _ Ut.eq_iff.symm
theorem AT.eq_iff {x y:AT}:x=y↔x.k=y.k/\x.acc=y.acc/\x.f=y.f/\x.t=y.t:=by cases x;cases y;simp
instance:DecidableEq AT:=λ_ _=>decidable_of_iff _ AT.eq_iff.symm
abbrev um (x:Ut):D:= .agg [Am x.o,AF x.k,Am x.a]
abbrev Bc (x:AT):D:= .agg [AF x.k,Am x.acc.o,AF x.acc.k,Am x.acc.a,Am x.f,Am x.t]
abbrev B7 (x:FT):D:= .agg [Am x.acc.o,AF x.acc.k,Am x.acc.a,AF x.d]
abbrev Cp (x:MW):D:= .agg [Am x.f,Am x.t,AF x.n]
abbrev Ag (x:AI):D:= .agg [AF x.id,AF x.pr,AF x.sq,.sl none (x.po.map B7),.sl none (x.pa.map Cp),.sl none (x.af.map AF)]
abbrev Bv (x:Ac):D:= .agg [AF x.r.k,Am x.r.acc.o,AF x.r.acc.k,Am x.r.acc.a,Am x.r.f,Am x.r.t,AF x.n]
abbrev Bq (x:fj):D:= .agg [.sl none (x.ro.map Bv),.sl none (x.it.map Ag)]
def NA (x:AT):List Value:=[.int .i64 x.k,Mw x.acc.o,.int .i64 x.acc.k,Mw x.acc.a,Mw x.f,Mw x.t]
def ND (x:Ut):List Value:=[Mw x.o,.int .i64 x.k,Mw x.a]
abbrev bQ:List TypeDesc:=[.int .i64,.string,.int .i64,.string,.string,.string]
abbrev fE:List TypeDesc:=[.string,.int .i64,.string]
theorem Ot (a b:Int):Ou (.int .i64 a) (.int .i64 b)=decide (a=b):=by
 simp only [Ou];exact Bool.beq_eq_decide_eq a b
theorem Or (a b:List UInt8):Ou (Mw a) (Mw b)=decide (a=b):=by
 simp only [Ou,Mw,<-beq_toListBytes,Qn]
theorem NL (a b:AT):Bt (NA a) (NA b)=decide (a=b):=by grind [NA,Bt,Ot,Or,AT.eq_iff,Ut.eq_iff]
theorem N9 (a b:Ut):Bt (ND a) (ND b)=decide (a=b):=by grind [ND,Bt,Ot,Or,Ut.eq_iff]
theorem nD {d:TypeDesc} {b:List TypeDesc} {u:Value} {a:List Value} (h:MapKept.IsKey d u) (c:BW b a):BW (d::b) (u::a):=by grind [BW]
theorem QM:BW [] []:=⟨Z,by simp⟩
theorem EN (a:AT):BW bQ (NA a):=nD Z (nD trivial (nD Z (nD trivial (nD trivial (nD trivial QM)))))
theorem Db (a:Ut):BW fE (ND a):=nD trivial (nD Z (nD trivial QM))
theorem kh (a:AT):(Bc a).val? =some (.agg (NA a).toArray):=rfl
theorem CV:Bp prog 64 Bc (λa=> .agg (NA a).toArray):=Bp.flat (ds:=bQ) (by kernel_rfl) (by kernel_rfl) kh EN NL
theorem Qm {a:List (Nat×Option (List AJ))} {f:Nat} {i b:List AJ} (h:Bd a f=some (some b)):∀g c,Bd a g=some c ->C2 f i b g c:=by grind
theorem V1 {p:Prop} [Decidable p] [Decidable j] (h:p↔j):AV.d (.raw (.bool (decide p)))= .d (.raw (.bool (decide j))):=by rw [decide_eq_decide.2 h]
theorem Yg [Decidable j] (h:j):AV.d (.raw (.bool true))= .d (.raw (.bool (decide j))):=by rw [gQ h]
theorem J9 [Decidable j] (h:¬j):AV.d (.raw (.bool false))= .d (.raw (.bool (decide j))):=by rw [gV h]
theorem Ab {a b:Int} (h:a=b):AV.d (.raw (.int .i64 a))= .d (.raw (.int .i64 b)):=by rw [h]
theorem AM (n:Nat) (h:n<=9223372036854775807):IntKind.i64.wrap (n:Int)=(n:Int):=Ξ _ (by omega)
theorem IL (n b c:Int):AK prog 167 [.d (AF n),.d (AF b),.d (AF c)] (.raw (.bool (decide (b<=n/\n<=c)))):=by
 refine At func167 Z Z ntmps167 Z Z Z λF f=>(AC (AE ?_));refine AB Z Z (AD (AC (AE (fZ Z Z (fZ Z Z (J (EJ Z Z Z) (fZ Z Z (C3 10 Z (λa=>?_) (λa=>?_)))))))));refine AQ Z Z Z (fZ Z Z (AQ Z Z Z (fZ Z Z (AQ Z Z Z (J (VQ Z Z Z) (J (B5 Z Z Z Z) ?_))))))
 rotate_left
 refine AL Z Z Z Z (AL Z Z Z Z (AL Z Z Z Z (J (Bk Z Z Z Z) ?_)))
 all_goals
  refine AB Z Z (AD (A4 ?_));exact ⟨_,[],[],A2 Z,Z,Z,by first | exact V1 (by omega) | exact J9 (by omega),rfl⟩
theorem HK (n b c:Int):AK prog 178 [.d (AF n),.d (AF b),.d (AF c)] (.raw (.bool (decide (b<=n/\n<=c)))):=by
 refine At func178 Z Z ntmps178 Z Z Z λF f=>(AC (AE ?_));refine AB Z Z (AD (AC (AE (fZ Z Z (fZ Z Z (J (EJ Z Z Z) (fZ Z Z (C3 10 Z (λa=>?_) (λa=>?_)))))))));refine AQ Z Z Z (fZ Z Z (AQ Z Z Z (fZ Z Z (AQ Z Z Z (J (VQ Z Z Z) (J (B5 Z Z Z Z) ?_))))))
 rotate_left
 refine AL Z Z Z Z (AL Z Z Z Z (AL Z Z Z Z (J (Bk Z Z Z Z) ?_)))
 all_goals
  refine AB Z Z (AD (A4 ?_));exact ⟨_,[],[],A2 Z,Z,Z,by first | exact V1 (by omega) | exact J9 (by omega),rfl⟩
theorem IT (n:Int):AK prog 100 [.d (AF n)] (.raw (.bool (decide (0<=n/\n<=1000000000)))):=by
 refine At func100 Z Z ntmps100 Z Z Z λF b=>(AC ?_);refine AE (AB Z Z (AD (AC (AE (fZ Z Z (J (EJ Z Z Z) (fZ Z Z (C3 5 Z (λa=>?_) (λa=>?_)))))))));refine AQ Z Z Z (fZ Z Z (AQ Z Z Z (J (VQ Z Z Z) (J (B5 Z Z Z Z) ?_))))
 rotate_left
 refine AL Z Z Z Z (AL Z Z Z Z (J (Bk Z Z Z Z) ?_))
 all_goals
  refine AB Z Z (AD (A4 ?_));exact ⟨_,[],[],A2 Z,Z,Z,by first | exact V1 (by omega) | exact J9 (by omega),rfl⟩
theorem ns (n:Int):AK prog 211 [.d (AF n)] (.raw (.bool false)):=by
 refine At func211 Z Z ntmps211 Z Z Z λF a=>(AC (AE (AB Z Z ?_)));refine AD (AC (AE (fZ Z Z (fZ Z Z (J (Cw Z Z Z) (AB Z Z (AD (A4 ?_))))))));exact ⟨_,[],[],A2 Z,Z,Z,by simp,Z⟩
theorem cY (l:List UInt8):AK prog 239 [.d (Am l)] (.raw (.bool false)):=by
 refine At func239 Z Z ntmps239 Z Z Z λF a=>(AC (AE (AB Z Z ?_)));refine AD (AC (AE (fZ Z Z (fZ Z Z (J (DE Z Z Z) (AB Z Z (AD (A4 ?_))))))));exact ⟨_,[],[],A2 Z,Z,Z,by simp,Z⟩
def Dz (a b:Int):Int:=if a<b then -1 else if b<a then 1 else 0
def R2 (a b:List UInt8):Bool:=Op.bytesLess a b
def Df (a b:List UInt8):Int:=if R2 a b=true then -1 else if R2 b a=true then 1 else 0
theorem oN (a b:List UInt8):Op.bytesLess (⟨a.toArray⟩:ByteArray).toList (⟨b.toArray⟩:ByteArray).toList=R2 a b:=by rw [Lib.toList_data,Lib.toList_data];rfl
theorem SC (a b:Int):AK prog 166 [.d (AF a),.d (AF b)] (AF (Dz a b)):=by
 refine At func166 Z Z ntmps166 Z Z Z λF g=>(AC (AE ?_));refine AB Z Z (AD (AC (AE (fZ Z Z (J (As (ns a) Z Z) (AB Z Z (AD (AC ?_))))))));refine AE (fZ Z Z (J (As (ns b) Z Z) (AB Z Z (AD (AC (AC (AE (fZ Z Z ?_))))))));refine AD (Cm Z (Z) (AX (AC (AC (AE (fZ Z Z (AD (Cm Z (Z) ?_))))))));refine AX (AC (AC (AE (fZ Z Z (fZ Z Z (J (BB Z Z Z) (AD (A9 Z (λf=>?_) (λf=>?_)))))))))
 rotate_left
 refine AX (AC (AC (AE (fZ Z Z (fZ Z Z (J (HF Z Z Z) (AD (A9 Z (λc=>?_) (λc=>?_)))))))))
 rotate_left
 refine AX ?_
 all_goals
  refine AC (AE (AB Z Z (AD (A4 ?_))));exact ⟨_,[],[],A2 Z,Z,Z,by first | exact Ab (by unfold Dz;rw [ϱ (by assumption)]) | exact Ab (by unfold Dz;rw [θ (by assumption),ϱ (by omega)]) | exact Ab (by unfold Dz;rw [θ (by assumption),θ (by omega)]),Z⟩
theorem SB (a b:List UInt8):AK prog 196 [.d (Am a),.d (Am b)] (AF (Df a b)):=by
 refine At func196 Z Z ntmps196 Z Z Z λF g=>(AC (AE ?_));refine AB Z Z (AD (AC (AE (fZ Z Z (J (As (cY a) Z Z) (AB Z Z (AD (AC ?_))))))));refine AE (fZ Z Z (J (As (cY b) Z Z) (AB Z Z (AD (AC (AC (AE (fZ Z Z ?_))))))));refine AD (Cm Z (Z) (AX (AC (AC (AE (fZ Z Z (AD (Cm Z (Z) ?_))))))));refine AX (AC (AC (AE (fZ Z Z (fZ Z Z (J (Wh Z Z Z) (AD (Iq Z (λc=>?_) (λc=>?_)))))))));rw [oN] at c
 rotate_left
 rw [oN] at c;refine AX (AC (AC (AE (fZ Z Z (fZ Z Z (J (Wj Z Z Z) (AD (Iq Z (λf=>?_) (λf=>?_)))))))));rw [oN] at f
 rotate_left
 rw [oN] at f;refine AX ?_
 all_goals
  refine AC (AE (AB Z Z (AD (A4 ?_))));exact ⟨_,[],[],A2 Z,Z,Z,by first | exact Ab (by unfold Df;rw [ϱ c]) | exact Ab (by unfold Df;rw [θ (by rw [c];decide),ϱ f]) | exact Ab (by unfold Df;rw [θ (by rw [c];decide),θ (by rw [f];decide)]),Z⟩
abbrev Mx:Int:=1000000000000000
def BM:List Int ->Int
 | []=>0
 | e::r=>if e=0 then BM r else e
theorem Z3 (a:k<g.length):BM ((g.drop k).map h)=if h g[k]=0 then BM ((g.drop (k+1)).map h) else h g[k]:=by
 rw [kI a];rfl
theorem DK (a:¬k<g.length):BM ((g.drop k).map h)=0:=by
 rw [jt (by omega)];rfl
theorem kB {l:List c} {k:Nat} (b:k<l.length) (a:E=BM ((l.drop k).map h)):(h l[k]=0 ->E=BM ((l.drop (k+1)).map h))/\∀e,h l[k]=e ->e≠0 ->e=E:=by grind [Z3]
def IU (p:FT):Int:=if p.acc.o=[]\/p.acc.a=[] then 6 else if ¬(0<=p.acc.k/\p.acc.k<=4) then 11 else if ¬(-Mx<=p.d/\p.d<=Mx) then 12 else 0
def JS (p:MW):Int:=if p.f=[]\/p.t=[] then 6 else if p.f=p.t then 7 else if ¬(0<=p.n/\p.n<=Mx) then 2 else 0
def MT (id:Int) (l:List Int) (k:Nat):Int:=if ¬(0<=l.getD k 0/\l.getD k 0<=1000000000) then 2 else if l.getD k 0=id\/l.getD k 0∈l.take k then 7 else 0
def Ff (i:AI):Int:=BM (i.po.map IU)
def KO (i:AI):Int:=BM (i.pa.map JS)
def NC (i:AI):Int:=BM ((List.range i.af.length).map (MT i.id i.af))
def Bj (l:List FT) (a:List UInt8):Int:=(l.map λp=>if p.acc.a=a then p.d else 0).sum
def LJ (i:AI):Int:=if ∃p∈i.po,Bj i.po p.acc.a≠0 then 14 else 0
theorem Du (b:k<g.length) (h:x∉g.take k) (a:x≠g[k]):x∉g.take (k+1):=by
 rw [ψ b,υ]
 simp [h,a]
theorem I3 (a:¬k<g.length) (h:x∉g.take k):x∉g:=by
 rwa [κ (by omega)] at h
def Vq (x:Int) (l:List Int):Int:=if x∈l then (l.idxOf x:Int) else -1
theorem Tq {l:List Int} {x:Int} (a:k<l.length) (h:x∉l.take k) (b:x=l[k]):Vq x l=(k:Int):=by grind [Vq,kI,kH]
theorem X6 (l:List Int) (x:Int) (i:l.length<=140737488355328):AK prog 176 [.d (.sl none (l.map AF)),.d (AF x)] (AF (Vq x l)):=by
 refine At func176 Z Z ntmps176 Z Z Z λF j=>(AC (AE (AB Z Z (AD ?_))));refine AC (AC (AE (fZ Z Z (J (Ba Z ch Z) (fZ Z Z (AD (AZ (G7 (α:=Nat) (λk=>⟨19,[(0,.d (.sl none (l.map AF))),(1,.d (AF x)),(7,(.d (AF (l.length:Int)))),(8,(.d (AF (k:Int))))],[]⟩) (λk=>k<=l.length/\x∉l.take k) (λk=>l.length - k) (0) (⟨ζ _,by simp⟩) (Zz E0) ?_))))))));rintro k ⟨g,c⟩;refine AC (AE (J (BB Z Z Z) (AD (AC (A9 Z (λf=>?_) (λf=>?_))))))
 .have a:k<l.length:=BR f;refine AX (AC (AZ (AC (AE (fZ Z Z (AB Z Z (AD (AC ?_))))))));refine AE (fZ Z Z (fZ Z Z (fZ Z Z (J (BJ (k) Z Z (Z) (A5 a) ch Z BU Z) (J (CI Z Z An Z) (J (GF Z Z Z) (AD (A9 Z (λb=>?_) (λb=>?_)))))))))
  .refine AC (AE (fZ Z Z (AB Z Z (AD (A4 ?_)))));exact ⟨_,[],[],A2 Z,Z,Z,Ab (Tq a c b).symm,Z⟩
  .refine AX (AE (J (Al Z Z (AM (k+1) (by omega)) Z) (fZ Z Z (AD ?_))));exact ⟨k+1,⟨by show k+1<=_;omega,Du a c b⟩,by show l.length - (k+1)<l.length - k;omega,⟨Z,Z,λ_ _=>SU.get (l:=[(0,_),(1,_),(7,_),(8,_)]) E0⟩⟩
 .refine Aw (AC (AE (AB Z Z (AD (A4 ?_)))));exact ⟨_,[],[],A2 Z,Z,Z,Ab (by unfold Vq;rw [θ (I3 (by have h:=f;omega) c)]),Z⟩
theorem Oy (l:List Int) (x:Int) (a:l.length<=140737488355328):AK prog 179 [.d (.sl none (l.map AF)),.d (AF x)] (.raw (.bool (decide (x∈l)))):=by
 refine At func179 Z Z ntmps179 Z Z Z λF b=>(AC (AE (AB Z Z (AD ?_))));refine AC (AE (fZ Z Z (fZ Z Z (J (As (X6 l x a) Z Z) (J (EJ Z Z Z) (AB Z Z (AD (A4 ?_))))))));exact ⟨_,[],[],A2 Z,Z,Z,V1 (by unfold Vq;split<;>rename_i h<;>simp [h]<;>omega),Z⟩
theorem tG (l:List Int) (x:Int) (i:l.length<=140737488355328):AK prog 151 [.d (.sl none (l.map AF)),.d (AF x)] (.raw (.bool (decide (x∈l)))):=by
 refine At func151 Z Z ntmps151 Z Z Z λF j=>(AC (AE ?_));refine AB Z Z (AD (AC (AC (AE (AB Z Z (AD (AZ (G7 (α:=Nat) (λk=>⟨18,[(0,.d (.sl none (l.map AF))),(1,.d (AF x)),(5,(.d (AF (k:Int))))],[]⟩) (λk=>k<=l.length/\x∉l.take k) (λk=>l.length - k) (0) (⟨ζ _,by simp⟩) (Zz Qs) ?_))))))));rintro k ⟨g,f⟩;refine AC (AC (AE (fZ Z Z (fZ Z Z (J (Ba Z ch Z) (J (BB Z Z Z) (AD (A9 Z (λc=>?_) (λc=>?_)))))))))
 .have a:k<l.length:=BR c;refine AX (AC (AZ (AC ?_)));refine AE (fZ Z Z (fZ Z Z (J (BJ (k) Z Z (Z) (A5 a) ch Z BU Z) (J (CI Z Z An Z) (fZ Z Z (J (GF Z Z Z) (AD (A9 Z (λb=>?_) (λb=>?_)))))))))
  .refine AC (AE (AB Z Z (AD (A4 ?_))));exact ⟨_,[],[],A2 Z,Z,Z,Yg (by rw [<-b];exact ξ a),Z⟩
  .refine AX (AE (fZ Z Z (J (Al Z Z (AM (k+1) (by omega)) Z) (AB Z Z (AD ?_)))));exact ⟨k+1,⟨by show k+1<=_;omega,Du a f (λe=>b e.symm)⟩,by show l.length - (k+1)<l.length - k;omega,⟨Z,Z,λ_ _=>SU.get (l:=[(0,_),(1,_),(5,_)]) Qs⟩⟩
 .refine Aw (AC (AE (AB Z Z (AD (A4 ?_)))));exact ⟨_,[],[],A2 Z,Z,Z,J9 (I3 (by have h:=c;omega) f),Z⟩
theorem V9 (i:AI) (t:i.po.length<=140737488355328):AK prog 168 [.d (Ag i)] (AF (Ff i)):=by
 refine At func168 Z Z ntmps168 Z Z Z λF r=>(AC (AE (V (Bo 1 Z Z Z Z Z Z Z) (AB Z Z (AD (AC ?_))))));refine AC (AE (J (AN Z G3 Z Z Z) (J (AP Z Z Z Vd Z) (J (Ba Z fW Z) (fZ Z Z (AD (AZ (BO (α:=Nat) (λk=>⟨35,[(1,(.ptr 1 0 0)),(6,(.d (.sl none (i.po.map B7)))),(7,(.d (AF (i.po.length:Int)))),(8,(.d (AF (k:Int))))],[(1,[.blk 55 [.d (AF i.id),.d (AF i.pr),.d (AF i.sq),.d (.sl none (i.po.map B7)),.d (.sl none (i.pa.map Cp)),.d (.sl none (i.af.map AF))]])]⟩) (λk=>k<=i.po.length/\Ff i=BM ((i.po.drop k).map IU)) (λk=>i.po.length - k) (0) (⟨ζ _,Z⟩) (AY r [1] Z Z E0) ?_))))))));rintro k ⟨s,o⟩;refine AC (AE (J (BB Z Z Z) (AD (AC (A9 Z (λl=>?_) (λl=>?_))))))
 .have g:k<i.po.length:=BR l;refine AX (AC (AZ (AC (AE ?_))));have j:=kB g o;refine J (BJ (k) Z Z (Z) (A5 g) fW Z Pt Z) (J (DM Z Z bO Z) (V (By 2 Pq Z Z Z Z) (V (B3 Z Z Z Z Z Z Z Pt) (AD ?_))));refine AZ (AC (AE (J (AN Z Kx Z Z Z) (J (AN Z Rl Z Z Z) (J (AP Z Z Z CK Z) (J (Jx Z Z Z) (fZ Z Z (C3 17 Z (λa=>?_) (λa=>?_)))))))))
  .refine AL Z Z Z Z (AL Z Z Z Z (AL Z Z Z Z (AL Z Z Z Z ?_)));refine J (B5 Z Z Z Z) (AB Z Z (AD (Bx Z Z (AC (AE (AB Z Z (AD (A4 ?_))))))));exact ⟨_,[],[],A2 Z,Z,Z,Ab (j.2 6 (by unfold IU;rw [ϱ (.inl a)]) (by decide)),Z⟩
  .refine AQ Z Z Z (J (AN Z Kx Z Z Z) (AQ Z Z Z ?_));refine J (AN Z Ol Z Z Z) (AQ Z Z Z (J (AP Z Z Z CK Z) (AQ Z Z Z (J (Jx Z Z Z) (J (Bk Z Z Z Z) (AB Z Z (AD (A9 Z (λb=>?_) (λb=>?_)))))))))
   .refine AC (AE (AB Z Z (AD (A4 ?_))));exact ⟨_,[],[],A2 Z,Z,Z,Ab (j.2 6 (by unfold IU;rw [ϱ (.inr b)]) (by decide)),Z⟩
   .refine AC ?_;refine AE (J (AN Z Kx Z Z Z) (J (AN Z Om Z Z Z) (J (AP Z Z Z An Z) (J (As (IL _ _ _) Z Z) (J (Jw Z Z) (AB Z Z (AD (A9 Z (λc=>?_) (λc=>?_)))))))))
    .refine AC (AE (AB Z Z (AD (A4 ?_))));exact ⟨_,[],[],A2 Z,Z,Z,Ab (j.2 11 (by unfold IU;rw [θ (by simp [a,b]),ϱ c]) (by decide)),Z⟩
    .refine AC (AE (J (AN Z Rq Z Z Z) (J (AP Z Z Z GE Z) (J (As (HK _ _ _) Z Z) (J (Jw Z Z) (AB Z Z (AD (A9 Z (λf=>?_) (λf=>?_)))))))))
     .refine AC (AE (AB Z Z (AD (A4 ?_))));exact ⟨_,[],[],A2 Z,Z,Z,Ab (j.2 12 (by unfold IU;rw [θ (by simp [a,b]),θ c,ϱ f]) (by decide)),Z⟩
     .refine AX (AE (J (Al Z Z (AM (k+1) (by omega)) Z) (fZ Z Z (AD ?_))));exact ⟨k+1,⟨by show k+1<=_;omega,j.1 (by unfold IU;rw [θ (by simp [a,b]),θ c,θ f])⟩,by show i.po.length - (k+1)<i.po.length - k;omega,AY r [1] Z (Z) E0⟩
 .refine Aw (AC (AE (AB Z Z (AD (A4 ?_)))));exact ⟨_,[],[],A2 Z,Z,Z,Ab (by rw [o,DK (by have h:=l;omega)]),Z⟩
theorem Va (i:AI) (t:i.pa.length<=140737488355328):AK prog 169 [.d (Ag i)] (AF (KO i)):=by
 refine At func169 Z Z ntmps169 Z Z Z λF r=>(AC (AE (V (Bo 1 Z Z Z Z Z Z Z) (AB Z Z (AD (AC ?_))))));refine AC (AE (J (AN Z Hj Z Z Z) (J (AP Z Z Z Yu Z) (J (Ba Z fY Z) (fZ Z Z (AD (AZ (BO (α:=Nat) (λk=>⟨33,[(1,(.ptr 1 0 0)),(6,(.d (.sl none (i.pa.map Cp)))),(7,(.d (AF (i.pa.length:Int)))),(8,(.d (AF (k:Int))))],[(1,[.blk 55 [.d (AF i.id),.d (AF i.pr),.d (AF i.sq),.d (.sl none (i.po.map B7)),.d (.sl none (i.pa.map Cp)),.d (.sl none (i.af.map AF))]])]⟩) (λk=>k<=i.pa.length/\KO i=BM ((i.pa.drop k).map JS)) (λk=>i.pa.length - k) (0) (⟨ζ _,Z⟩) (AY r [1] Z Z E0) ?_))))))));rintro k ⟨s,o⟩;refine AC (AE (J (BB Z Z Z) (AD (AC (A9 Z (λl=>?_) (λl=>?_))))))
 .have g:k<i.pa.length:=BR l;refine AX (AC (AZ (AC (AE ?_))));have j:=kB g o;refine J (BJ (k) Z Z (Z) (A5 g) fY Z Wc Z) (J (DM Z Z nf Z) (V (By 2 nT Z Z Z Z) (V (B3 Z Z Z Z Z Z Z Wc) ?_)));refine AD (AZ (AC (AE (J (AN Z Kw Z Z Z) (J (AP Z Z Z CK Z) (J (Jx Z Z Z) (fZ Z Z (C3 16 Z (λa=>?_) (λa=>?_)))))))))
  .refine AL Z Z Z Z (AL Z Z Z Z (AL Z Z Z Z ?_));refine J (B5 Z Z Z Z) (AB Z Z (AD (Bx Z Z (AC (AE (AB Z Z (AD (A4 ?_))))))));exact ⟨_,[],[],A2 Z,Z,Z,Ab (j.2 6 (by unfold JS;rw [ϱ (.inl a)]) (by decide)),Z⟩
  .refine AQ Z Z Z ?_;refine J (AN Z Kv Z Z Z) (AQ Z Z Z (J (AP Z Z Z CK Z) (AQ Z Z Z (J (Jx Z Z Z) (J (Bk Z Z Z Z) (AB Z Z (AD (A9 Z (λb=>?_) (λb=>?_)))))))))
   .refine AC (AE (AB Z Z (AD (A4 ?_))));exact ⟨_,[],[],A2 Z,Z,Z,Ab (j.2 6 (by unfold JS;rw [ϱ (.inr b)]) (by decide)),Z⟩
   .refine AC ?_;refine AE (J (AN Z Kw Z Z Z) (J (AP Z Z Z CK Z) (J (AN Z Kv Z Z Z) (J (AP Z Z Z CK Z) (J (Jx Z Z Z) (AB Z Z (AD (A9 Z (λc=>?_) (λc=>?_)))))))))
    .refine AC (AE (AB Z Z (AD (A4 ?_))));exact ⟨_,[],[],A2 Z,Z,Z,Ab (j.2 7 (by unfold JS;rw [θ (by simp [a,b]),ϱ c]) (by decide)),Z⟩
    .refine AC (AE (J (AN Z Ku Z Z Z) (J (AP Z Z Z GE Z) (J (As (HK _ _ _) Z Z) (J (Jw Z Z) (AB Z Z (AD (A9 Z (λf=>?_) (λf=>?_)))))))))
     .refine AC (AE (AB Z Z (AD (A4 ?_))));exact ⟨_,[],[],A2 Z,Z,Z,Ab (j.2 2 (by unfold JS;rw [θ (by simp [a,b]),θ c,ϱ f]) (by decide)),Z⟩
     .refine AX (AE (J (Al Z Z (AM (k+1) (by omega)) Z) (fZ Z Z (AD ?_))));exact ⟨k+1,⟨by show k+1<=_;omega,j.1 (by unfold JS;rw [θ (by simp [a,b]),θ c,θ f])⟩,by show i.pa.length - (k+1)<i.pa.length - k;omega,AY r [1] Z (Z) E0⟩
 .refine Aw (AC (AE (AB Z Z (AD (A4 ?_)))));exact ⟨_,[],[],A2 Z,Z,Z,Ab (by rw [o,DK (by have h:=l;omega)]),Z⟩
theorem nF {n k:Nat} {f:Nat ->Int} {E:Int} (a:k<n) (h:E=BM (((List.range n).drop k).map f)):(f k=0 ->E=BM (((List.range n).drop (k+1)).map f))/\∀e,f k=e ->e≠0 ->e=E:=by
 have:=kB (l:=List.range n) (k:=k) (by simpa using a) h
 grind
theorem mp (i:AI) (t:i.af.length<=140737488355328):AK prog 170 [.d (Ag i)] (AF (NC i)):=by
 refine At func170 Z Z ntmps170 Z Z Z λF r=>(AC (AE (V (Bo 1 Z Z Z Z Z Z Z) (AB Z Z (AD (AC ?_))))));refine AC (AE (J (AN Z EV Z Z Z) (J (AP Z Z Z BL Z) (J (Ba Z ch Z) (fZ Z Z (AD (AZ (BO (α:=Nat) (λk=>⟨31,[(1,(.ptr 1 0 0)),(6,(.d (.sl none (i.af.map AF)))),(7,(.d (AF (i.af.length:Int)))),(8,(.d (AF (k:Int))))],[(1,[.blk 55 [.d (AF i.id),.d (AF i.pr),.d (AF i.sq),.d (.sl none (i.po.map B7)),.d (.sl none (i.pa.map Cp)),.d (.sl none (i.af.map AF))]])]⟩) (λk=>k<=i.af.length/\NC i=BM (((List.range i.af.length).drop k).map (MT i.id i.af))) (λk=>i.af.length - k) (0) (⟨ζ _,Z⟩) (AY r [1] Z Z E0) ?_))))))));rintro k ⟨s,o⟩;refine AC (AE (J (BB Z Z Z) (AD (AC (A9 Z (λl=>?_) (λl=>?_))))))
 .have b:k<i.af.length:=BR l;refine AX (AC (AZ (AC (AE ?_))));have j:=nF b o;have g:i.af.getD k 0=i.af[k]:=by simp [b]
  refine fZ Z Z (J (BJ (k) Z Z (Z) (A5 b) ch Z BU Z) (J (CI Z Z An Z) (AB Z Z (AB Z Z (AD ?_)))));refine AZ (AC (AE (fZ Z Z (J (As (IL _ _ _) Z Z) (J (Jw Z Z) (AB Z Z (AD (A9 Z (λa=>?_) (λa=>?_)))))))))
  .refine AC (AE (AB Z Z (AD (A4 ?_))));exact ⟨_,[],[],A2 Z,Z,Z,Ab (j.2 2 (by unfold MT;rw [g,ϱ a]) (by decide)),Z⟩
  .refine AC (AE (fZ Z Z (J (AN Z PQ Z Z Z) (J (AP Z Z Z An Z) (J (GF Z Z Z) (fZ Z Z (C3 22 Z (λc=>?_) (λc=>?_))))))))
   .refine AL Z Z Z Z (AL Z Z Z Z (AL Z Z Z Z (AL Z Z Z Z (AL Z Z Z Z (AL Z Z Z Z ?_)))));refine J (B5 Z Z Z Z) (AB Z Z (AD (Bx Z Z (AC (AE (AB Z Z (AD (A4 ?_))))))));exact ⟨_,[],[],A2 Z,Z,Z,Ab (j.2 7 (by unfold MT;rw [g,θ a,ϱ (.inl c)]) (by decide)),Z⟩
   .refine AQ Z Z Z (J (AN Z EV Z Z Z) (AQ Z Z Z (J (AP Z Z Z BL Z) (AQ Z Z Z (fZ Z Z (AQ Z Z Z ?_))))));refine J (kC (i.af) (k) Z Z Z (Z) (by omega) ch BU (λ_=>rfl) Z) (AQ Z Z Z (fZ Z Z (AQ Z Z Z (J (As (Oy (i.af.take k) _ (by simp;omega)) Z Z) (J (Bk Z Z Z Z) (AB Z Z (AD (A9 Z (λf=>?_) (λf=>?_)))))))))
    .refine AC (AE (AB Z Z (AD (A4 ?_))));exact ⟨_,[],[],A2 Z,Z,Z,Ab (j.2 7 (by unfold MT;rw [g,θ a,ϱ (.inr f)]) (by decide)),Z⟩
    .refine AX (AE (J (Al Z Z (AM (k+1) (by omega)) Z) (fZ Z Z (AD ?_))));exact ⟨k+1,⟨by show k+1<=_;omega,j.1 (by unfold MT;rw [g,θ a,θ (by simp [c];exact f)])⟩,by show i.af.length - (k+1)<i.af.length - k;omega,AY r [1] Z (Z) E0⟩
 .refine Aw (AC (AE (AB Z Z (AD (A4 ?_)))));exact ⟨_,[],[],A2 Z,Z,Z,Ab (by rw [o,DK (by simp;have h:=l;omega)]),Z⟩
theorem G6 (l:List FT) (p:FT) (a:List UInt8):Bj (l++ [p]) a=Bj l a+if p.acc.a=a then p.d else 0:=by simp [Bj]
theorem In (l:List FT) (a:List UInt8) (h:∀p∈l,-Mx<=p.d/\p.d<=Mx): -(l.length*1000000000000000)<=Bj l a/\Bj l a<=l.length*1000000000000000:=by
 induction l with
 | nil=>simp [Bj]
 | cons p r b=>
  have f:=b λq c=>h q (by simp [c])
  grind [Bj]
def Ur (l:List FT) (M:List (List UInt8×Int)):Prop:=(M.map Prod.fst).Nodup/\(∀a,Aa M a 0=Bj l a)/\(∀a,a∈M.map Prod.fst ->∃p∈l,p.acc.a=a)/\∀p∈l,p.acc.a∈M.map Prod.fst
theorem iD {g:Type} [DecidableEq c] {M:List (c×g)} {a f:c} {b:g}:f∈(BS M a b).map Prod.fst↔f=a\/f∈M.map Prod.fst:=by grind [Ln]
variable {f:List FT}
theorem Ur.snoc (h:Ur f M) (p:FT):Ur (f++ [p]) (BS M p.acc.a (Aa M p.acc.a 0+p.d)):=by
 obtain ⟨i,k,j,g⟩:=h;refine ⟨OV i,λa=>?_,λa c=>?_,λq b=>?_⟩
 .grind [Gs,G6]
 .rcases iD.1 c with e | e
  .grind
  grind
 .rcases υ.1 b with b | b
  .exact iD.2 (.inr (g q b))
  .simp at b;subst b;exact iD.2 (.inl Z)
variable {t:AI}
theorem mj (h:Ur t.po M) {j:Nat} {a:List UInt8} {v:Int} (l:M[j]? =some (a,v)) (g:v≠0):(14:Int)=LJ t:=by
 have b:=ϑ l;have c:=D7 (z:=0) h.1 b;rw [h.2.1] at c;obtain ⟨p,k,e⟩:=h.2.2.1 a (jW (f:=Prod.fst) b);unfold LJ;rw [ϱ ⟨p,k,by rw [e,c];exact g⟩]
theorem qm (h:Ur t.po M) (a:∀x∈M,x.2=0):(0:Int)=LJ t:=by grind [LJ,I2,Ur]
theorem Qz (h:∀p∈f,-Mx<=p.d/\p.d<=Mx):∀p∈f.take k,-Mx<=p.d/\p.d<=Mx:=λp a=>h p (iQ a)
theorem WQ (i:AI) (G:i.po.length<=256) (A:∀p∈i.po,-Mx<=p.d/\p.d<=Mx):AK prog 171 [.d (Ag i)] (AF (LJ i)):=by
 refine At func171 Z Z ntmps171 Z Z Z λF u=>(AC (AE ?_));refine V (Bo 1 Z Z Z Z Z Z Z) (AB Z Z (AD (AC (AE (V (PY 2 Z Z Z Z) (AB Z Z (AD (AC ?_))))))));refine AC (AE (J (AN Z G3 Z Z Z) (J (AP Z Z Z Vd Z) (J (Ba Z fW Z) (fZ Z Z (AD (AZ (BO (α:=Nat×List (List UInt8×Int)) (λq=>⟨33,[(3,(.map 2 0)),(10,(.d (.sl none (i.po.map B7)))),(11,(.d (AF (i.po.length:Int)))),(12,(.d (AF (q.1:Int))))],[(2,[BT Am AF q.2])]⟩) (λq=>q.1<=i.po.length/\Ur (i.po.take q.1) q.2) (λq=>i.po.length - q.1) ((0,[])) (⟨ζ _,⟨by simp,by simp [Bj,Aa],by simp,by simp⟩⟩) (AY u [2] Z Z E0) ?_))))))));rintro ⟨k,M⟩ ⟨w,s⟩;dsimp only at w s⊢;refine AC (AE (J (BB Z Z Z) (AD (AC (A9 Z (λg=>?_) (λg=>?_))))))
 .have c:k<i.po.length:=BR g;refine AX (AC (AZ (AC (AE ?_))));have z:=A _ (ξ c);have y:=In (i.po.take k) i.po[k].acc.a (Qz A);rw [<-s.2.1,ϖ] at y;simp only [Mx] at z;refine J (BJ (k) Z Z (Z) (A5 c) fW Z Pt Z) (J (DM Z Z bO Z) ?_);refine V (By 3 Pq Z Z Z Z) (V (B3 Z Z Z Z Z Z Z Pt) (AD (AE (fZ Z Z (J (AN Z Kx Z Z Z) (J (AN Z Ol Z Z Z) (J (AP Z Z Z CK Z) (J (II (M) (i.po[k].acc.a) (0) _ Z Z Z c7 vB PU Z Z) ?_))))))));refine J (AN Z Rq Z Z Z) (J (AP Z Z Z GE Z) (J (Al Z Z (Ξ _ (by omega)) Z) (V (Uo (M) (i.po[k].acc.a) (Aa M i.po[k].acc.a 0+i.po[k].d) Z Z Z c7 vB Z Z) (AD (AE (J (Al Z Z (AM (k+1) (by omega)) Z) (fZ Z Z (AD ?_))))))));exact ⟨(k+1,_),⟨by show k+1<=_;omega,by have:=s.snoc i.po[k];rwa [<-ψ c] at this⟩,by show i.po.length - (k+1)<i.po.length - k;omega,AY u [2] Z (Z) E0⟩
 .refine Aw (AC (AC ?_));have r:Ur i.po M:=by rw [κ (by have h:=g;omega)] at s;exact s
  refine AE (fZ Z Z (V (Gg 4 Z Z Z c7 Z Z Z Z) (AD (AZ (BO (α:=List Nat) (λseen=>⟨33,[(26,(.ptr 4 0 0))],[(4,[.iter 2 0 M.length seen]),(2,[BT Am AF M])]⟩) (λseen=>∀x∈M,x∈Bz M (List.range M.length) seen\/x.2=0) (λseen=>(Bz M (List.range M.length) seen).length) ([]) (λx j=> .inl (by rw [nG (by simp)];exact j)) (AY u [4,2] Z Z ⟨Z,trivial⟩) ?_)))));intro seen B;refine AC (AE (Lk (M) Z Z Z Z (λl=>?_) (λv t E D b o C a=>⟨_,Z,?_⟩)))
  .refine J (DC Z Z Z) ?_;refine AD (AC (Cm Z Z (Aw (AC (AE (AB Z Z (AD (A4 ?_))))))));exact ⟨_,[],[],A2 Z,Z,Z,Ab (qm r λx j=>(B x j).elim (λh=>by rw [l] at h;cases h) id),Z⟩
  .refine J (DC Z Z Z) (AD (AC (Bx Z Z (AX (AZ (AC (AE (J (Gh (M) v t Z Z Z b o Z) ?_))))))));refine J (DC Z Z Z) (AB Z Z (AD (AC (AE (fZ Z Z (J (Cw Z Z Z) (AD (A9 Z (λf=>?_) (λf=>?_)))))))))
   .refine AC (AE (AB Z Z (AD (A4 ?_))));exact ⟨_,[],[],A2 Z,Z,Z,Ab (mj r b f),Z⟩
   .refine AX ?_;exact ⟨seen++ [t],λx j=>(B x j).elim (λh=>(Υ.1 (a.mem_iff.1 h)).elim (λe=> .inr (by rw [e];simpa using f)) .inl) .inr,by rw [a.length_eq];exact io _,AY u [4,2] Z (Z) ⟨Z,trivial⟩⟩
abbrev ms:Ut:=⟨[],0,[]⟩
abbrev Gl (p:FT):AT:=⟨0,p.acc,[],[]⟩
abbrev CE (f t:List UInt8):AT:=⟨1,ms,f,t⟩
abbrev DH (f:List UInt8):AT:=⟨2,ms,f,[]⟩
def fD (M:List (AT×Int)) (x:AT×Int):List (AT×Int):=BS M x.1 (Aa M x.1 0+x.2)
def Dy (l:List FT):List (AT×Int):=l.map λp=>(Gl p,p.d)
def ML (p:MW):List (AT×Int):=[(CE p.f p.t,-p.n),(CE p.t p.f,p.n),(DH p.f,-p.n),(DH p.t,p.n)]
def HB (l:List MW):List (AT×Int):=l.flatMap ML
def gN (i:AI):List (AT×Int):=Dy i.po++HB i.pa
def fq (l:List (AT×Int)):List (AT×Int):=l.foldl fD []
def Ai (l:List (AT×Int)) (r:AT):Int:=(l.map λx=>if x.1=r then x.2 else 0).sum
theorem YB (l:List (AT×Int)) (x:AT×Int):fq (l++ [x])=fD (fq l) x:=by simp [fq]
theorem G5 (l m:List (AT×Int)) (r:AT):Ai (l++m) r=Ai l r+Ai m r:=by simp [Ai]
theorem WJ (x:AT×Int) (r:AT):Ai [x] r=if x.1=r then x.2 else 0:=by simp [Ai]
theorem Zp {α:Type} {p:List α ->Prop} (h0:p []) (h1:∀l x,p l ->p (l++ [x])) (l:List α):p l:=by
 have:∀m:List α,p m.reverse:=λm=>by
  induction m with
  | nil=>exact h0
  | cons x r ih=>rw [List.reverse_cons];exact h1 _ _ ih
 have:=this l.reverse
 grind
theorem KC (l:List (AT×Int)) (r:AT):Aa (fq l) r 0=Ai l r:=by
 revert r
 refine Zp (p:=λl=>∀r,Aa (fq l) r 0=Ai l r) (λr=>rfl) (λl x a r=>?_) l;rw [YB,fD,Gs,G5,WJ]
 grind
theorem F8 (l:List (AT×Int)):((fq l).map Prod.fst).Nodup:=
 Zp (p:=λl=>((fq l).map Prod.fst).Nodup) (by simp [fq]) (λl x a=>by rw [YB];exact OV a) l
theorem Ix (l:List (AT×Int)) (r:AT):r∈(fq l).map Prod.fst↔r∈l.map Prod.fst:=by
 refine Zp (p:=λl=>r∈(fq l).map Prod.fst↔r∈l.map Prod.fst) (by simp [fq]) (λl x a=>?_) l;rw [YB,fD,iD,a]
 simp [or_comm]
def P2 (l:List (AT×Int)):Prop:=∀x∈l,-1000000000000000<=x.2/\x.2<=1000000000000000
theorem Hr {l:List (AT×Int)} (h:P2 l) (r:AT): -(l.length*1000000000000000)<=Ai l r/\Ai l r<=l.length*1000000000000000:=by
 induction l with
 | nil=>simp [Ai]
 | cons x l a=>
  grind [Ai,P2]
structure jL (i:AI):Prop where
 po:i.po.length<=256
 pa:i.pa.length<=256
 af:i.af.length<=256
 d:∀p∈i.po,-Mx<=p.d/\p.d<=Mx
 n:∀p∈i.pa,0<=p.n/\p.n<=Mx
theorem Ig (l:List MW):(HB l).length=4*l.length:=by
 induction l with
 | nil=>rfl
 | cons p r a=>simp only [HB,List.flatMap_cons,Δ,jZ] at a⊢;rw [a];simp [ML];omega
theorem oH (h:∀p∈f,-Mx<=p.d/\p.d<=Mx):P2 (Dy f):=by grind [P2,Dy]
variable {s:MW}
theorem oM (h:0<=s.n/\s.n<=Mx):P2 (ML s):=by grind [ML,P2]
variable {o:List MW}
theorem tT (h:∀p∈o,0<=p.n/\p.n<=Mx):P2 (HB o):=λx a=>by
 obtain ⟨p,b,a⟩:=jQ.1 a;exact oM (h p b) x a
variable {a:List (AT×Int)}
theorem P2.append {m:List (AT×Int)} (h:P2 a) (c:P2 m):P2 (a++m):=λx b=>(υ.1 b).elim (h x) (c x)
theorem P2.take (h:P2 a) (k:Nat):P2 (a.take k):=λx b=>h x (iQ b)
theorem F7 {l:List (AT×Int)} (h:P2 l) (a:l.length<=2000) (r:AT): -2000000000000000000<=Aa (fq l) r 0/\Aa (fq l) r 0<=2000000000000000000:=by
 have:=Hr h r;rw [KC];omega
theorem Qg (a:k<f.length):Dy (f.take (k+1))=Dy (f.take k)++ [(Gl f[k],f[k].d)]:=by
 simp only [Dy];rw [ψ a,Ω];rfl
theorem Qf (a:k<o.length):HB (o.take (k+1))=HB (o.take k)++ML o[k]:=by
 simp only [HB];rw [ψ a,List.flatMap_append];simp
def gD (M:List (AT×Int)) (p:MW):List (AT×Int):=BS M (CE p.f p.t) (Aa M (CE p.f p.t) 0 - p.n)
def gC (M:List (AT×Int)) (p:MW):List (AT×Int):=BS M (CE p.t p.f) (Aa M (CE p.t p.f) 0+p.n)
def jw (M:List (AT×Int)) (p:MW):List (AT×Int):=BS M (DH p.f) (Aa M (DH p.f) 0 - p.n)
def vL (M:List (AT×Int)) (p:MW):List (AT×Int):=BS M (DH p.t) (Aa M (DH p.t) 0+p.n)
variable {i:List (AT×Int)}
theorem ax {p:MW} (h:i=fq a):gD i p=fq (a++ [(CE p.f p.t,-p.n)])/\gC (gD i p) p=fq (a++ [(CE p.f p.t,-p.n),(CE p.t p.f,p.n)])/\jw (gC (gD i p) p) p=fq (a++ [(CE p.f p.t,-p.n),(CE p.t p.f,p.n),(DH p.f,-p.n)])/\vL (jw (gC (gD i p) p) p) p=fq (a++ML p):=by
 subst h;have e:∀(a:List (AT×Int)) (x:AT×Int) (r:List (AT×Int)),a++x::r=(a++ [x])++r:=by simp
 refine ⟨?_,?_,?_,?_⟩
 .rw [YB];rfl
 .rw [e,YB,YB];rfl
 .rw [e,e,YB,YB,YB];rfl
 .rw [ML,e,e,e,YB,YB,YB,YB];rfl
theorem ar (h:i=fq a) (c:P2 a) (t:a.length<=1900) (g:0<=s.n/\s.n<=Mx) (r:AT):(-2000000000000000000<=Aa i r 0/\Aa i r 0<=2000000000000000000)/\(-2000000000000000000<=Aa (gD i s) r 0/\Aa (gD i s) r 0<=2000000000000000000)/\(-2000000000000000000<=Aa (gC (gD i s) s) r 0/\Aa (gC (gD i s) s) r 0<=2000000000000000000)/\(-2000000000000000000<=Aa (jw (gC (gD i s) s) s) r 0/\Aa (jw (gC (gD i s) s) s) r 0<=2000000000000000000):=by
 obtain ⟨o,k,j,_⟩:=ax (p:=s) h;have b:=oM g;rw [j,k,o,h];refine ⟨F7 c (by omega) r,F7 (c.append λx f=>b x ?_) (by simp;omega) r,F7 (c.append λx f=>b x ?_) (by simp;omega) r,F7 (c.append λx f=>b x ?_) (by simp;omega) r⟩
 all_goals (grind [ML])
set_option maxHeartbeats 1000000 in
theorem RB (i:AI) (j:jL i):AO prog 125 [.d (Ag i)] [] λr H=>r= .map 2 0/\H=[(2,[BT Bc AF (fq (gN i))])]:=by
 have E:=j.po;have G:=j.pa;refine At func125 Z Z ntmps125 Z Z Z λF x=>(AC (AE ?_));refine V (Bo 1 Z Z Z Z Z Z Z) (AB Z Z (AD (AC (AE (V (PY 2 Z Z Z Z) (AB Z Z (AD (AC ?_))))))));refine AC (AE (J (AN Z G3 Z Z Z) (J (AP Z Z Z Vd Z) (J (Ba Z fW Z) (fZ Z Z (AD (AZ (BO (α:=Nat×List (AT×Int)) (λq=>⟨80,[(1,(.ptr 1 0 0)),(3,(.map 2 0)),(10,(.d (.sl none (i.po.map B7)))),(11,(.d (AF (i.po.length:Int)))),(12,(.d (AF (q.1:Int))))],[(2,[BT Bc AF q.2]),(1,[.blk 55 [.d (AF i.id),.d (AF i.pr),.d (AF i.sq),.d (.sl none (i.po.map B7)),.d (.sl none (i.pa.map Cp)),.d (.sl none (i.af.map AF))]])]⟩) (λq=>q.1<=i.po.length/\q.2=fq (Dy (i.po.take q.1))) (λq=>i.po.length - q.1) ((0,[])) (⟨ζ _,Z⟩) (AY x [2,1] Z Z F0) ?_))))))));rintro ⟨k,M⟩ ⟨z,w⟩;dsimp only at z w⊢;refine AC (AE (J (BB Z Z Z) (AD (AC (A9 Z (λs=>?_) (λs=>?_))))))
 .have c:k<i.po.length:=BR s;refine AX (AC (AZ (AC (AE ?_))));have B:=j.d _ (ξ c);simp only [Mx] at B;have A:=F7 (l:=Dy (i.po.take k)) (oH (Qz j.d)) (by simp [Dy];omega) (Gl i.po[k]);rw [<-w] at A;refine J (BJ (k) Z Z (Z) (A5 c) fW Z Pt Z) (J (DM Z Z bO Z) (V (By 3 Pq Z Z Z Z) (V (B3 Z Z Z Z Z Z Z Pt) (AD (CZ [[],[],[1],[1,2],[0,1,2,3],[],[5],rg 7,[0,1,2,3,5,6],[0,1,2,3,5,6,8],rg 10] mixed Z (Z5 2 ([BT Bc AF (Bb M (Gl i.po[k]) 0)]) Z ?_))))));refine Av 3 Z Z (AU [5] Z (AN Z Kx Z Z Z) (Au [17] Z Z (λ_=>Ae (Ay Z Z ou Z Z Z)) (AU [18] Z (FD Jy TK Z Z Z) (JO [16,19] [] Z Z Z (λ_=>Ae (II (M) (Gl i.po[k]) (0) _ Z Z Z CL CV PU Z Z)) (λ_=>Ae (II (Bb (M) (Gl i.po[k]) (0)) (Gl i.po[k]) (0) _ Z Z Z CL CV PU (ES _ _ _ _) Z)) (AU [5] Z (AN Z Rq Z Z Z) (Au [21] Z Z (λ_=>Ae (AP Z Z Z GE Z)) (AU [20,22] Z (Al Z Z (Ξ _ (by omega)) Z) (HC [16,19] [2] [(24,_)] Z Z (λ_=>HD (HP (M) (Gl i.po[k]) (0) Z Z Z CL CV PU Z Z)) (.inr ⟨24,_,Z,Z,Z,Z,Z⟩) Z Z Z Z Z ?_ (hCn:=Qm Z)))))))));refine AU [24] Z (DC Z Z Z) (CB 10 Z Z Z (Ad 11 Z Z (V (HR (M) (Gl i.po[k]) (0) (Aa M (Gl i.po[k]) 0+i.po[k].d) Z Z Z CV Z Z) (AD ⟨Z,?_⟩))));refine CM (AE (J (Al Z Z (AM (k+1) (by omega)) Z) (fZ Z Z (AD ?_))));exact ⟨(k+1,_),⟨by show k+1<=_;omega,by show _=fq (Dy (i.po.take (k+1)));rw [Qg c,YB,<-w];rfl⟩,by show i.po.length - (k+1)<i.po.length - k;omega,AY x [2,1] Z (Z) F0⟩
 .refine Aw (AC (AC ?_));have C:M=fq (Dy i.po++HB (i.pa.take 0)):=by rw [w,κ (by have h:=s;omega)];simp [HB]
  refine AE (J (AN Z Hj Z Z Z) (J (AP Z Z Z Yu Z) (J (Ba Z fY Z) (fZ Z Z (AD (AZ (BO (α:=Nat×List (AT×Int)) (λq=>⟨80,[(3,(.map 2 0)),(28,(.d (.sl none (i.pa.map Cp)))),(29,(.d (AF (i.pa.length:Int)))),(30,(.d (AF (q.1:Int))))],[(2,[BT Bc AF q.2])]⟩) (λq=>q.1<=i.pa.length/\q.2=fq (Dy i.po++HB (i.pa.take q.1))) (λq=>i.pa.length - q.1) ((0,M)) (⟨ζ _,C⟩) (AY x [2] Z Z E0) ?_)))))));rintro ⟨m,N⟩ ⟨y,v⟩;dsimp only at y v⊢;refine AC (AE (J (BB Z Z Z) (AD (AC (A9 Z (λo=>?_) (λo=>?_))))))
  .have b:m<i.pa.length:=BR o;refine AX (AC (AZ (AC (AE ?_))));have u:=j.n _ (ξ b);have a:=ar v ((oH j.d).append (tT λq D=>j.n q (iQ D))) (by rw [Δ,Ig];simp [Dy];omega) u;simp only [Mx] at u;refine J (BJ (m) Z Z (Z) (A5 b) fY Z Wc Z) (J (DM Z Z nf Z) (V (By 4 nT Z Z Z Z) (V (B3 Z Z Z Z Z Z Z Wc) (AD (AC (CZ [[],[],[1],[],[3],[1,2,3,4],rg 6,[],[7],rg 9,[0,1,2,3,4,5,7,8],[0,1,2,3,4,5,7,8,10],rg 12] mixed Z (Z5 2 ([BT Bc AF (Bb N (CE i.pa[m].f i.pa[m].t) 0)]) Z ?_)))))));refine Av 3 Z Z (AU [7] Z (AN Z Kw Z Z Z) (Au [35] Z Z (λ_=>Ae (AP Z Z Z CK Z)) (AU [7] Z (AN Z Kv Z Z Z) (Au [37] Z Z (λ_=>Ae (AP Z Z Z CK Z)) (AU [36,38] Z (FD Jy TK Z Z Z) (JO [34,39] [] Z Z Z (λ_=>Ae (II (N) (CE i.pa[m].f i.pa[m].t) (0) _ Z Z Z CL CV PU Z Z)) (λ_=>Ae (II (Bb (N) (CE i.pa[m].f i.pa[m].t) (0)) (CE i.pa[m].f i.pa[m].t) (0) _ Z Z Z CL CV PU (ES _ _ _ _) Z)) (AU [7] Z (AN Z Ku Z Z Z) (Au [41] Z Z (λ_=>Ae (AP Z Z Z GE Z)) ?_))))))));have g:=(a (CE i.pa[m].f i.pa[m].t)).1;refine AU [40,42] Z (PS Z Z (Ξ _ (by omega)) Z) (HC [34,39] [2] [(44,_)] Z Z (λ_=>HD (HP (N) (CE i.pa[m].f i.pa[m].t) (0) Z Z Z CL CV PU Z Z)) (.inr ⟨44,_,Z,Z,Z,Z,Z⟩) Z Z Z Z Z ?_ (hCn:=Qm Z));refine AU [44] Z (DC Z Z Z) (CB 12 Z Z Z (Ad 13 Z Z (V (HR (N) (CE i.pa[m].f i.pa[m].t) (0) (Aa N (CE i.pa[m].f i.pa[m].t) 0 - i.pa[m].n) Z Z Z CV Z Z) (AD ⟨Z,?_⟩))));refine CM (AC (CZ [[],[],[1],[],[3],[1,2,3,4],rg 6,[],[7],rg 9,[0,1,2,3,4,5,7,8],[0,1,2,3,4,5,7,8,10],rg 12] mixed Z (Z5 2 ([BT Bc AF (Bb (gD N i.pa[m]) (CE i.pa[m].t i.pa[m].f) 0)]) Z ?_)));refine Av 3 Z Z (AU [7] Z (AN Z Kv Z Z Z) (Au [47] Z Z (λ_=>Ae (AP Z Z Z CK Z)) (AU [7] Z (AN Z Kw Z Z Z) (Au [49] Z Z (λ_=>Ae (AP Z Z Z CK Z)) (AU [48,50] Z (FD Jy TK Z Z Z) (JO [46,51] [] Z Z Z (λ_=>Ae (II (gD N i.pa[m]) (CE i.pa[m].t i.pa[m].f) (0) _ Z Z Z CL CV PU Z Z)) (λ_=>Ae (II (Bb (gD N i.pa[m]) (CE i.pa[m].t i.pa[m].f) (0)) (CE i.pa[m].t i.pa[m].f) (0) _ Z Z Z CL CV PU (ES _ _ _ _) Z)) (AU [7] Z (AN Z Ku Z Z Z) (Au [53] Z Z (λ_=>Ae (AP Z Z Z GE Z)) ?_))))))));have g:=(a (CE i.pa[m].t i.pa[m].f)).2.1;refine AU [52,54] Z (Al Z Z (Ξ _ (by omega)) Z) (HC [46,51] [2] [(56,_)] Z Z (λ_=>HD (HP (gD N i.pa[m]) (CE i.pa[m].t i.pa[m].f) (0) Z Z Z CL CV PU Z Z)) (.inr ⟨56,_,Z,Z,Z,Z,Z⟩) Z Z Z Z Z ?_ (hCn:=Qm Z));refine AU [56] Z (DC Z Z Z) (CB 12 Z Z Z (Ad 13 Z Z (V (HR (gD N i.pa[m]) (CE i.pa[m].t i.pa[m].f) (0) (Aa (gD N i.pa[m]) (CE i.pa[m].t i.pa[m].f) 0+i.pa[m].n) Z Z Z CV Z Z) (AD ⟨Z,?_⟩))));refine CM (AC ?_);refine CZ [[],[],[1],[1,2],[0,1,2,3],[],[5],rg 7,[0,1,2,3,5,6],[0,1,2,3,5,6,8],rg 10] mixed Z (Z5 2 ([BT Bc AF (Bb (gC (gD N i.pa[m]) i.pa[m]) (DH i.pa[m].f) 0)]) Z (Av 3 Z Z (AU [7] Z (AN Z Kw Z Z Z) (Au [59] Z Z (λ_=>Ae (AP Z Z Z CK Z)) (AU [60] Z (FD Jy TK Z Z Z) (JO [58,61] [] Z Z Z (λ_=>Ae (II (gC (gD N i.pa[m]) i.pa[m]) (DH i.pa[m].f) (0) _ Z Z Z CL CV PU Z Z)) (λ_=>Ae (II (Bb (gC (gD N i.pa[m]) i.pa[m]) (DH i.pa[m].f) (0)) (DH i.pa[m].f) (0) _ Z Z Z CL CV PU (ES _ _ _ _) Z)) (AU [7] Z (AN Z Ku Z Z Z) (Au [63] Z Z (λ_=>Ae (AP Z Z Z GE Z)) ?_))))))));have g:=(a (DH i.pa[m].f)).2.2.1;refine AU [62,64] Z (PS Z Z (Ξ _ (by omega)) Z) (HC [58,61] [2] [(66,_)] Z Z (λ_=>HD (HP (gC (gD N i.pa[m]) i.pa[m]) (DH i.pa[m].f) (0) Z Z Z CL CV PU Z Z)) (.inr ⟨66,_,Z,Z,Z,Z,Z⟩) Z Z Z Z Z ?_ (hCn:=Qm Z));refine AU [66] Z (DC Z Z Z) (CB 10 Z Z Z (Ad 11 Z Z (V (HR (gC (gD N i.pa[m]) i.pa[m]) (DH i.pa[m].f) (0) (Aa (gC (gD N i.pa[m]) i.pa[m]) (DH i.pa[m].f) 0 - i.pa[m].n) Z Z Z CV Z Z) (AD ⟨Z,?_⟩))));refine CM ?_;refine CZ [[],[],[1],[1,2],[0,1,2,3],[],[5],rg 7,[0,1,2,3,5,6],[0,1,2,3,5,6,8],rg 10] mixed Z (Z5 2 ([BT Bc AF (Bb (jw (gC (gD N i.pa[m]) i.pa[m]) i.pa[m]) (DH i.pa[m].t) 0)]) Z (Av 3 Z Z (AU [7] Z (AN Z Kv Z Z Z) (Au [69] Z Z (λ_=>Ae (AP Z Z Z CK Z)) (AU [70] Z (FD Jy TK Z Z Z) (JO [68,71] [] Z Z Z (λ_=>Ae (II (jw (gC (gD N i.pa[m]) i.pa[m]) i.pa[m]) (DH i.pa[m].t) (0) _ Z Z Z CL CV PU Z Z)) (λ_=>Ae (II (Bb (jw (gC (gD N i.pa[m]) i.pa[m]) i.pa[m]) (DH i.pa[m].t) (0)) (DH i.pa[m].t) (0) _ Z Z Z CL CV PU (ES _ _ _ _) Z)) (AU [7] Z (AN Z Ku Z Z Z) (Au [73] Z Z (λ_=>Ae (AP Z Z Z GE Z)) ?_))))))));have g:=(a (DH i.pa[m].t)).2.2.2;refine AU [72,74] Z (Al Z Z (Ξ _ (by omega)) Z) (HC [68,71] [2] [(76,_)] Z Z (λ_=>HD (HP (jw (gC (gD N i.pa[m]) i.pa[m]) i.pa[m]) (DH i.pa[m].t) (0) Z Z Z CL CV PU Z Z)) (.inr ⟨76,_,Z,Z,Z,Z,Z⟩) Z Z Z Z Z ?_ (hCn:=Qm Z));refine AU [76] Z (DC Z Z Z) (CB 10 Z Z Z (Ad 11 Z Z (V (HR (jw (gC (gD N i.pa[m]) i.pa[m]) i.pa[m]) (DH i.pa[m].t) (0) (Aa (jw (gC (gD N i.pa[m]) i.pa[m]) i.pa[m]) (DH i.pa[m].t) 0+i.pa[m].n) Z Z Z CV Z Z) (AD ⟨Z,?_⟩))));refine CM (AE (J (Al Z Z (AM (m+1) (by omega)) Z) (fZ Z Z (AD ?_))));exact ⟨(m+1,_),⟨by show m+1<=_;omega,by show _=fq (Dy i.po++HB (i.pa.take (m+1)));rw [Qf b,<-ji];exact (ax v).2.2.2⟩,by show i.pa.length - (m+1)<i.pa.length - m;omega,AY x [2] Z (Z) E0⟩
  .refine Aw (AC (AE (fZ Z Z (AB Z Z (AD (A4 ?_))))));exact ⟨_,[2],_,A2 Z,Z,Z,Z,by rw [v,κ (by have h:=o;omega)]<;>rfl⟩
end Go.Proofs.YteifpcnphnhaoaaGreat
