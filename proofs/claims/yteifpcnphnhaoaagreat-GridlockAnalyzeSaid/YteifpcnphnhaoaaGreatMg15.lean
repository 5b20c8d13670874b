import Derived.Test.YteifpcnphnhaoaaGreatMg14
import Derived.SizedLaws
open Go.Proofs.Tryz
namespace Go.Proofs.YteifpcnphnhaoaaGreat
open Go.ChangeShapes Go.WideShapes Go.ChangeAt Go.RowKit Go.Deep
variable{w:World}
abbrev ry:Nat->Prop:=λ_=>False
def YB(w:World)(d:D)(cs:List Value):Prop:=cs.length=d.cells.length/\(∀c∈d.cells,c.one=true)/\∀(j:Nat) c u,d.cells[j]? =some c->cs[j]? =some u->A0 w ry c u
theorem LD{d:D}{u:Value}(a:d.one=true)(h:A0 w ry d u):YB w d [u]:=by grind[YB,D.cells_one]
theorem YB.argS{w:World}{b:Nat->Nat->Value}{O:Nat->Prop}{a:List D}{cs:Array Value}(c:O=ry)(h:YB w (.agg a) (Value.agg cs).cells.toList):A8 w O b (.d (.agg a)) (.agg cs):=by
 subst c;obtain ⟨i,g,f⟩:=h;have:=A0.agg (w:=w) (O:=ry) (cs:=a) (vs:=cs.toList) i g f;exact .d (by simpa using this)
section
variable{H:Type}{enc:TypeId×Value->H}{P:Program}{w:World}
variable{a:Type}{Q:a->Prop}{t:TypeId}{c:a->D}{k f:Nat}{g:TypeId}{h:Type}
def C9{α:Type}(enc:TypeId×Value->H)(P:Program)(w:World)(t:TypeId)(k:Nat)(emb:α->D)(Q:α->Prop):Prop:=
 ∀fuel cs x,DataW.trod enc P w 0 (λ_=>true) true fuel t cs=some x->(∀p∈x.2,p.block<w.heap.size)->(∀n∈x.1.weights P t,n<=reachBytes)->∃a,Q a/\(emb a).cells.length=k/\YB w (emb a) cs
theorem O7{l:List (DataW H)}{d:DataW H}(b:d∈l){n:Nat}(f:n∈d.weights P g):n∈DataW.weightsAll P g l:=by
 induction l with
 | nil=>cases b
 | cons a r c=>
  grind[DataW.weightsAll]
theorem o9{k:IntKind}(c:P.underlying t=some (.int k)):C9 enc P w t 1 (λz:Int=> .raw (.int k z)) (λz=>k.min<=z/\z<=k.max):=λb f x h _ _=>by
 obtain ⟨z,rfl,_,a⟩:=DataW.trod_int c h;simp only[Lit.wf,kQ,lh] at a;exact ⟨z,a,Z,LD Z (.raw Z)⟩
theorem o8(c:P.underlying t=some .string):C9 enc P w t 1 (λs:ByteArray=> .raw (.string s)) (λs=>s.size<=140737488351232):=λa g x h _ b=>by
 obtain ⟨s,rfl,rfl,f⟩:=DataW.trod_string c h;exact ⟨s,by simpa [DataW.weights,reachBytes] using b,Z,LD Z (.raw Z)⟩
theorem PL{b:Nat}(W:P.underlying t=some (.slice g))(hk:P.cellsOf g=k)(Y:0<k)(N:P.bytesOf g=b)(hO:C9 enc P w g k c Q):C9 enc P w t 1 (λl:List a=> .sl none (l.map c)) (λl=>(∀r∈l,Q r)/\l.length*b<=140737488351232):=λfuel cs x h K G=>by
 rcases open_slice W h with ⟨rfl,rfl⟩ | ⟨r,u,cap,m,n,Dd,Pl,rfl,_,hl,hm,I,rfl,hi⟩
 .refine ⟨[],⟨by simp,by simp⟩,Z,LD Z (.sl k (λb N=>by cases N) (λ_=>rfl) Z (Θ _) (κ _) (by simp) (by simp) (λb o g=>by cases g))⟩
 .simp only[if_true] at I;subst I
  have R:∀i,i<u->∃y:a,Q y/\(c y).cells.length=k/\∃s:List Value,YB w (c y) s/\∀j,j<k->w.cell? ((r.add (i*k)).add j)=s[j]?:=by
   intro i M;obtain ⟨s,E,V⟩:=hi i (by omega)
   obtain ⟨y,hq,U,hr⟩:=hO _ _ _ V (λp hp=>K p (by
    simp only[ν,mO,Ω]
    exact .inr ⟨i,by omega,hp⟩)) (λn hn=>G n (by
    simp only[DataW.weights,W,ju,ν]
    exact .inr (.inl (O7 (Γ.2 ⟨i,Ω.2 M,Z⟩) hn))))
   obtain ⟨_,B,O⟩:=World.cells?_some E;rw[hk] at O;exact ⟨y,hq,U,s,hr,O⟩
  obtain ⟨l,L,z⟩:=oo u R;refine ⟨l,⟨λy A=>?_,?_⟩,Z,LD Z (.sl k (λb N=>by cases N) (λg=>by cases g) (by rw[χ];exact L) hl hm (λx v=>?_) (λX=>?_) (λb o g i x v=>?_))⟩
  .obtain ⟨i,C,rfl⟩:=km A;exact (z i _ (ω C)).1
  .have D:=G ((u+(m-u))*P.bytesOf g) (by simp[DataW.weights,W]);rw[N] at D;have F:=lq b (show l.length<=u+(m-u) by omega);have T:reachBytes=140737488351232:=rfl;omega
  .obtain ⟨y,A,rfl⟩:=Γ.1 v;obtain ⟨i,C,rfl⟩:=km A;exact (z i _ (ω C)).2.1
  .have h0:0<l.length:=by
    cases l with
    | nil=>exact absurd Z X
    | cons _ _=>simp
   obtain ⟨_,D,s,F,T⟩:=z 0 _ (ω h0);have h4:=T 0 Y;have B:s.length=k:=by rw[F.1,D]
   rw[ω (by omega)] at h4;have:r.spot=none:=by simpa [Addr.add] using World.cell?_spot h4
   exact ⟨r.block,r.off,by cases r;simp_all⟩
  .rw[ς] at v
   cases A:l[i]? with
   | none=>rw[A] at v;cases v
   | some y=>
    rw[A] at v;injection v with v
    subst v;obtain ⟨hq,D,s,F,T⟩:=z i y A;injection g with g
    subst g;have B:s.length=k:=by rw[F.1,D]
    have M:i<u:=by rw[<-L];exact (φ.1 A).1
    have hin:∀j,j<k->w.cell? ⟨b,o+i*k+j,none⟩=s[j]?:=λj S=>by
     have:=T j S
     rwa [Go.WideShapes.add_plain,Go.WideShapes.add_plain] at this
    refine .ptr (λj=>s.getD j undef) ?_ (λh=>h) F.2.1 (λj f E=>?_) (λj f E=>?_)
    .have J:MemPlace.cell b (o+i*k)∈MemPlace.row ⟨b,o,none⟩ (m*P.cellsOf g):=MemPlace.mem_row.2 ⟨i*k,by
      rw[hk];have:(i+1)*k<=m*k:=lq _ (by omega)
      rw[m8] at this;omega,Z⟩
     exact K _ (mP _ J)
    .have S:j<k:=by rw[<-D];exact (φ.1 E).1
     rw[hin j S,Ψ,ω (by omega)];rfl
    .have S:j<k:=by rw[<-D];exact (φ.1 E).1
     rw[Ψ,ω (by omega)];exact F.2.2 j f _ E (ω (by omega))
def To{α:Type}(enc:TypeId×Value->H)(P:Program)(w:World)(off total:Nat)(fs:List Field)(emb:α->List D)(Q:α->Prop):Prop:=
 ∀n (cs:List Value),cs.length=total->(∀(i:Nat) f,fs[i]? =some f->∃x,DataW.trod enc P w 0 (λ_=>true) true n f.type ((cs.drop f.offset).take (P.cellsOf f.type))=some x/\(∀p∈x.2,p.block<w.heap.size)/\∀n∈x.1.weights P f.type,n<=reachBytes)→
  ∃a,Q a/\off+(emb a).length=total/\(∀c∈emb a,c.one=true)/\∀(j:Nat) c u,(emb a)[j]? =some c->cs[off+j]? =some u->A0 w ry c u
theorem KX:To enc P w f f [] (λ_:Unit=> []) (λ_=>True):=λn a _ _=>⟨(),trivial,Z,by simp,by simp⟩
theorem CQ{s:Nat}{l:Field}{G:List Field}{v:h->List D}{I:h->Prop}(R:l.offset=s)(S:P.cellsOf l.type=k)(V:C9 enc P w l.type k c Q)(U:To enc P w (s+k) f G v I):
  To enc P w s f (l::G) (λr:a×h=>(c r.1).cells++v r.2) (λr=>Q r.1/\I r.2):=λn W C F=>by
 obtain ⟨x,N,O,B⟩:=F 0 l rfl;obtain ⟨r,M,y,A⟩:=V _ _ _ N O B;obtain ⟨b,L,X,K,J⟩:=U n W C (λi g T=>F (i+1) g (by simpa using T));rw[R,S] at A;refine ⟨(r,b),⟨M,L⟩,by simp only[Δ,y];omega,λo t=>?_,λj o u t E=>?_⟩
 .rcases ν.1 t with t | t
  .exact A.2.1 o t
  .exact K o t
 .rcases Nat.lt_or_ge j k with z | z
  .rw[nU (by rw[y];exact z)] at t;exact A.2.2 j o u t (by rw[md,ϱ z,mz];exact E)
  .rw[rC (by rw[y];exact z),y] at t;exact J (j-k) o u t (by rw[show s+k+(j-k)=s+j by omega];exact E)
theorem KW{A:Type}{t:TypeId}{z:Array Field}{k:Nat}{g:A->List D}{Q:A->Prop}(B:P.underlying t=some (.struct z))(E:P.cellsOf t=k)(h:To enc P w 0 k z.toList g Q):C9 enc P w t k (λa=> .agg (g a)) Q:=λF G x L y v=>by
 obtain ⟨r,n,_,rfl,C,o,S⟩:=DataW.trod_struct B L
 obtain ⟨a,K,s,J,I⟩:=h n G (by rw[C,E]) (λi f R=>by
  have l:z[i]? =some f:=by simpa using R
  have b:i<r.length:=by rw[o];exact (ll.1 l).1
  refine ⟨r[i],by rw[S i f l];exact ω b,λp N=>y p (mO.2 ⟨_,ϑ b,N⟩),λn O=>v n ?_⟩;simp only[DataW.weights,B]
  refine DataW.weights_mem_each (j:=i) (t:=f.type) (d:=r[i].1) (by rw[ς];simp[l]) (by rw[ς,ω b];rfl) n O)
 rw[lY] at s;exact ⟨a,K,s,by show G.length=_;rw[C,E];exact s.symm,J,λj c u T M=>I j c u T (by rw[lY];exact M)⟩
theorem C9.as{i:h->D}{j:h->Prop}(b:C9 enc P w t k c Q)(f:a->h)(o:∀g,c g=i (f g))(l:∀g,Q g->j (f g)):C9 enc P w t k i j:=by grind[C9]
end
theorem bJ{P:Program}{f:FuncId}{k:List AV}(h:AI P f k (.raw (.bool true))){w:World}{vs:List Value}(C:vs.length=k.length)(B:∀(i:Nat) a v,k[i]? =some a->vs[i]? =some v->A8 w ry (λ_ _=>undef) a v):
  Calls P f vs.toArray w λe y=>e= .returned (.bool true)/\Below w.heap.size w y:=by
 have l:∀c b,¬BL c [] b:=λc b ⟨_,_,_,h,_⟩=>by cases h
 let c:Nat->Nat->Value:=λ_ _=>undef
 let F:Fr:=Fr.mk none (.marks w.heap.size) w ry (BL c []) (Cx c []) (λb t=>t.elim) [] (λ_ _ _ h=>Dj h)
 have E:F.O c []=ry:=funext λb=>propext ⟨λh=>h.elim id λh=>(l c b h).elim,λh=>h.elim⟩
 have s:Bj F [] c w:=⟨(λf i o u=>by cases u),(λf i L K o J b u=>by cases u),λb t=>(l c b t).elim,Z,Z,Z,Θ _,λ_ _ _=>rfl,λf i b t=>nP t,Θ _⟩
 refine (h.2 F c vs Z Z ⟨Z,Z,Z⟩ s C (λi a v D A=>by rw[E];exact B i a v D A)).mono λe y ⟨v,r,M,z,I,⟨H,G⟩,g,j⟩=>?_;subst I H G;refine ⟨?_,j.os,j.tape,j.output,j.size0,λb x=>j.keep b x (l c b)⟩
 cases g with
 | d g=>
  cases g with
  | raw _=>rfl
end Go.Proofs.YteifpcnphnhaoaaGreat
namespace Go.Proofs.YteifpcnphnhaoaaGreat
open Go.ChangeShapes Go.WideShapes Go.ChangeAt Go.RowKit
section
variable{H:Type}{enc:TypeId×Value->H}{P:Program}{w:World}
variable{t:TypeId}
theorem C9.asQ{i g:Type}{k:Nat}{c:i->D}{Q:i->Prop}{b:g->D}{j:g->Prop}(h:C9 enc P w t k c Q)(f:i->g)(o:∀a,Q a->c a=b (f a))(l:∀a,Q a->j (f a)):C9 enc P w t k b j:=by grind[C9]
theorem Ye(a:P.underlying t=some (.int .i64)):C9 enc P w t 1 (λn:Int=> .raw (.int .i64 n)) (λn=> -9223372036854775808<=n/\n<=9223372036854775807):=
 (o9 a).asQ id (λ_ _=>rfl) (λ_ h=>h)
theorem fG(b:P.underlying t=some .string):C9 enc P w t 1 Am (λl=>l.length<=140737488351232):=
 (o8 b).asQ (λs=>s.data.toList) (λa _=>rfl) (λa h=>by simpa using h)
end
end Go.Proofs.YteifpcnphnhaoaaGreat
namespace Go.Proofs.YteifpcnphnhaoaaGreat
open Go.RowKit
variable{M:List (List UInt8×Int)}{k:Nat}{c:Type}{f:List c}{h:c->Int}{j:Prop}{E:Int}{x:c}
set_option maxRecDepth 100000
abbrev AE(z:Int):D:= .raw (.int .i64 z)
structure W3 where
 o:List UInt8
 k:Int
 a:List UInt8
structure AW where
 k:Int
 acc:W3
 f:List UInt8
 t:List UInt8
structure Fa where
 acc:W3
 d:Int
structure NN where
 f:List UInt8
 t:List UInt8
 n:Int
structure dr where
 id:Int
 pr:Int
 sq:Int
 po:List Fa
 pa:List NN
 af:List Int
structure gf where
 r:AW
 n:Int
structure iB where
 ro:List gf
 it:List dr
theorem W3.eq_iff{x y:W3}:x=y↔x.o=y.o/\x.k=y.k/\x.a=y.a:=by cases x;cases y;simp
instance:DecidableEq W3:=λ_ _=>decidable_of_iff _ W3.eq_iff.symm
theorem AW.eq_iff{x y:AW}:x=y↔x.k=y.k/\x.acc=y.acc/\x.f=y.f/\x.t=y.t:=by cases x;cases y;simp
instance:DecidableEq AW:=λ_ _=>decidable_of_iff _ AW.eq_iff.symm
abbrev yM(x:W3):D:= .agg [Am x.o,AE x.k,Am x.a]
abbrev Bn(x:AW):D:= .agg [AE x.k,Am x.acc.o,AE x.acc.k,Am x.acc.a,Am x.f,Am x.t]
abbrev B9(x:Fa):D:= .agg [Am x.acc.o,AE x.acc.k,Am x.acc.a,AE x.d]
abbrev Co(x:NN):D:= .agg [Am x.f,Am x.t,AE x.n]
abbrev Ah(x:dr):D:= .agg [AE x.id,AE x.pr,AE x.sq,.sl none (x.po.map B9),.sl none (x.pa.map Co),.sl none (x.af.map AE)]
abbrev BT(x:gf):D:= .agg [AE x.r.k,Am x.r.acc.o,AE x.r.acc.k,Am x.r.acc.a,Am x.r.f,Am x.r.t,AE x.n]
abbrev BM(x:iB):D:= .agg [.sl none (x.ro.map BT),.sl none (x.it.map Ah)]
def LB(x:AW):List Value:=[.int .i64 x.k,Nq x.acc.o,.int .i64 x.acc.k,Nq x.acc.a,Nq x.f,Nq x.t]
def Nv(x:W3):List Value:=[Nq x.o,.int .i64 x.k,Nq x.a]
abbrev aX:List TypeDesc:=[.int .i64,.string,.int .i64,.string,.string,.string]
abbrev jN:List TypeDesc:=[.string,.int .i64,.string]
theorem Pt(a b:Int):Pu (.int .i64 a) (.int .i64 b)=decide (a=b):=by
 simp only[Pu];exact Bool.beq_eq_decide_eq a b
theorem Ps(a b:List UInt8):Pu (Nq a) (Nq b)=decide (a=b):=by
 simp only[Pu,Nq,<-beq_toListBytes,SO]
theorem LA(a b:AW):Bz (LB a) (LB b)=decide (a=b):=by grind[LB,Bz,Pt,Ps,AW.eq_iff,W3.eq_iff]
theorem O1(a b:W3):Bz (Nv a) (Nv b)=decide (a=b):=by grind[Nv,Bz,Pt,Ps,W3.eq_iff]
theorem qs{d:TypeDesc}{b:List TypeDesc}{u:Value}{a:List Value}(h:MapKept.IsKey d u)(c:BQ b a):BQ (d::b) (u::a):=by grind[BQ]
theorem RW:BQ [] []:=⟨Z,by simp⟩
theorem qo(a:AW):BQ aX (LB a):=qs Z (qs trivial (qs Z (qs trivial (qs trivial (qs trivial RW)))))
theorem Dv(a:W3):BQ jN (Nv a):=qs trivial (qs Z (qs trivial RW))
theorem oE(a:AW):(Bn a).val? =some (.agg (LB a).toArray):=rfl
theorem Ck:CC prog 64 Bn (λa=> .agg (LB a).toArray):=CC.flat (ds:=aX) (by kernel_rfl) (by kernel_rfl) oE qo LA
theorem SL{a:List (Nat×Option (List AM))}{f:Nat}{i b:List AM}(h:Bo a f=some (some b)):∀g c,Bo a g=some c->C2 f i b g c:=by grind
theorem XD{p:Prop}[Decidable p][Decidable j](h:p↔j):AV.d (.raw (.bool (decide p)))= .d (.raw (.bool (decide j))):=by rw[decide_eq_decide.2 h]
theorem Sf[Decidable j](h:j):AV.d (.raw (.bool true))= .d (.raw (.bool (decide j))):=by rw[Υ h]
theorem Hf[Decidable j](h:¬j):AV.d (.raw (.bool false))= .d (.raw (.bool (decide j))):=by rw[kD h]
theorem Ae{a b:Int}(h:a=b):AV.d (.raw (.int .i64 a))= .d (.raw (.int .i64 b)):=by rw[h]
theorem AJ(n:Nat)(h:n<=9223372036854775807):IntKind.i64.wrap (n:Int)=(n:Int):=Ξ _ (by omega)
theorem I7(n b c:Int):AI prog 167 [.d (AE n),.d (AE b),.d (AE c)] (.raw (.bool (decide (b<=n/\n<=c)))):=by
 refine Av func167 Z Z ntmps167 Z Z Z λF f=>(AD (AF ?_));refine AB Z Z (AC (AD (AF (cl Z Z (cl Z Z (J (EH Z Z Z) (cl Z Z (C5 10 Z (λa=>?_) (λa=>?_)))))))));refine AT Z Z Z (cl Z Z (AT Z Z Z (cl Z Z (AT Z Z Z (J (Wr Z Z Z) (J (B4 Z Z Z Z) ?_))))))
 rotate_left
 refine AN Z Z Z Z (AN Z Z Z Z (AN Z Z Z Z (J (Br Z Z Z Z) ?_)))
 all_goals
  refine AB Z Z (AC (A5 ?_));exact ⟨_,[],[],A2 Z,Z,Z,by first | exact XD (by omega) | exact Hf (by omega),rfl⟩
theorem H5(n b c:Int):AI prog 178 [.d (AE n),.d (AE b),.d (AE c)] (.raw (.bool (decide (b<=n/\n<=c)))):=by
 refine Av func178 Z Z ntmps178 Z Z Z λF f=>(AD (AF ?_));refine AB Z Z (AC (AD (AF (cl Z Z (cl Z Z (J (EH Z Z Z) (cl Z Z (C5 10 Z (λa=>?_) (λa=>?_)))))))));refine AT Z Z Z (cl Z Z (AT Z Z Z (cl Z Z (AT Z Z Z (J (Wr Z Z Z) (J (B4 Z Z Z Z) ?_))))))
 rotate_left
 refine AN Z Z Z Z (AN Z Z Z Z (AN Z Z Z Z (J (Br Z Z Z Z) ?_)))
 all_goals
  refine AB Z Z (AC (A5 ?_));exact ⟨_,[],[],A2 Z,Z,Z,by first | exact XD (by omega) | exact Hf (by omega),rfl⟩
theorem Ie(n:Int):AI prog 100 [.d (AE n)] (.raw (.bool (decide (0<=n/\n<=1000000000)))):=by
 refine Av func100 Z Z ntmps100 Z Z Z λF b=>(AD ?_);refine AF (AB Z Z (AC (AD (AF (cl Z Z (J (EH Z Z Z) (cl Z Z (C5 5 Z (λa=>?_) (λa=>?_)))))))));refine AT Z Z Z (cl Z Z (AT Z Z Z (J (Wr Z Z Z) (J (B4 Z Z Z Z) ?_))))
 rotate_left
 refine AN Z Z Z Z (AN Z Z Z Z (J (Br Z Z Z Z) ?_))
 all_goals
  refine AB Z Z (AC (A5 ?_));exact ⟨_,[],[],A2 Z,Z,Z,by first | exact XD (by omega) | exact Hf (by omega),rfl⟩
theorem sA(n:Int):AI prog 211 [.d (AE n)] (.raw (.bool false)):=by
 refine Av func211 Z Z ntmps211 Z Z Z λF a=>(AD (AF (AB Z Z ?_)));refine AC (AD (AF (cl Z Z (cl Z Z (J (DP Z Z Z) (AB Z Z (AC (A5 ?_))))))));exact ⟨_,[],[],A2 Z,Z,Z,by simp,Z⟩
theorem fg(l:List UInt8):AI prog 239 [.d (Am l)] (.raw (.bool false)):=by
 refine Av func239 Z Z ntmps239 Z Z Z λF a=>(AD (AF (AB Z Z ?_)));refine AC (AD (AF (cl Z Z (cl Z Z (J (DU Z Z Z) (AB Z Z (AC (A5 ?_))))))));exact ⟨_,[],[],A2 Z,Z,Z,by simp,Z⟩
def DC(a b:Int):Int:=if a<b then -1 else if b<a then 1 else 0
def Sq(a b:List UInt8):Bool:=Op.bytesLess a b
def EA(a b:List UInt8):Int:=if Sq a b=true then -1 else if Sq b a=true then 1 else 0
theorem sS(a b:List UInt8):Op.bytesLess (⟨a.toArray⟩:ByteArray).toList (⟨b.toArray⟩:ByteArray).toList=Sq a b:=by rw[Lib.toList_data,Lib.toList_data];rfl
theorem T7(a b:Int):AI prog 166 [.d (AE a),.d (AE b)] (AE (DC a b)):=by
 refine Av func166 Z Z ntmps166 Z Z Z λF g=>(AD (AF ?_));refine AB Z Z (AC (AD (AF (cl Z Z (J (Ak (sA a) Z Z) (AB Z Z (AC (AD ?_))))))));refine AF (cl Z Z (J (Ak (sA b) Z Z) (AB Z Z (AC (AD (AD (AF (cl Z Z ?_))))))));refine AC (Cr Z (Z) (AU (AD (AD (AF (cl Z Z (AC (Cr Z (Z) ?_))))))));refine AU (AD (AD (AF (cl Z Z (cl Z Z (J (At Z Z Z) (AC (A4 Z (λf=>?_) (λf=>?_)))))))))
 rotate_left
 refine AU (AD (AD (AF (cl Z Z (cl Z Z (J (H1 Z Z Z) (AC (A4 Z (λc=>?_) (λc=>?_)))))))))
 rotate_left
 refine AU ?_
 all_goals
  refine AD (AF (AB Z Z (AC (A5 ?_))));exact ⟨_,[],[],A2 Z,Z,Z,by first | exact Ae (by unfold DC;rw[ϱ (by assumption)]) | exact Ae (by unfold DC;rw[υ (by assumption),ϱ (by omega)]) | exact Ae (by unfold DC;rw[υ (by assumption),υ (by omega)]),Z⟩
theorem T6(a b:List UInt8):AI prog 196 [.d (Am a),.d (Am b)] (AE (EA a b)):=by
 refine Av func196 Z Z ntmps196 Z Z Z λF g=>(AD (AF ?_));refine AB Z Z (AC (AD (AF (cl Z Z (J (Ak (fg a) Z Z) (AB Z Z (AC (AD ?_))))))));refine AF (cl Z Z (J (Ak (fg b) Z Z) (AB Z Z (AC (AD (AD (AF (cl Z Z ?_))))))));refine AC (Cr Z (Z) (AU (AD (AD (AF (cl Z Z (AC (Cr Z (Z) ?_))))))));refine AU (AD (AD (AF (cl Z Z (cl Z Z (J (YX Z Z Z) (AC (Jo Z (λc=>?_) (λc=>?_)))))))));rw[sS] at c
 rotate_left
 rw[sS] at c;refine AU (AD (AD (AF (cl Z Z (cl Z Z (J (YZ Z Z Z) (AC (Jo Z (λf=>?_) (λf=>?_)))))))));rw[sS] at f
 rotate_left
 rw[sS] at f;refine AU ?_
 all_goals
  refine AD (AF (AB Z Z (AC (A5 ?_))));exact ⟨_,[],[],A2 Z,Z,Z,by first | exact Ae (by unfold EA;rw[ϱ c]) | exact Ae (by unfold EA;rw[υ (by rw[c];decide),ϱ f]) | exact Ae (by unfold EA;rw[υ (by rw[c];decide),υ (by rw[f];decide)]),Z⟩
abbrev Mx:Int:=1000000000000000
def BP:List Int->Int
 | []=>0
 | e::r=>if e=0 then BP r else e
theorem bb(a:k<f.length):BP ((f.drop k).map h)=if h f[k]=0 then BP ((f.drop (k+1)).map h) else h f[k]:=by
 rw[mR a];rfl
theorem DZ(a:¬k<f.length):BP ((f.drop k).map h)=0:=by
 rw[nB (by omega)];rfl
theorem nO{l:List c}{k:Nat}(b:k<l.length)(a:E=BP ((l.drop k).map h)):(h l[k]=0->E=BP ((l.drop (k+1)).map h))/\∀e,h l[k]=e->e≠0->e=E:=by grind[bb]
def Ig(p:Fa):Int:=if p.acc.o=[]\/p.acc.a=[] then 6 else if ¬(0<=p.acc.k/\p.acc.k<=4) then 11 else if ¬(-Mx<=p.d/\p.d<=Mx) then 12 else 0
def Jp(p:NN):Int:=if p.f=[]\/p.t=[] then 6 else if p.f=p.t then 7 else if ¬(0<=p.n/\p.n<=Mx) then 2 else 0
def NK(id:Int)(l:List Int)(k:Nat):Int:=if ¬(0<=l.getD k 0/\l.getD k 0<=1000000000) then 2 else if l.getD k 0=id\/l.getD k 0∈l.take k then 7 else 0
def Fy(i:dr):Int:=BP (i.po.map Ig)
def LG(i:dr):Int:=BP (i.pa.map Jp)
def Nu(i:dr):Int:=BP ((List.range i.af.length).map (NK i.id i.af))
def Bw(l:List Fa)(a:List UInt8):Int:=(l.map λp=>if p.acc.a=a then p.d else 0).sum
def Lz(i:dr):Int:=if ∃p∈i.po,Bw i.po p.acc.a≠0 then 14 else 0
theorem xJ(b:k<f.length)(h:x∉f.take k)(a:x≠f[k]):x∉f.take (k+1):=by
 rw[ψ b,ν]
 simp[h,a]
theorem FB(a:¬k<f.length)(h:x∉f.take k):x∉f:=by
 rwa [ζ (by omega)] at h
def St(x:Int)(l:List Int):Int:=if x∈l then (l.idxOf x:Int) else -1
theorem VY{l:List Int}{x:Int}(a:k<l.length)(h:x∉l.take k)(b:x=l[k]):St x l=(k:Int):=by grind[St,mR,nA]
theorem ZM(l:List Int)(x:Int)(i:l.length<=140737488355328):AI prog 176 [.d (.sl none (l.map AE)),.d (AE x)] (AE (St x l)):=by
 refine Av func176 Z Z ntmps176 Z Z Z λF j=>(AD (AF (AB Z Z (AC ?_))));refine AD (AD (AF (cl Z Z (J (BW Z E0 Z) (cl Z Z (AC (AX (FR (α:=Nat) (λk=>⟨19,[(0,.d (.sl none (l.map AE))),(1,.d (AE x)),(7,(.d (AE (l.length:Int)))),(8,(.d (AE (k:Int))))],[]⟩) (λk=>k<=l.length/\x∉l.take k) (λk=>l.length-k) (0) (⟨κ _,by simp⟩) (Zm ⟨Z,Z,Z,Z,trivial⟩) ?_))))))));rintro k ⟨g,c⟩;refine AD (AF (J (At Z Z Z) (AC (AD (A4 Z (λf=>?_) (λf=>?_))))))
 .have a:k<l.length:=BG f;refine AU (AD (AX (AD (AF (cl Z Z (AB Z Z (AC (AD ?_))))))));refine AF (cl Z Z (cl Z Z (cl Z Z (J (Al (k) Z Z (Z) (AP a) E0 Z BE Z) (J (BZ Z Z Ag Z) (J (GW Z Z Z) (AC (A4 Z (λb=>?_) (λb=>?_)))))))))
  .refine AD (AF (cl Z Z (AB Z Z (AC (A5 ?_)))));exact ⟨_,[],[],A2 Z,Z,Z,Ae (VY a c b).symm,Z⟩
  .refine AU (AF (J (Ac Z Z (AJ (k+1) (by omega)) Z) (cl Z Z (AC ?_))));exact ⟨k+1,⟨by show k+1<=_;omega,xJ a c b⟩,by show l.length-(k+1)<l.length-k;omega,⟨Z,Z,λ_ _=>SW.get (l:=[(0,_),(1,_),(7,_),(8,_)]) ⟨Z,Z,Z,Z,trivial⟩⟩⟩
 .refine Aq (AD (AF (AB Z Z (AC (A5 ?_)))));exact ⟨_,[],[],A2 Z,Z,Z,Ae (by unfold St;rw[υ (FB (by have h:=f;omega) c)]),Z⟩
theorem Pw(l:List Int)(x:Int)(a:l.length<=140737488355328):AI prog 179 [.d (.sl none (l.map AE)),.d (AE x)] (.raw (.bool (decide (x∈l)))):=by
 refine Av func179 Z Z ntmps179 Z Z Z λF b=>(AD (AF (AB Z Z (AC ?_))));refine AD (AF (cl Z Z (cl Z Z (J (Ak (ZM l x a) Z Z) (J (EH Z Z Z) (AB Z Z (AC (A5 ?_))))))));exact ⟨_,[],[],A2 Z,Z,Z,XD (by unfold St;split<;>rename_i h<;>simp[h]<;>omega),Z⟩
theorem wm(l:List Int)(x:Int)(i:l.length<=140737488355328):AI prog 151 [.d (.sl none (l.map AE)),.d (AE x)] (.raw (.bool (decide (x∈l)))):=by
 refine Av func151 Z Z ntmps151 Z Z Z λF j=>(AD (AF ?_));refine AB Z Z (AC (AD (AD (AF (AB Z Z (AC (AX (FR (α:=Nat) (λk=>⟨18,[(0,.d (.sl none (l.map AE))),(1,.d (AE x)),(5,(.d (AE (k:Int))))],[]⟩) (λk=>k<=l.length/\x∉l.take k) (λk=>l.length-k) (0) (⟨κ _,by simp⟩) (Zm ⟨Z,Z,Z,trivial⟩) ?_))))))));rintro k ⟨g,f⟩;refine AD (AD (AF (cl Z Z (cl Z Z (J (BW Z E0 Z) (J (At Z Z Z) (AC (A4 Z (λc=>?_) (λc=>?_)))))))))
 .have a:k<l.length:=BG c;refine AU (AD (AX (AD ?_)));refine AF (cl Z Z (cl Z Z (J (Al (k) Z Z (Z) (AP a) E0 Z BE Z) (J (BZ Z Z Ag Z) (cl Z Z (J (GW Z Z Z) (AC (A4 Z (λb=>?_) (λb=>?_)))))))))
  .refine AD (AF (AB Z Z (AC (A5 ?_))));exact ⟨_,[],[],A2 Z,Z,Z,Sf (by rw[<-b];exact ϑ a),Z⟩
  .refine AU (AF (cl Z Z (J (Ac Z Z (AJ (k+1) (by omega)) Z) (AB Z Z (AC ?_)))));exact ⟨k+1,⟨by show k+1<=_;omega,xJ a f (λe=>b e.symm)⟩,by show l.length-(k+1)<l.length-k;omega,⟨Z,Z,λ_ _=>SW.get (l:=[(0,_),(1,_),(5,_)]) ⟨Z,Z,Z,trivial⟩⟩⟩
 .refine Aq (AD (AF (AB Z Z (AC (A5 ?_)))));exact ⟨_,[],[],A2 Z,Z,Z,Hf (FB (by have h:=c;omega) f),Z⟩
theorem XL(i:dr)(t:i.po.length<=140737488355328):AI prog 168 [.d (Ah i)] (AE (Fy i)):=by
 refine Av func168 Z Z ntmps168 Z Z Z λF r=>(AD (AF (V (Ba 1 Z Z Z Z Z Z Z) (AB Z Z (AC (AD ?_))))));refine AD (AF (J (AL Z JC Z Z Z) (J (AQ Z Z Z aq Z) (J (BW Z cB Z) (cl Z Z (AC (AX (BC (α:=Nat) (λk=>⟨35,[(1,(.ptr 1 0 0)),(6,(.d (.sl none (i.po.map B9)))),(7,(.d (AE (i.po.length:Int)))),(8,(.d (AE (k:Int))))],[(1,[.blk 55 [.d (AE i.id),.d (AE i.pr),.d (AE i.sq),.d (.sl none (i.po.map B9)),.d (.sl none (i.pa.map Co)),.d (.sl none (i.af.map AE))]])]⟩) (λk=>k<=i.po.length/\Fy i=BP ((i.po.drop k).map Ig)) (λk=>i.po.length-k) (0) (⟨κ _,Z⟩) (AR r [1] Z Z ⟨Z,Z,Z,Z,trivial⟩) ?_))))))));rintro k ⟨s,o⟩;refine AD (AF (J (At Z Z Z) (AC (AD (A4 Z (λl=>?_) (λl=>?_))))))
 .have g:k<i.po.length:=BG l;refine AU (AD (AX (AD (AF ?_))));have j:=nO g o;refine J (Al (k) Z Z (Z) (AP g) cB Z Qo Z) (J (CT Z Z du Z) (V (CF 2 Qk Z Z Z Z) (V (Bc Z Z Z Z Z Z Z Qo) (AC ?_))));refine AX (AD (AF (J (AL Z Ll Z Z Z) (J (AL Z TK Z Z Z) (J (AQ Z Z Z CZ Z) (J (Kn Z Z Z) (cl Z Z (C5 17 Z (λa=>?_) (λa=>?_)))))))))
  .refine AN Z Z Z Z (AN Z Z Z Z (AN Z Z Z Z (AN Z Z Z Z ?_)));refine J (B4 Z Z Z Z) (AB Z Z (AC (CM Z Z (AD (AF (AB Z Z (AC (A5 ?_))))))));exact ⟨_,[],[],A2 Z,Z,Z,Ae (j.2 6 (by unfold Ig;rw[ϱ (.inl a)]) (by decide)),Z⟩
  .refine AT Z Z Z (J (AL Z Ll Z Z Z) (AT Z Z Z ?_));refine J (AL Z Pm Z Z Z) (AT Z Z Z (J (AQ Z Z Z CZ Z) (AT Z Z Z (J (Kn Z Z Z) (J (Br Z Z Z Z) (AB Z Z (AC (A4 Z (λb=>?_) (λb=>?_)))))))))
   .refine AD (AF (AB Z Z (AC (A5 ?_))));exact ⟨_,[],[],A2 Z,Z,Z,Ae (j.2 6 (by unfold Ig;rw[ϱ (.inr b)]) (by decide)),Z⟩
   .refine AD ?_;refine AF (J (AL Z Ll Z Z Z) (J (AL Z Pn Z Z Z) (J (AQ Z Z Z Ag Z) (J (Ak (I7 _ _ _) Z Z) (J (JQ Z Z) (AB Z Z (AC (A4 Z (λc=>?_) (λc=>?_)))))))))
    .refine AD (AF (AB Z Z (AC (A5 ?_))));exact ⟨_,[],[],A2 Z,Z,Z,Ae (j.2 11 (by unfold Ig;rw[υ (by simp[a,b]),ϱ c]) (by decide)),Z⟩
    .refine AD (AF (J (AL Z TQ Z Z Z) (J (AQ Z Z Z FK Z) (J (Ak (H5 _ _ _) Z Z) (J (JQ Z Z) (AB Z Z (AC (A4 Z (λf=>?_) (λf=>?_)))))))))
     .refine AD (AF (AB Z Z (AC (A5 ?_))));exact ⟨_,[],[],A2 Z,Z,Z,Ae (j.2 12 (by unfold Ig;rw[υ (by simp[a,b]),υ c,ϱ f]) (by decide)),Z⟩
     .refine AU (AF (J (Ac Z Z (AJ (k+1) (by omega)) Z) (cl Z Z (AC ?_))));exact ⟨k+1,⟨by show k+1<=_;omega,j.1 (by unfold Ig;rw[υ (by simp[a,b]),υ c,υ f])⟩,by show i.po.length-(k+1)<i.po.length-k;omega,AR r [1] Z (Z) ⟨Z,Z,Z,Z,trivial⟩⟩
 .refine Aq (AD (AF (AB Z Z (AC (A5 ?_)))));exact ⟨_,[],[],A2 Z,Z,Z,Ae (by rw[o,DZ (by have h:=l;omega)]),Z⟩
theorem XN(i:dr)(t:i.pa.length<=140737488355328):AI prog 169 [.d (Ah i)] (AE (LG i)):=by
 refine Av func169 Z Z ntmps169 Z Z Z λF r=>(AD (AF (V (Ba 1 Z Z Z Z Z Z Z) (AB Z Z (AC (AD ?_))))));refine AD (AF (J (AL Z Kf Z Z Z) (J (AQ Z Z Z fI Z) (J (BW Z cX Z) (cl Z Z (AC (AX (BC (α:=Nat) (λk=>⟨33,[(1,(.ptr 1 0 0)),(6,(.d (.sl none (i.pa.map Co)))),(7,(.d (AE (i.pa.length:Int)))),(8,(.d (AE (k:Int))))],[(1,[.blk 55 [.d (AE i.id),.d (AE i.pr),.d (AE i.sq),.d (.sl none (i.po.map B9)),.d (.sl none (i.pa.map Co)),.d (.sl none (i.af.map AE))]])]⟩) (λk=>k<=i.pa.length/\LG i=BP ((i.pa.drop k).map Jp)) (λk=>i.pa.length-k) (0) (⟨κ _,Z⟩) (AR r [1] Z Z ⟨Z,Z,Z,Z,trivial⟩) ?_))))))));rintro k ⟨s,o⟩;refine AD (AF (J (At Z Z Z) (AC (AD (A4 Z (λl=>?_) (λl=>?_))))))
 .have g:k<i.pa.length:=BG l;refine AU (AD (AX (AD (AF ?_))));have j:=nO g o;refine J (Al (k) Z Z (Z) (AP g) cX Z YR Z) (J (CT Z Z rk Z) (V (CF 2 rK Z Z Z Z) (V (Bc Z Z Z Z Z Z Z YR) ?_)));refine AC (AX (AD (AF (J (AL Z Lk Z Z Z) (J (AQ Z Z Z CZ Z) (J (Kn Z Z Z) (cl Z Z (C5 16 Z (λa=>?_) (λa=>?_)))))))))
  .refine AN Z Z Z Z (AN Z Z Z Z (AN Z Z Z Z ?_));refine J (B4 Z Z Z Z) (AB Z Z (AC (CM Z Z (AD (AF (AB Z Z (AC (A5 ?_))))))));exact ⟨_,[],[],A2 Z,Z,Z,Ae (j.2 6 (by unfold Jp;rw[ϱ (.inl a)]) (by decide)),Z⟩
  .refine AT Z Z Z ?_;refine J (AL Z Lj Z Z Z) (AT Z Z Z (J (AQ Z Z Z CZ Z) (AT Z Z Z (J (Kn Z Z Z) (J (Br Z Z Z Z) (AB Z Z (AC (A4 Z (λb=>?_) (λb=>?_)))))))))
   .refine AD (AF (AB Z Z (AC (A5 ?_))));exact ⟨_,[],[],A2 Z,Z,Z,Ae (j.2 6 (by unfold Jp;rw[ϱ (.inr b)]) (by decide)),Z⟩
   .refine AD ?_;refine AF (J (AL Z Lk Z Z Z) (J (AQ Z Z Z CZ Z) (J (AL Z Lj Z Z Z) (J (AQ Z Z Z CZ Z) (J (Kn Z Z Z) (AB Z Z (AC (A4 Z (λc=>?_) (λc=>?_)))))))))
    .refine AD (AF (AB Z Z (AC (A5 ?_))));exact ⟨_,[],[],A2 Z,Z,Z,Ae (j.2 7 (by unfold Jp;rw[υ (by simp[a,b]),ϱ c]) (by decide)),Z⟩
    .refine AD (AF (J (AL Z Li Z Z Z) (J (AQ Z Z Z FK Z) (J (Ak (H5 _ _ _) Z Z) (J (JQ Z Z) (AB Z Z (AC (A4 Z (λf=>?_) (λf=>?_)))))))))
     .refine AD (AF (AB Z Z (AC (A5 ?_))));exact ⟨_,[],[],A2 Z,Z,Z,Ae (j.2 2 (by unfold Jp;rw[υ (by simp[a,b]),υ c,ϱ f]) (by decide)),Z⟩
     .refine AU (AF (J (Ac Z Z (AJ (k+1) (by omega)) Z) (cl Z Z (AC ?_))));exact ⟨k+1,⟨by show k+1<=_;omega,j.1 (by unfold Jp;rw[υ (by simp[a,b]),υ c,υ f])⟩,by show i.pa.length-(k+1)<i.pa.length-k;omega,AR r [1] Z (Z) ⟨Z,Z,Z,Z,trivial⟩⟩
 .refine Aq (AD (AF (AB Z Z (AC (A5 ?_)))));exact ⟨_,[],[],A2 Z,Z,Z,Ae (by rw[o,DZ (by have h:=l;omega)]),Z⟩
theorem sT{n k:Nat}{f:Nat->Int}{E:Int}(a:k<n)(h:E=BP (((List.range n).drop k).map f)):(f k=0->E=BP (((List.range n).drop (k+1)).map f))/\∀e,f k=e->e≠0->e=E:=by
 have:=nO (l:=List.range n) (k:=k) (by simpa using a) h
 grind
theorem q8(i:dr)(t:i.af.length<=140737488355328):AI prog 170 [.d (Ah i)] (AE (Nu i)):=by
 refine Av func170 Z Z ntmps170 Z Z Z λF r=>(AD (AF (V (Ba 1 Z Z Z Z Z Z Z) (AB Z Z (AC (AD ?_))))));refine AD (AF (J (AL Z GL Z Z Z) (J (AQ Z Z Z BJ Z) (J (BW Z E0 Z) (cl Z Z (AC (AX (BC (α:=Nat) (λk=>⟨31,[(1,(.ptr 1 0 0)),(6,(.d (.sl none (i.af.map AE)))),(7,(.d (AE (i.af.length:Int)))),(8,(.d (AE (k:Int))))],[(1,[.blk 55 [.d (AE i.id),.d (AE i.pr),.d (AE i.sq),.d (.sl none (i.po.map B9)),.d (.sl none (i.pa.map Co)),.d (.sl none (i.af.map AE))]])]⟩) (λk=>k<=i.af.length/\Nu i=BP (((List.range i.af.length).drop k).map (NK i.id i.af))) (λk=>i.af.length-k) (0) (⟨κ _,Z⟩) (AR r [1] Z Z ⟨Z,Z,Z,Z,trivial⟩) ?_))))))));rintro k ⟨s,o⟩;refine AD (AF (J (At Z Z Z) (AC (AD (A4 Z (λl=>?_) (λl=>?_))))))
 .have b:k<i.af.length:=BG l;refine AU (AD (AX (AD (AF ?_))));have j:=sT b o;have g:i.af.getD k 0=i.af[k]:=by simp[b]
  refine cl Z Z (J (Al (k) Z Z (Z) (AP b) E0 Z BE Z) (J (BZ Z Z Ag Z) (AB Z Z (AB Z Z (AC ?_)))));refine AX (AD (AF (cl Z Z (J (Ak (I7 _ _ _) Z Z) (J (JQ Z Z) (AB Z Z (AC (A4 Z (λa=>?_) (λa=>?_)))))))))
  .refine AD (AF (AB Z Z (AC (A5 ?_))));exact ⟨_,[],[],A2 Z,Z,Z,Ae (j.2 2 (by unfold NK;rw[g,ϱ a]) (by decide)),Z⟩
  .refine AD (AF (cl Z Z (J (AL Z QU Z Z Z) (J (AQ Z Z Z Ag Z) (J (GW Z Z Z) (cl Z Z (C5 22 Z (λc=>?_) (λc=>?_))))))))
   .refine AN Z Z Z Z (AN Z Z Z Z (AN Z Z Z Z (AN Z Z Z Z (AN Z Z Z Z (AN Z Z Z Z ?_)))));refine J (B4 Z Z Z Z) (AB Z Z (AC (CM Z Z (AD (AF (AB Z Z (AC (A5 ?_))))))));exact ⟨_,[],[],A2 Z,Z,Z,Ae (j.2 7 (by unfold NK;rw[g,υ a,ϱ (.inl c)]) (by decide)),Z⟩
   .refine AT Z Z Z (J (AL Z GL Z Z Z) (AT Z Z Z (J (AQ Z Z Z BJ Z) (AT Z Z Z (cl Z Z (AT Z Z Z ?_))))));refine J (Xx (i.af) (k) Z Z Z (Z) (by omega) E0 BE (λ_=>rfl) Z) (AT Z Z Z (cl Z Z (AT Z Z Z (J (Ak (Pw (i.af.take k) _ (by simp;omega)) Z Z) (J (Br Z Z Z Z) (AB Z Z (AC (A4 Z (λf=>?_) (λf=>?_)))))))))
    .refine AD (AF (AB Z Z (AC (A5 ?_))));exact ⟨_,[],[],A2 Z,Z,Z,Ae (j.2 7 (by unfold NK;rw[g,υ a,ϱ (.inr f)]) (by decide)),Z⟩
    .refine AU (AF (J (Ac Z Z (AJ (k+1) (by omega)) Z) (cl Z Z (AC ?_))));exact ⟨k+1,⟨by show k+1<=_;omega,j.1 (by unfold NK;rw[g,υ a,υ (by simp[c];exact f)])⟩,by show i.af.length-(k+1)<i.af.length-k;omega,AR r [1] Z (Z) ⟨Z,Z,Z,Z,trivial⟩⟩
 .refine Aq (AD (AF (AB Z Z (AC (A5 ?_)))));exact ⟨_,[],[],A2 Z,Z,Z,Ae (by rw[o,DZ (by simp;have h:=l;omega)]),Z⟩
theorem Gr(l:List Fa)(p:Fa)(a:List UInt8):Bw (l++ [p]) a=Bw l a+if p.acc.a=a then p.d else 0:=by simp[Bw]
theorem JM(l:List Fa)(a:List UInt8)(h:∀p∈l,-Mx<=p.d/\p.d<=Mx): -(l.length*1000000000000000)<=Bw l a/\Bw l a<=l.length*1000000000000000:=by
 induction l with
 | nil=>simp[Bw]
 | cons p r b=>
  have f:=b λq c=>h q (by simp[c])
  grind[Bw]
def W2(l:List Fa)(M:List (List UInt8×Int)):Prop:=(M.map Prod.fst).Nodup/\(∀a,Af M a 0=Bw l a)/\(∀a,a∈M.map Prod.fst->∃p∈l,p.acc.a=a)/\∀p∈l,p.acc.a∈M.map Prod.fst
theorem lI{g:Type}[DecidableEq c]{M:List (c×g)}{a f:c}{b:g}:f∈(B2 M a b).map Prod.fst↔f=a\/f∈M.map Prod.fst:=by grind[Mh]
variable{g:List Fa}
theorem W2.snoc(h:W2 g M)(p:Fa):W2 (g++ [p]) (B2 M p.acc.a (Af M p.acc.a 0+p.d)):=by
 obtain ⟨i,k,j,f⟩:=h;refine ⟨PT i,λa=>?_,λa c=>?_,λq b=>?_⟩
 .grind[Ip,Gr]
 .rcases lI.1 c with e | e
  .grind
  grind
 .rcases ν.1 b with b | b
  .exact lI.2 (.inr (f q b))
  .simp at b;subst b;exact lI.2 (.inl Z)
variable{s:dr}
theorem q0(h:W2 s.po M){j:Nat}{a:List UInt8}{v:Int}(l:M[j]? =some (a,v))(g:v≠0):(14:Int)=Lz s:=by
 have b:=ϖ l;have c:=jT (z:=0) h.1 b;rw[h.2.1] at c;obtain ⟨p,k,e⟩:=h.2.2.1 a (mo (f:=Prod.fst) b);unfold Lz;rw[ϱ ⟨p,k,by rw[e,c];exact g⟩]
theorem ug(h:W2 s.po M)(a:∀x∈M,x.2=0):(0:Int)=Lz s:=by grind[Lz,Iq,W2]
theorem S4(h:∀p∈g,-Mx<=p.d/\p.d<=Mx):∀p∈g.take k,-Mx<=p.d/\p.d<=Mx:=λp a=>h p (lL a)
theorem Xr(i:dr)(G:i.po.length<=256)(A:∀p∈i.po,-Mx<=p.d/\p.d<=Mx):AI prog 171 [.d (Ah i)] (AE (Lz i)):=by
 refine Av func171 Z Z ntmps171 Z Z Z λF u=>(AD (AF ?_));refine V (Ba 1 Z Z Z Z Z Z Z) (AB Z Z (AC (AD (AF (V (SV 2 Z Z Z Z) (AB Z Z (AC (AD ?_))))))));refine AD (AF (J (AL Z JC Z Z Z) (J (AQ Z Z Z aq Z) (J (BW Z cB Z) (cl Z Z (AC (AX (BC (α:=Nat×List (List UInt8×Int)) (λq=>⟨33,[(3,(.map 2 0)),(10,(.d (.sl none (i.po.map B9)))),(11,(.d (AE (i.po.length:Int)))),(12,(.d (AE (q.1:Int))))],[(2,[B6 Am AE q.2])]⟩) (λq=>q.1<=i.po.length/\W2 (i.po.take q.1) q.2) (λq=>i.po.length-q.1) ((0,[])) (⟨κ _,⟨by simp,by simp[Bw,Af],by simp,by simp⟩⟩) (AR u [2] Z Z ⟨Z,Z,Z,Z,trivial⟩) ?_))))))));rintro ⟨k,M⟩ ⟨w,s⟩;dsimp only at w s⊢;refine AD (AF (J (At Z Z Z) (AC (AD (A4 Z (λg=>?_) (λg=>?_))))))
 .have c:k<i.po.length:=BG g;refine AU (AD (AX (AD (AF ?_))));have z:=A _ (ϑ c);have y:=JM (i.po.take k) i.po[k].acc.a (S4 A);rw[<-s.2.1,θ] at y;simp only[Mx] at z;refine J (Al (k) Z Z (Z) (AP c) cB Z Qo Z) (J (CT Z Z du Z) ?_);refine V (CF 3 Qk Z Z Z Z) (V (Bc Z Z Z Z Z Z Z Qo) (AC (AF (cl Z Z (J (AL Z Ll Z Z Z) (J (AL Z Pm Z Z Z) (J (AQ Z Z Z CZ Z) (J (I4 (M) (i.po[k].acc.a) (0) _ Z Z Z fj yZ QQ Z Z) ?_))))))));refine J (AL Z TQ Z Z Z) (J (AQ Z Z Z FK Z) (J (Ac Z Z (Ξ _ (by omega)) Z) (V (Wa (M) (i.po[k].acc.a) (Af M i.po[k].acc.a 0+i.po[k].d) Z Z Z fj yZ Z Z) (AC (AF (J (Ac Z Z (AJ (k+1) (by omega)) Z) (cl Z Z (AC ?_))))))));exact ⟨(k+1,_),⟨by show k+1<=_;omega,by have:=s.snoc i.po[k];rwa [<-ψ c] at this⟩,by show i.po.length-(k+1)<i.po.length-k;omega,AR u [2] Z (Z) ⟨Z,Z,Z,Z,trivial⟩⟩
 .refine Aq (AD (AD ?_));have r:W2 i.po M:=by rw[ζ (by have h:=g;omega)] at s;exact s
  refine AF (cl Z Z (V (Gz 4 Z Z Z fj Z Z Z Z) (AC (AX (BC (α:=List Nat) (λseen=>⟨33,[(26,(.ptr 4 0 0))],[(4,[.iter 2 0 M.length seen]),(2,[B6 Am AE M])]⟩) (λseen=>∀x∈M,x∈CX M (List.range M.length) seen\/x.2=0) (λseen=>(CX M (List.range M.length) seen).length) ([]) (λx j=> .inl (by rw[Dn (by simp)];exact j)) (AR u [4,2] Z Z ⟨Z,trivial⟩) ?_)))));intro seen B;refine AD (AF (Me (M) Z Z Z Z (λl=>?_) (λv t E D b o C a=>⟨_,Z,?_⟩)))
  .refine J (D6 Z Z Z) ?_;refine AC (AD (Cr Z Z (Aq (AD (AF (AB Z Z (AC (A5 ?_))))))));exact ⟨_,[],[],A2 Z,Z,Z,Ae (ug r λx j=>(B x j).elim (λh=>by rw[l] at h;cases h) id),Z⟩
  .refine J (D6 Z Z Z) (AC (AD (CM Z Z (AU (AX (AD (AF (J (HB (M) v t Z Z Z b o Z) ?_))))))));refine J (D6 Z Z Z) (AB Z Z (AC (AD (AF (cl Z Z (J (DP Z Z Z) (AC (A4 Z (λf=>?_) (λf=>?_)))))))))
   .refine AD (AF (AB Z Z (AC (A5 ?_))));exact ⟨_,[],[],A2 Z,Z,Z,Ae (q0 r b f),Z⟩
   .refine AU ?_;exact ⟨seen++ [t],λx j=>(B x j).elim (λh=>(ju.1 (a.mem_iff.1 h)).elim (λe=> .inr (by rw[e];simpa using f)) .inl) .inr,by rw[a.length_eq];exact mS _,AR u [4,2] Z (Z) ⟨Z,trivial⟩⟩
abbrev qd:W3:=⟨[],0,[]⟩
abbrev HK(p:Fa):AW:=⟨0,p.acc,[],[]⟩
abbrev CU(f t:List UInt8):AW:=⟨1,qd,f,t⟩
abbrev DX(f:List UInt8):AW:=⟨2,qd,f,[]⟩
def jM(M:List (AW×Int))(x:AW×Int):List (AW×Int):=B2 M x.1 (Af M x.1 0+x.2)
def EX(l:List Fa):List (AW×Int):=l.map λp=>(HK p,p.d)
def ND(p:NN):List (AW×Int):=[(CU p.f p.t,-p.n),(CU p.t p.f,p.n),(DX p.f,-p.n),(DX p.t,p.n)]
def HX(l:List NN):List (AW×Int):=l.flatMap ND
def jt(i:dr):List (AW×Int):=EX i.po++HX i.pa
def jb(l:List (AW×Int)):List (AW×Int):=l.foldl jM []
def Ai(l:List (AW×Int))(r:AW):Int:=(l.map λx=>if x.1=r then x.2 else 0).sum
theorem Zo(l:List (AW×Int))(x:AW×Int):jb (l++ [x])=jM (jb l) x:=by simp[jb]
theorem Gq(l m:List (AW×Int))(r:AW):Ai (l++m) r=Ai l r+Ai m r:=by simp[Ai]
theorem Xi(x:AW×Int)(r:AW):Ai [x] r=if x.1=r then x.2 else 0:=by simp[Ai]
theorem cK{α:Type}{p:List α->Prop}(h0:p [])(h1:∀l x,p l->p (l++ [x]))(l:List α):p l:=by
 have:∀m:List α,p m.reverse:=λm=>by
  induction m with
  | nil=>exact h0
  | cons x r ih=>rw[List.reverse_cons];exact h1 _ _ ih
 have:=this l.reverse
 grind
theorem Ks(l:List (AW×Int))(r:AW):Af (jb l) r 0=Ai l r:=by
 revert r
 refine cK (p:=λl=>∀r,Af (jb l) r 0=Ai l r) (λr=>rfl) (λl x a r=>?_) l;rw[Zo,jM,Ip,Gq,Xi]
 grind
theorem Fq(l:List (AW×Int)):((jb l).map Prod.fst).Nodup:=
 cK (p:=λl=>((jb l).map Prod.fst).Nodup) (by simp[jb]) (λl x a=>by rw[Zo];exact PT a) l
theorem JZ(l:List (AW×Int))(r:AW):r∈(jb l).map Prod.fst↔r∈l.map Prod.fst:=by
 refine cK (p:=λl=>r∈(jb l).map Prod.fst↔r∈l.map Prod.fst) (by simp[jb]) (λl x a=>?_) l;rw[Zo,jM,lI,a]
 simp[or_comm]
def QW(l:List (AW×Int)):Prop:=∀x∈l,-1000000000000000<=x.2/\x.2<=1000000000000000
theorem IE{l:List (AW×Int)}(h:QW l)(r:AW): -(l.length*1000000000000000)<=Ai l r/\Ai l r<=l.length*1000000000000000:=by
 induction l with
 | nil=>simp[Ai]
 | cons x l a=>
  grind[Ai,QW]
structure m0 (i:dr):Prop where
 po:i.po.length<=256
 pa:i.pa.length<=256
 af:i.af.length<=256
 d:∀p∈i.po,-Mx<=p.d/\p.d<=Mx
 n:∀p∈i.pa,0<=p.n/\p.n<=Mx
theorem JF(l:List NN):(HX l).length=4*l.length:=by
 induction l with
 | nil=>rfl
 | cons p r a=>simp only[HX,List.flatMap_cons,Δ,mN] at a⊢;rw[a];simp[ND];omega
theorem sL(h:∀p∈g,-Mx<=p.d/\p.d<=Mx):QW (EX g):=by grind[QW,EX]
variable{t:NN}
theorem sN(h:0<=t.n/\t.n<=Mx):QW (ND t):=by grind[ND,QW]
variable{o:List NN}
theorem xD(h:∀p∈o,0<=p.n/\p.n<=Mx):QW (HX o):=λx a=>by
 obtain ⟨p,b,a⟩:=mO.1 a;exact sN (h p b) x a
variable{a:List (AW×Int)}
theorem QW.append{m:List (AW×Int)}(h:QW a)(c:QW m):QW (a++m):=λx b=>(ν.1 b).elim (h x) (c x)
theorem QW.take(h:QW a)(k:Nat):QW (a.take k):=λx b=>h x (lL b)
theorem Fp{l:List (AW×Int)}(h:QW l)(a:l.length<=2000)(r:AW): -2000000000000000000<=Af (jb l) r 0/\Af (jb l) r 0<=2000000000000000000:=by
 have:=IE h r;rw[Ks];omega
theorem SD(a:k<g.length):EX (g.take (k+1))=EX (g.take k)++ [(HK g[k],g[k].d)]:=by
 simp only[EX];rw[ψ a,kA];rfl
theorem SC(a:k<o.length):HX (o.take (k+1))=HX (o.take k)++ND o[k]:=by
 simp only[HX];rw[ψ a,List.flatMap_append];simp
def jo(M:List (AW×Int))(p:NN):List (AW×Int):=B2 M (CU p.f p.t) (Af M (CU p.f p.t) 0-p.n)
def jn(M:List (AW×Int))(p:NN):List (AW×Int):=B2 M (CU p.t p.f) (Af M (CU p.t p.f) 0+p.n)
def nK(M:List (AW×Int))(p:NN):List (AW×Int):=B2 M (DX p.f) (Af M (DX p.f) 0-p.n)
def y7(M:List (AW×Int))(p:NN):List (AW×Int):=B2 M (DX p.t) (Af M (DX p.t) 0+p.n)
variable{i:List (AW×Int)}
theorem dX{p:NN}(h:i=jb a):jo i p=jb (a++ [(CU p.f p.t,-p.n)])/\jn (jo i p) p=jb (a++ [(CU p.f p.t,-p.n),(CU p.t p.f,p.n)])/\nK (jn (jo i p) p) p=jb (a++ [(CU p.f p.t,-p.n),(CU p.t p.f,p.n),(DX p.f,-p.n)])/\y7 (nK (jn (jo i p) p) p) p=jb (a++ND p):=by
 subst h;have e:∀(a:List (AW×Int)) (x:AW×Int) (r:List (AW×Int)),a++x::r=(a++ [x])++r:=by simp
 refine ⟨?_,?_,?_,?_⟩
 .rw[Zo];rfl
 .rw[e,Zo,Zo];rfl
 .rw[e,e,Zo,Zo,Zo];rfl
 .rw[ND,e,e,e,Zo,Zo,Zo,Zo];rfl
theorem dS(h:i=jb a)(c:QW a)(s:a.length<=1900)(g:0<=t.n/\t.n<=Mx)(r:AW):(-2000000000000000000<=Af i r 0/\Af i r 0<=2000000000000000000)/\(-2000000000000000000<=Af (jo i t) r 0/\Af (jo i t) r 0<=2000000000000000000)/\(-2000000000000000000<=Af (jn (jo i t) t) r 0/\Af (jn (jo i t) t) r 0<=2000000000000000000)/\(-2000000000000000000<=Af (nK (jn (jo i t) t) t) r 0/\Af (nK (jn (jo i t) t) t) r 0<=2000000000000000000):=by
 obtain ⟨o,k,j,_⟩:=dX (p:=t) h;have b:=sN g;rw[j,k,o,h];refine ⟨Fp c (by omega) r,Fp (c.append λx f=>b x ?_) (by simp;omega) r,Fp (c.append λx f=>b x ?_) (by simp;omega) r,Fp (c.append λx f=>b x ?_) (by simp;omega) r⟩
 all_goals (grind[ND])
set_option maxHeartbeats 1000000 in
theorem S6(i:dr)(j:m0 i):AO prog 125 [.d (Ah i)] [] λr H=>r= .map 2 0/\H=[(2,[B6 Bn AE (jb (jt i))])]:=by
 have E:=j.po;have G:=j.pa;refine Av func125 Z Z ntmps125 Z Z Z λF x=>(AD (AF ?_));refine V (Ba 1 Z Z Z Z Z Z Z) (AB Z Z (AC (AD (AF (V (SV 2 Z Z Z Z) (AB Z Z (AC (AD ?_))))))));refine AD (AF (J (AL Z JC Z Z Z) (J (AQ Z Z Z aq Z) (J (BW Z cB Z) (cl Z Z (AC (AX (BC (α:=Nat×List (AW×Int)) (λq=>⟨80,[(1,(.ptr 1 0 0)),(3,(.map 2 0)),(10,(.d (.sl none (i.po.map B9)))),(11,(.d (AE (i.po.length:Int)))),(12,(.d (AE (q.1:Int))))],[(2,[B6 Bn AE q.2]),(1,[.blk 55 [.d (AE i.id),.d (AE i.pr),.d (AE i.sq),.d (.sl none (i.po.map B9)),.d (.sl none (i.pa.map Co)),.d (.sl none (i.af.map AE))]])]⟩) (λq=>q.1<=i.po.length/\q.2=jb (EX (i.po.take q.1))) (λq=>i.po.length-q.1) ((0,[])) (⟨κ _,Z⟩) (AR x [2,1] Z Z ⟨Z,Z,Z,Z,Z,trivial⟩) ?_))))))));rintro ⟨k,M⟩ ⟨z,w⟩;dsimp only at z w⊢;refine AD (AF (J (At Z Z Z) (AC (AD (A4 Z (λs=>?_) (λs=>?_))))))
 .have c:k<i.po.length:=BG s;refine AU (AD (AX (AD (AF ?_))));have B:=j.d _ (ϑ c);simp only[Mx] at B;have A:=Fp (l:=EX (i.po.take k)) (sL (S4 j.d)) (by simp[EX];omega) (HK i.po[k]);rw[<-w] at A;refine J (Al (k) Z Z (Z) (AP c) cB Z Qo Z) (J (CT Z Z du Z) (V (CF 3 Qk Z Z Z Z) (V (Bc Z Z Z Z Z Z Z Qo) (AC (Bm [[],[],[1],[1,2],[0,1,2,3],[],[5],rg 7,[0,1,2,3,5,6],[0,1,2,3,5,6,8],rg 10] mixed Z (bd 2 ([B6 Bn AE (Bl M (HK i.po[k]) 0)]) Z ?_))))));refine A7 3 Z Z (AK [5] Z (AL Z Ll Z Z Z) (Ay [17] Z Z (λ_=>A9 (Ar Z Z nz Z Z Z)) (AK [18] Z (Dx MI Ue Z Z Z) (Jm [16,19] [] Z Z Z (λ_=>A9 (I4 (M) (HK i.po[k]) (0) _ Z Z Z C6 Ck QQ Z Z)) (λ_=>A9 (I4 (Bl (M) (HK i.po[k]) (0)) (HK i.po[k]) (0) _ Z Z Z C6 Ck QQ (Eb _ _ _ _) Z)) (AK [5] Z (AL Z TQ Z Z Z) (Ay [21] Z Z (λ_=>A9 (AQ Z Z Z FK Z)) (AK [20,22] Z (Ac Z Z (Ξ _ (by omega)) Z) (Cq [16,19] [2] [(24,_)] Z Z (λ_=>Cd (H6 (M) (HK i.po[k]) (0) Z Z Z C6 Ck QQ Z Z)) (.inr ⟨24,_,Z,Z,Z,Z,Z⟩) Z Z Z Z Z ?_ (hCn:=SL Z)))))))));refine AK [24] Z (D6 Z Z Z) (BR 10 Z Z Z (AZ 11 Z Z (V (H8 (M) (HK i.po[k]) (0) (Af M (HK i.po[k]) 0+i.po[k].d) Z Z Z Ck Z Z) (AC ⟨Z,?_⟩))));refine Bb (AF (J (Ac Z Z (AJ (k+1) (by omega)) Z) (cl Z Z (AC ?_))));exact ⟨(k+1,_),⟨by show k+1<=_;omega,by show _=jb (EX (i.po.take (k+1)));rw[SD c,Zo,<-w];rfl⟩,by show i.po.length-(k+1)<i.po.length-k;omega,AR x [2,1] Z (Z) ⟨Z,Z,Z,Z,Z,trivial⟩⟩
 .refine Aq (AD (AD ?_));have C:M=jb (EX i.po++HX (i.pa.take 0)):=by rw[w,ζ (by have h:=s;omega)];simp[HX]
  refine AF (J (AL Z Kf Z Z Z) (J (AQ Z Z Z fI Z) (J (BW Z cX Z) (cl Z Z (AC (AX (BC (α:=Nat×List (AW×Int)) (λq=>⟨80,[(3,(.map 2 0)),(28,(.d (.sl none (i.pa.map Co)))),(29,(.d (AE (i.pa.length:Int)))),(30,(.d (AE (q.1:Int))))],[(2,[B6 Bn AE q.2])]⟩) (λq=>q.1<=i.pa.length/\q.2=jb (EX i.po++HX (i.pa.take q.1))) (λq=>i.pa.length-q.1) ((0,M)) (⟨κ _,C⟩) (AR x [2] Z Z ⟨Z,Z,Z,Z,trivial⟩) ?_)))))));rintro ⟨m,N⟩ ⟨y,v⟩;dsimp only at y v⊢;refine AD (AF (J (At Z Z Z) (AC (AD (A4 Z (λo=>?_) (λo=>?_))))))
  .have b:m<i.pa.length:=BG o;refine AU (AD (AX (AD (AF ?_))));have u:=j.n _ (ϑ b);have a:=dS v ((sL j.d).append (xD λq D=>j.n q (lL D))) (by rw[Δ,JF];simp[EX];omega) u;simp only[Mx] at u;refine J (Al (m) Z Z (Z) (AP b) cX Z YR Z) (J (CT Z Z rk Z) (V (CF 4 rK Z Z Z Z) (V (Bc Z Z Z Z Z Z Z YR) (AC (AD (Bm [[],[],[1],[],[3],[1,2,3,4],rg 6,[],[7],rg 9,[0,1,2,3,4,5,7,8],[0,1,2,3,4,5,7,8,10],rg 12] mixed Z (bd 2 ([B6 Bn AE (Bl N (CU i.pa[m].f i.pa[m].t) 0)]) Z ?_)))))));refine A7 3 Z Z (AK [7] Z (AL Z Lk Z Z Z) (Ay [35] Z Z (λ_=>A9 (AQ Z Z Z CZ Z)) (AK [7] Z (AL Z Lj Z Z Z) (Ay [37] Z Z (λ_=>A9 (AQ Z Z Z CZ Z)) (AK [36,38] Z (Dx MI Ue Z Z Z) (Jm [34,39] [] Z Z Z (λ_=>A9 (I4 (N) (CU i.pa[m].f i.pa[m].t) (0) _ Z Z Z C6 Ck QQ Z Z)) (λ_=>A9 (I4 (Bl (N) (CU i.pa[m].f i.pa[m].t) (0)) (CU i.pa[m].f i.pa[m].t) (0) _ Z Z Z C6 Ck QQ (Eb _ _ _ _) Z)) (AK [7] Z (AL Z Li Z Z Z) (Ay [41] Z Z (λ_=>A9 (AQ Z Z Z FK Z)) ?_))))))));have g:=(a (CU i.pa[m].f i.pa[m].t)).1;refine AK [40,42] Z (MC Z Z (Ξ _ (by omega)) Z) (Cq [34,39] [2] [(44,_)] Z Z (λ_=>Cd (H6 (N) (CU i.pa[m].f i.pa[m].t) (0) Z Z Z C6 Ck QQ Z Z)) (.inr ⟨44,_,Z,Z,Z,Z,Z⟩) Z Z Z Z Z ?_ (hCn:=SL Z));refine AK [44] Z (D6 Z Z Z) (BR 12 Z Z Z (AZ 13 Z Z (V (H8 (N) (CU i.pa[m].f i.pa[m].t) (0) (Af N (CU i.pa[m].f i.pa[m].t) 0-i.pa[m].n) Z Z Z Ck Z Z) (AC ⟨Z,?_⟩))));refine Bb (AD (Bm [[],[],[1],[],[3],[1,2,3,4],rg 6,[],[7],rg 9,[0,1,2,3,4,5,7,8],[0,1,2,3,4,5,7,8,10],rg 12] mixed Z (bd 2 ([B6 Bn AE (Bl (jo N i.pa[m]) (CU i.pa[m].t i.pa[m].f) 0)]) Z ?_)));refine A7 3 Z Z (AK [7] Z (AL Z Lj Z Z Z) (Ay [47] Z Z (λ_=>A9 (AQ Z Z Z CZ Z)) (AK [7] Z (AL Z Lk Z Z Z) (Ay [49] Z Z (λ_=>A9 (AQ Z Z Z CZ Z)) (AK [48,50] Z (Dx MI Ue Z Z Z) (Jm [46,51] [] Z Z Z (λ_=>A9 (I4 (jo N i.pa[m]) (CU i.pa[m].t i.pa[m].f) (0) _ Z Z Z C6 Ck QQ Z Z)) (λ_=>A9 (I4 (Bl (jo N i.pa[m]) (CU i.pa[m].t i.pa[m].f) (0)) (CU i.pa[m].t i.pa[m].f) (0) _ Z Z Z C6 Ck QQ (Eb _ _ _ _) Z)) (AK [7] Z (AL Z Li Z Z Z) (Ay [53] Z Z (λ_=>A9 (AQ Z Z Z FK Z)) ?_))))))));have g:=(a (CU i.pa[m].t i.pa[m].f)).2.1;refine AK [52,54] Z (Ac Z Z (Ξ _ (by omega)) Z) (Cq [46,51] [2] [(56,_)] Z Z (λ_=>Cd (H6 (jo N i.pa[m]) (CU i.pa[m].t i.pa[m].f) (0) Z Z Z C6 Ck QQ Z Z)) (.inr ⟨56,_,Z,Z,Z,Z,Z⟩) Z Z Z Z Z ?_ (hCn:=SL Z));refine AK [56] Z (D6 Z Z Z) (BR 12 Z Z Z (AZ 13 Z Z (V (H8 (jo N i.pa[m]) (CU i.pa[m].t i.pa[m].f) (0) (Af (jo N i.pa[m]) (CU i.pa[m].t i.pa[m].f) 0+i.pa[m].n) Z Z Z Ck Z Z) (AC ⟨Z,?_⟩))));refine Bb (AD ?_);refine Bm [[],[],[1],[1,2],[0,1,2,3],[],[5],rg 7,[0,1,2,3,5,6],[0,1,2,3,5,6,8],rg 10] mixed Z (bd 2 ([B6 Bn AE (Bl (jn (jo N i.pa[m]) i.pa[m]) (DX i.pa[m].f) 0)]) Z (A7 3 Z Z (AK [7] Z (AL Z Lk Z Z Z) (Ay [59] Z Z (λ_=>A9 (AQ Z Z Z CZ Z)) (AK [60] Z (Dx MI Ue Z Z Z) (Jm [58,61] [] Z Z Z (λ_=>A9 (I4 (jn (jo N i.pa[m]) i.pa[m]) (DX i.pa[m].f) (0) _ Z Z Z C6 Ck QQ Z Z)) (λ_=>A9 (I4 (Bl (jn (jo N i.pa[m]) i.pa[m]) (DX i.pa[m].f) (0)) (DX i.pa[m].f) (0) _ Z Z Z C6 Ck QQ (Eb _ _ _ _) Z)) (AK [7] Z (AL Z Li Z Z Z) (Ay [63] Z Z (λ_=>A9 (AQ Z Z Z FK Z)) ?_))))))));have g:=(a (DX i.pa[m].f)).2.2.1;refine AK [62,64] Z (MC Z Z (Ξ _ (by omega)) Z) (Cq [58,61] [2] [(66,_)] Z Z (λ_=>Cd (H6 (jn (jo N i.pa[m]) i.pa[m]) (DX i.pa[m].f) (0) Z Z Z C6 Ck QQ Z Z)) (.inr ⟨66,_,Z,Z,Z,Z,Z⟩) Z Z Z Z Z ?_ (hCn:=SL Z));refine AK [66] Z (D6 Z Z Z) (BR 10 Z Z Z (AZ 11 Z Z (V (H8 (jn (jo N i.pa[m]) i.pa[m]) (DX i.pa[m].f) (0) (Af (jn (jo N i.pa[m]) i.pa[m]) (DX i.pa[m].f) 0-i.pa[m].n) Z Z Z Ck Z Z) (AC ⟨Z,?_⟩))));refine Bb ?_;refine Bm [[],[],[1],[1,2],[0,1,2,3],[],[5],rg 7,[0,1,2,3,5,6],[0,1,2,3,5,6,8],rg 10] mixed Z (bd 2 ([B6 Bn AE (Bl (nK (jn (jo N i.pa[m]) i.pa[m]) i.pa[m]) (DX i.pa[m].t) 0)]) Z (A7 3 Z Z (AK [7] Z (AL Z Lj Z Z Z) (Ay [69] Z Z (λ_=>A9 (AQ Z Z Z CZ Z)) (AK [70] Z (Dx MI Ue Z Z Z) (Jm [68,71] [] Z Z Z (λ_=>A9 (I4 (nK (jn (jo N i.pa[m]) i.pa[m]) i.pa[m]) (DX i.pa[m].t) (0) _ Z Z Z C6 Ck QQ Z Z)) (λ_=>A9 (I4 (Bl (nK (jn (jo N i.pa[m]) i.pa[m]) i.pa[m]) (DX i.pa[m].t) (0)) (DX i.pa[m].t) (0) _ Z Z Z C6 Ck QQ (Eb _ _ _ _) Z)) (AK [7] Z (AL Z Li Z Z Z) (Ay [73] Z Z (λ_=>A9 (AQ Z Z Z FK Z)) ?_))))))));have g:=(a (DX i.pa[m].t)).2.2.2;refine AK [72,74] Z (Ac Z Z (Ξ _ (by omega)) Z) (Cq [68,71] [2] [(76,_)] Z Z (λ_=>Cd (H6 (nK (jn (jo N i.pa[m]) i.pa[m]) i.pa[m]) (DX i.pa[m].t) (0) Z Z Z C6 Ck QQ Z Z)) (.inr ⟨76,_,Z,Z,Z,Z,Z⟩) Z Z Z Z Z ?_ (hCn:=SL Z));refine AK [76] Z (D6 Z Z Z) (BR 10 Z Z Z (AZ 11 Z Z (V (H8 (nK (jn (jo N i.pa[m]) i.pa[m]) i.pa[m]) (DX i.pa[m].t) (0) (Af (nK (jn (jo N i.pa[m]) i.pa[m]) i.pa[m]) (DX i.pa[m].t) 0+i.pa[m].n) Z Z Z Ck Z Z) (AC ⟨Z,?_⟩))));refine Bb (AF (J (Ac Z Z (AJ (m+1) (by omega)) Z) (cl Z Z (AC ?_))));exact ⟨(m+1,_),⟨by show m+1<=_;omega,by show _=jb (EX i.po++HX (i.pa.take (m+1)));rw[SC b,<-lm];exact (dX v).2.2.2⟩,by show i.pa.length-(m+1)<i.pa.length-m;omega,AR x [2] Z (Z) ⟨Z,Z,Z,Z,trivial⟩⟩
  .refine Aq (AD (AF (cl Z Z (AB Z Z (AC (A5 ?_))))));exact ⟨_,[2],_,A2 Z,Z,Z,Z,by rw[v,ζ (by have h:=o;omega)]<;>rfl⟩
end Go.Proofs.YteifpcnphnhaoaaGreat
