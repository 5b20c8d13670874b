import Derived.Test.YteifpcnphnhaoaaGreatMg14
import Derived.SizedLaws
open Go.Proofs.Tryz
namespace Go.Proofs.YteifpcnphnhaoaaGreat
open Go.ChangeShapes Go.WideShapes Go.ChangeAt Go.RowKit Go.Deep
variable{w:World}
abbrev rp:Nat->Prop:=λ_=>False
def YG(w:World)(d:D)(cs:List Value):Prop:=cs.length=d.cells.length/\(∀c∈d.cells,c.one=true)/\∀(j:Nat) c u,d.cells[j]? =some c->cs[j]? =some u->AZ w rp c u
theorem LC{d:D}{u:Value}(a:d.one=true)(h:AZ w rp d u):YG w d [u]:=by grind[YG,D.cells_one]
theorem YG.argS{w:World}{b:Nat->Nat->Value}{O:Nat->Prop}{a:List D}{cs:Array Value}(c:O=rp)(h:YG w (.agg a) (Value.agg cs).cells.toList):A8 w O b (.d (.agg a)) (.agg cs):=by
 subst c;obtain ⟨i,g,f⟩:=h;have:=AZ.agg (w:=w) (O:=rp) (cs:=a) (vs:=cs.toList) i g f;exact .d (by simpa using this)
section
variable{H:Type}{enc:TypeId×Value->H}{P:Program}{w:World}
variable{a:Type}{Q:a->Prop}{t:TypeId}{c:a->D}{k f:Nat}{g:TypeId}{h:Type}
def C8{α:Type}(enc:TypeId×Value->H)(P:Program)(w:World)(t:TypeId)(k:Nat)(emb:α->D)(Q:α->Prop):Prop:=
 ∀fuel cs x,DataW.trod enc P w 0 (λ_=>true) true fuel t cs=some x->(∀p∈x.2,p.block<w.heap.size)->(∀n∈x.1.weights P t,n<=reachBytes)->∃a,Q a/\(emb a).cells.length=k/\YG w (emb a) cs
theorem Oc{l:List (DataW H)}{d:DataW H}(b:d∈l){n:Nat}(f:n∈d.weights P g):n∈DataW.weightsAll P g l:=by
 induction l with
 | nil=>cases b
 | cons a r c=>
  grind[DataW.weightsAll]
theorem o8{k:IntKind}(c:P.underlying t=some (.int k)):C8 enc P w t 1 (λz:Int=> .raw (.int k z)) (λz=>k.min<=z/\z<=k.max):=λb f x h _ _=>by
 obtain ⟨z,rfl,_,a⟩:=DataW.trod_int c h;simp only[Lit.wf,kO,l6] at a;exact ⟨z,a,Z,LC Z (.raw Z)⟩
theorem o7(c:P.underlying t=some .string):C8 enc P w t 1 (λs:ByteArray=> .raw (.string s)) (λs=>s.size<=140737488351232):=λa g x h _ b=>by
 obtain ⟨s,rfl,rfl,f⟩:=DataW.trod_string c h;exact ⟨s,by simpa [DataW.weights,reachBytes] using b,Z,LC Z (.raw Z)⟩
theorem PQ{b:Nat}(W:P.underlying t=some (.slice g))(hk:P.cellsOf g=k)(Y:0<k)(N:P.bytesOf g=b)(hO:C8 enc P w g k c Q):C8 enc P w t 1 (λl:List a=> .sl none (l.map c)) (λl=>(∀r∈l,Q r)/\l.length*b<=140737488351232):=λfuel cs x h K G=>by
 rcases open_slice W h with ⟨rfl,rfl⟩ | ⟨r,u,cap,m,n,Dd,Pl,rfl,_,hl,hm,I,rfl,hi⟩
 .refine ⟨[],⟨by simp,by simp⟩,Z,LC Z (.sl k (λb N=>by cases N) (λ_=>rfl) Z (Θ _) (κ _) (by simp) (by simp) (λb o g=>by cases g))⟩
 .simp only[if_true] at I;subst I
  have R:∀i,i<u->∃y:a,Q y/\(c y).cells.length=k/\∃s:List Value,YG w (c y) s/\∀j,j<k->w.cell? ((r.add (i*k)).add j)=s[j]?:=by
   intro i M;obtain ⟨s,E,V⟩:=hi i (by omega)
   obtain ⟨y,hq,U,hr⟩:=hO _ _ _ V (λp hp=>K p (by
    simp only[υ,mI,Ω]
    exact .inr ⟨i,by omega,hp⟩)) (λn hn=>G n (by
    simp only[DataW.weights,W,jt,υ]
    exact .inr (.inl (Oc (Γ.2 ⟨i,Ω.2 M,Z⟩) hn))))
   obtain ⟨_,B,O⟩:=World.cells?_some E;rw[hk] at O;exact ⟨y,hq,U,s,hr,O⟩
  obtain ⟨l,L,z⟩:=om u R;refine ⟨l,⟨λy A=>?_,?_⟩,Z,LC Z (.sl k (λb N=>by cases N) (λg=>by cases g) (by rw[χ];exact L) hl hm (λx v=>?_) (λX=>?_) (λb o g i x v=>?_))⟩
  .obtain ⟨i,C,rfl⟩:=kh A;exact (z i _ (ω C)).1
  .have D:=G ((u+(m-u))*P.bytesOf g) (by simp[DataW.weights,W]);rw[N] at D;have F:=lk b (show l.length<=u+(m-u) by omega);have T:reachBytes=140737488351232:=rfl;omega
  .obtain ⟨y,A,rfl⟩:=Γ.1 v;obtain ⟨i,C,rfl⟩:=kh A;exact (z i _ (ω C)).2.1
  .have h0:0<l.length:=by
    cases l with
    | nil=>exact absurd Z X
    | cons _ _=>simp
   obtain ⟨_,D,s,F,T⟩:=z 0 _ (ω h0);have h4:=T 0 Y;have B:s.length=k:=by rw[F.1,D]
   rw[ω (by omega)] at h4;have:r.spot=none:=by simpa [Addr.add] using World.cell?_spot h4
   exact ⟨r.block,r.off,by cases r;simp_all⟩
  .rw[ς] at v
   cases A:l[i]? with
   | none=>rw[A] at v;cases v
   | some y=>
    rw[A] at v;injection v with v
    subst v;obtain ⟨hq,D,s,F,T⟩:=z i y A;injection g with g
    subst g;have B:s.length=k:=by rw[F.1,D]
    have M:i<u:=by rw[<-L];exact (φ.1 A).1
    have hin:∀j,j<k->w.cell? ⟨b,o+i*k+j,none⟩=s[j]?:=λj S=>by
     have:=T j S
     rwa [Go.WideShapes.add_plain,Go.WideShapes.add_plain] at this
    refine .ptr (λj=>s.getD j undef) ?_ (λh=>h) F.2.1 (λj f E=>?_) (λj f E=>?_)
    .have J:MemPlace.cell b (o+i*k)∈MemPlace.row ⟨b,o,none⟩ (m*P.cellsOf g):=MemPlace.mem_row.2 ⟨i*k,by
      rw[hk];have:(i+1)*k<=m*k:=lk _ (by omega)
      rw[mY] at this;omega,Z⟩
     exact K _ (mJ _ J)
    .have S:j<k:=by rw[<-D];exact (φ.1 E).1
     rw[hin j S,Ψ,ω (by omega)];rfl
    .have S:j<k:=by rw[<-D];exact (φ.1 E).1
     rw[Ψ,ω (by omega)];exact F.2.2 j f _ E (ω (by omega))
def Tr{α:Type}(enc:TypeId×Value->H)(P:Program)(w:World)(off total:Nat)(fs:List Field)(emb:α->List D)(Q:α->Prop):Prop:=
 ∀n (cs:List Value),cs.length=total->(∀(i:Nat) f,fs[i]? =some f->∃x,DataW.trod enc P w 0 (λ_=>true) true n f.type ((cs.drop f.offset).take (P.cellsOf f.type))=some x/\(∀p∈x.2,p.block<w.heap.size)/\∀n∈x.1.weights P f.type,n<=reachBytes)→
  ∃a,Q a/\off+(emb a).length=total/\(∀c∈emb a,c.one=true)/\∀(j:Nat) c u,(emb a)[j]? =some c->cs[off+j]? =some u->AZ w rp c u
theorem KZ:Tr enc P w f f [] (λ_:Unit=> []) (λ_=>True):=λn a _ _=>⟨(),trivial,Z,by simp,by simp⟩
theorem CQ{s:Nat}{l:Field}{G:List Field}{v:h->List D}{I:h->Prop}(R:l.offset=s)(S:P.cellsOf l.type=k)(V:C8 enc P w l.type k c Q)(U:Tr enc P w (s+k) f G v I):
  Tr enc P w s f (l::G) (λr:a×h=>(c r.1).cells++v r.2) (λr=>Q r.1/\I r.2):=λn W C F=>by
 obtain ⟨x,N,O,B⟩:=F 0 l rfl;obtain ⟨r,M,y,A⟩:=V _ _ _ N O B;obtain ⟨b,L,X,K,J⟩:=U n W C (λi g T=>F (i+1) g (by simpa using T));rw[R,S] at A;refine ⟨(r,b),⟨M,L⟩,by simp only[Δ,y];omega,λo t=>?_,λj o u t E=>?_⟩
 .rcases υ.1 t with t | t
  .exact A.2.1 o t
  .exact K o t
 .rcases Nat.lt_or_ge j k with z | z
  .rw[nT (by rw[y];exact z)] at t;exact A.2.2 j o u t (by rw[m6,ϱ z,ms];exact E)
  .rw[qw (by rw[y];exact z),y] at t;exact J (j-k) o u t (by rw[show s+k+(j-k)=s+j by omega];exact E)
theorem KY{A:Type}{t:TypeId}{z:Array Field}{k:Nat}{g:A->List D}{Q:A->Prop}(B:P.underlying t=some (.struct z))(E:P.cellsOf t=k)(h:Tr enc P w 0 k z.toList g Q):C8 enc P w t k (λa=> .agg (g a)) Q:=λF G x L y v=>by
 obtain ⟨r,n,_,rfl,C,o,S⟩:=DataW.trod_struct B L
 obtain ⟨a,K,s,J,I⟩:=h n G (by rw[C,E]) (λi f R=>by
  have l:z[i]? =some f:=by simpa using R
  have b:i<r.length:=by rw[o];exact (ld.1 l).1
  refine ⟨r[i],by rw[S i f l];exact ω b,λp N=>y p (mI.2 ⟨_,ϑ b,N⟩),λn O=>v n ?_⟩;simp only[DataW.weights,B]
  refine DataW.weights_mem_each (j:=i) (t:=f.type) (d:=r[i].1) (by rw[ς];simp[l]) (by rw[ς,ω b];rfl) n O)
 rw[lU] at s;exact ⟨a,K,s,by show G.length=_;rw[C,E];exact s.symm,J,λj c u T M=>I j c u T (by rw[lU];exact M)⟩
theorem C8.as{i:h->D}{j:h->Prop}(b:C8 enc P w t k c Q)(f:a->h)(o:∀g,c g=i (f g))(l:∀g,Q g->j (f g)):C8 enc P w t k i j:=by grind[C8]
end
theorem bK{P:Program}{f:FuncId}{k:List AV}(h:AI P f k (.raw (.bool true))){w:World}{vs:List Value}(C:vs.length=k.length)(B:∀(i:Nat) a v,k[i]? =some a->vs[i]? =some v->A8 w rp (λ_ _=>undef) a v):
  Calls P f vs.toArray w λe y=>e= .returned (.bool true)/\Below w.heap.size w y:=by
 have l:∀c b,¬BJ c [] b:=λc b ⟨_,_,_,h,_⟩=>by cases h
 let c:Nat->Nat->Value:=λ_ _=>undef
 let F:Fr:=Fr.mk none (.marks w.heap.size) w rp (BJ c []) (Cx c []) (λb t=>t.elim) [] (λ_ _ _ h=>Dh h)
 have E:F.O c []=rp:=funext λb=>propext ⟨λh=>h.elim id λh=>(l c b h).elim,λh=>h.elim⟩
 have s:Bj F [] c w:=⟨(λf i o u=>by cases u),(λf i L K o J b u=>by cases u),λb t=>(l c b t).elim,Z,Z,Z,Θ _,λ_ _ _=>rfl,λf i b t=>nO t,Θ _⟩
 refine (h.2 F c vs Z Z ⟨Z,Z,Z⟩ s C (λi a v D A=>by rw[E];exact B i a v D A)).mono λe y ⟨v,r,M,z,I,⟨H,G⟩,g,j⟩=>?_;subst I H G;refine ⟨?_,j.os,j.tape,j.output,j.size0,λb x=>j.keep b x (l c b)⟩
 cases g with
 | d g=>
  cases g with
  | raw _=>rfl
end Go.Proofs.YteifpcnphnhaoaaGreat
namespace Go.Proofs.YteifpcnphnhaoaaGreat
open Go.ChangeShapes Go.WideShapes Go.ChangeAt Go.RowKit
section
variable{H:Type}{enc:TypeId×Value->H}{P:Program}{w:World}
variable{t:TypeId}
theorem C8.asQ{i g:Type}{k:Nat}{c:i->D}{Q:i->Prop}{b:g->D}{j:g->Prop}(h:C8 enc P w t k c Q)(f:i->g)(o:∀a,Q a->c a=b (f a))(l:∀a,Q a->j (f a)):C8 enc P w t k b j:=by grind[C8]
theorem Yj(a:P.underlying t=some (.int .i64)):C8 enc P w t 1 (λn:Int=> .raw (.int .i64 n)) (λn=> -9223372036854775808<=n/\n<=9223372036854775807):=
 (o8 a).asQ id (λ_ _=>rfl) (λ_ h=>h)
theorem fI(b:P.underlying t=some .string):C8 enc P w t 1 Ak (λl=>l.length<=140737488351232):=
 (o7 b).asQ (λs=>s.data.toList) (λa _=>rfl) (λa h=>by simpa using h)
end
end Go.Proofs.YteifpcnphnhaoaaGreat
namespace Go.Proofs.YteifpcnphnhaoaaGreat
open Go.RowKit
variable{M:List (List UInt8×Int)}{k:Nat}{c:Type}{f:List c}{h:c->Int}{j:Prop}{E:Int}{x:c}
set_option maxRecDepth 100000
abbrev AE(z:Int):D:= .raw (.int .i64 z)
structure W7 where
 o:List UInt8
 k:Int
 a:List UInt8
structure AW where
 k:Int
 acc:W7
 f:List UInt8
 t:List UInt8
structure Fd where
 acc:W7
 d:Int
structure NR where
 f:List UInt8
 t:List UInt8
 n:Int
structure cl where
 id:Int
 pr:Int
 sq:Int
 po:List Fd
 pa:List NR
 af:List Int
structure ey where
 r:AW
 n:Int
structure hU where
 ro:List ey
 it:List cl
theorem W7.eq_iff{x y:W7}:x=y↔x.o=y.o/\x.k=y.k/\x.a=y.a:=by cases x;cases y;simp
instance:DecidableEq W7:=λ_ _=>decidable_of_iff _ W7.eq_iff.symm
theorem AW.eq_iff{x y:AW}:x=y↔x.k=y.k/\x.acc=y.acc/\x.f=y.f/\x.t=y.t:=by cases x;cases y;simp
instance:DecidableEq AW:=λ_ _=>decidable_of_iff _ AW.eq_iff.symm
abbrev yI(x:W7):D:= .agg [Ak x.o,AE x.k,Ak x.a]
abbrev Bm(x:AW):D:= .agg [AE x.k,Ak x.acc.o,AE x.acc.k,Ak x.acc.a,Ak x.f,Ak x.t]
abbrev Bd(x:Fd):D:= .agg [Ak x.acc.o,AE x.acc.k,Ak x.acc.a,AE x.d]
abbrev Cy(x:NR):D:= .agg [Ak x.f,Ak x.t,AE x.n]
abbrev Ah(x:cl):D:= .agg [AE x.id,AE x.pr,AE x.sq,.sl none (x.po.map Bd),.sl none (x.pa.map Cy),.sl none (x.af.map AE)]
abbrev BY(x:ey):D:= .agg [AE x.r.k,Ak x.r.acc.o,AE x.r.acc.k,Ak x.r.acc.a,Ak x.r.f,Ak x.r.t,AE x.n]
abbrev BG(x:hU):D:= .agg [.sl none (x.ro.map BY),.sl none (x.it.map Ah)]
def LA(x:AW):List Value:=[.int .i64 x.k,Nv x.acc.o,.int .i64 x.acc.k,Nv x.acc.a,Nv x.f,Nv x.t]
def OB(x:W7):List Value:=[Nv x.o,.int .i64 x.k,Nv x.a]
abbrev a8:List TypeDesc:=[.int .i64,.string,.int .i64,.string,.string,.string]
abbrev jM:List TypeDesc:=[.string,.int .i64,.string]
theorem Px(a b:Int):Py (.int .i64 a) (.int .i64 b)=decide (a=b):=by
 simp only[Py];exact Bool.beq_eq_decide_eq a b
theorem Pw(a b:List UInt8):Py (Nv a) (Nv b)=decide (a=b):=by
 simp only[Py,Nv,<-beq_toListBytes,SV]
theorem Kz(a b:AW):CA (LA a) (LA b)=decide (a=b):=by grind[LA,CA,Px,Pw,AW.eq_iff,W7.eq_iff]
theorem O7(a b:W7):CA (OB a) (OB b)=decide (a=b):=by grind[OB,CA,Px,Pw,W7.eq_iff]
theorem qm{d:TypeDesc}{b:List TypeDesc}{u:Value}{a:List Value}(h:MapKept.IsKey d u)(c:BN b a):BN (d::b) (u::a):=by grind[BN]
theorem R0:BN [] []:=⟨Z,by simp⟩
theorem qi(a:AW):BN a8 (LA a):=qm Z (qm trivial (qm Z (qm trivial (qm trivial (qm trivial R0)))))
theorem Dt(a:W7):BN jM (OB a):=qm trivial (qm Z (qm trivial R0))
theorem oD(a:AW):(Bm a).val? =some (.agg (LA a).toArray):=rfl
theorem Ck:CC prog 64 Bm (λa=> .agg (LA a).toArray):=CC.flat (ds:=a8) (by kernel_rfl) (by kernel_rfl) oD qi Kz
theorem SQ{a:List (Nat×Option (List AL))}{f:Nat}{i b:List AL}(h:Bn a f=some (some b)):∀g c,Bn a g=some c->C2 f i b g c:=by grind
theorem XJ{p:Prop}[Decidable p][Decidable j](h:p↔j):AV.d (.raw (.bool (decide p)))= .d (.raw (.bool (decide j))):=by rw[decide_eq_decide.2 h]
theorem Sk[Decidable j](h:j):AV.d (.raw (.bool true))= .d (.raw (.bool (decide j))):=by rw[Υ h]
theorem Hh[Decidable j](h:¬j):AV.d (.raw (.bool false))= .d (.raw (.bool (decide j))):=by rw[kC h]
theorem Ae{a b:Int}(h:a=b):AV.d (.raw (.int .i64 a))= .d (.raw (.int .i64 b)):=by rw[h]
theorem AJ(n:Nat)(h:n<=9223372036854775807):IntKind.i64.wrap (n:Int)=(n:Int):=Ξ _ (by omega)
theorem Ic(n b c:Int):AI prog 167 [.d (AE n),.d (AE b),.d (AE c)] (.raw (.bool (decide (b<=n/\n<=c)))):=by
 refine As func167 Z Z ntmps167 Z Z Z λF f=>(AD (AF ?_));refine AB Z Z (AC (AD (AF (ch Z Z (ch Z Z (J (EE Z Z Z) (ch Z Z (C7 10 Z (λa=>?_) (λa=>?_)))))))));refine AT Z Z Z (ch Z Z (AT Z Z Z (ch Z Z (AT Z Z Z (J (Wx Z Z Z) (J (B8 Z Z Z Z) ?_))))))
 rotate_left
 refine AN Z Z Z Z (AN Z Z Z Z (AN Z Z Z Z (J (Bx Z Z Z Z) ?_)))
 all_goals
  refine AB Z Z (AC (A4 ?_));exact ⟨_,[],[],A2 Z,Z,Z,by first | exact XJ (by omega) | exact Hh (by omega),rfl⟩
theorem H7(n b c:Int):AI prog 178 [.d (AE n),.d (AE b),.d (AE c)] (.raw (.bool (decide (b<=n/\n<=c)))):=by
 refine As func178 Z Z ntmps178 Z Z Z λF f=>(AD (AF ?_));refine AB Z Z (AC (AD (AF (ch Z Z (ch Z Z (J (EE Z Z Z) (ch Z Z (C7 10 Z (λa=>?_) (λa=>?_)))))))));refine AT Z Z Z (ch Z Z (AT Z Z Z (ch Z Z (AT Z Z Z (J (Wx Z Z Z) (J (B8 Z Z Z Z) ?_))))))
 rotate_left
 refine AN Z Z Z Z (AN Z Z Z Z (AN Z Z Z Z (J (Bx Z Z Z Z) ?_)))
 all_goals
  refine AB Z Z (AC (A4 ?_));exact ⟨_,[],[],A2 Z,Z,Z,by first | exact XJ (by omega) | exact Hh (by omega),rfl⟩
theorem Ik(n:Int):AI prog 100 [.d (AE n)] (.raw (.bool (decide (0<=n/\n<=1000000000)))):=by
 refine As func100 Z Z ntmps100 Z Z Z λF b=>(AD ?_);refine AF (AB Z Z (AC (AD (AF (ch Z Z (J (EE Z Z Z) (ch Z Z (C7 5 Z (λa=>?_) (λa=>?_)))))))));refine AT Z Z Z (ch Z Z (AT Z Z Z (J (Wx Z Z Z) (J (B8 Z Z Z Z) ?_))))
 rotate_left
 refine AN Z Z Z Z (AN Z Z Z Z (J (Bx Z Z Z Z) ?_))
 all_goals
  refine AB Z Z (AC (A4 ?_));exact ⟨_,[],[],A2 Z,Z,Z,by first | exact XJ (by omega) | exact Hh (by omega),rfl⟩
theorem rr(n:Int):AI prog 211 [.d (AE n)] (.raw (.bool false)):=by
 refine As func211 Z Z ntmps211 Z Z Z λF a=>(AD (AF (AB Z Z ?_)));refine AC (AD (AF (ch Z Z (ch Z Z (J (DJ Z Z Z) (AB Z Z (AC (A4 ?_))))))));exact ⟨_,[],[],A2 Z,Z,Z,by simp,Z⟩
theorem fh(l:List UInt8):AI prog 239 [.d (Ak l)] (.raw (.bool false)):=by
 refine As func239 Z Z ntmps239 Z Z Z λF a=>(AD (AF (AB Z Z ?_)));refine AC (AD (AF (ch Z Z (ch Z Z (J (DR Z Z Z) (AB Z Z (AC (A4 ?_))))))));exact ⟨_,[],[],A2 Z,Z,Z,by simp,Z⟩
def DF(a b:Int):Int:=if a<b then -1 else if b<a then 1 else 0
def Sw(a b:List UInt8):Bool:=Op.bytesLess a b
def Dv(a b:List UInt8):Int:=if Sw a b=true then -1 else if Sw b a=true then 1 else 0
theorem sJ(a b:List UInt8):Op.bytesLess (⟨a.toArray⟩:ByteArray).toList (⟨b.toArray⟩:ByteArray).toList=Sw a b:=by rw[Lib.toList_data,Lib.toList_data];rfl
theorem Tb(a b:Int):AI prog 166 [.d (AE a),.d (AE b)] (AE (DF a b)):=by
 refine As func166 Z Z ntmps166 Z Z Z λF g=>(AD (AF ?_));refine AB Z Z (AC (AD (AF (ch Z Z (J (Aj (rr a) Z Z) (AB Z Z (AC (AD ?_))))))));refine AF (ch Z Z (J (Aj (rr b) Z Z) (AB Z Z (AC (AD (AD (AF (ch Z Z ?_))))))));refine AC (Cq Z (Z) (AU (AD (AD (AF (ch Z Z (AC (Cq Z (Z) ?_))))))));refine AU (AD (AD (AF (ch Z Z (ch Z Z (J (At Z Z Z) (AC (A5 Z (λf=>?_) (λf=>?_)))))))))
 rotate_left
 refine AU (AD (AD (AF (ch Z Z (ch Z Z (J (H4 Z Z Z) (AC (A5 Z (λc=>?_) (λc=>?_)))))))))
 rotate_left
 refine AU ?_
 all_goals
  refine AD (AF (AB Z Z (AC (A4 ?_))));exact ⟨_,[],[],A2 Z,Z,Z,by first | exact Ae (by unfold DF;rw[ϱ (by assumption)]) | exact Ae (by unfold DF;rw[ν (by assumption),ϱ (by omega)]) | exact Ae (by unfold DF;rw[ν (by assumption),ν (by omega)]),Z⟩
theorem Ta(a b:List UInt8):AI prog 196 [.d (Ak a),.d (Ak b)] (AE (Dv a b)):=by
 refine As func196 Z Z ntmps196 Z Z Z λF g=>(AD (AF ?_));refine AB Z Z (AC (AD (AF (ch Z Z (J (Aj (fh a) Z Z) (AB Z Z (AC (AD ?_))))))));refine AF (ch Z Z (J (Aj (fh b) Z Z) (AB Z Z (AC (AD (AD (AF (ch Z Z ?_))))))));refine AC (Cq Z (Z) (AU (AD (AD (AF (ch Z Z (AC (Cq Z (Z) ?_))))))));refine AU (AD (AD (AF (ch Z Z (ch Z Z (J (Y2 Z Z Z) (AC (KB Z (λc=>?_) (λc=>?_)))))))));rw[sJ] at c
 rotate_left
 rw[sJ] at c;refine AU (AD (AD (AF (ch Z Z (ch Z Z (J (Y4 Z Z Z) (AC (KB Z (λf=>?_) (λf=>?_)))))))));rw[sJ] at f
 rotate_left
 rw[sJ] at f;refine AU ?_
 all_goals
  refine AD (AF (AB Z Z (AC (A4 ?_))));exact ⟨_,[],[],A2 Z,Z,Z,by first | exact Ae (by unfold Dv;rw[ϱ c]) | exact Ae (by unfold Dv;rw[ν (by rw[c];decide),ϱ f]) | exact Ae (by unfold Dv;rw[ν (by rw[c];decide),ν (by rw[f];decide)]),Z⟩
abbrev Mx:Int:=1000000000000000
def BM:List Int->Int
 | []=>0
 | e::r=>if e=0 then BM r else e
theorem bc(a:k<f.length):BM ((f.drop k).map h)=if h f[k]=0 then BM ((f.drop (k+1)).map h) else h f[k]:=by
 rw[mM a];rfl
theorem DX(a:¬k<f.length):BM ((f.drop k).map h)=0:=by
 rw[mx (by omega)];rfl
theorem nN{l:List c}{k:Nat}(b:k<l.length)(a:E=BM ((l.drop k).map h)):(h l[k]=0->E=BM ((l.drop (k+1)).map h))/\∀e,h l[k]=e->e≠0->e=E:=by grind[bc]
def Im(p:Fd):Int:=if p.acc.o=[]\/p.acc.a=[] then 6 else if ¬(0<=p.acc.k/\p.acc.k<=4) then 11 else if ¬(-Mx<=p.d/\p.d<=Mx) then 12 else 0
def Jt(p:NR):Int:=if p.f=[]\/p.t=[] then 6 else if p.f=p.t then 7 else if ¬(0<=p.n/\p.n<=Mx) then 2 else 0
def NO(id:Int)(l:List Int)(k:Nat):Int:=if ¬(0<=l.getD k 0/\l.getD k 0<=1000000000) then 2 else if l.getD k 0=id\/l.getD k 0∈l.take k then 7 else 0
def GA(i:cl):Int:=BM (i.po.map Im)
def LF(i:cl):Int:=BM (i.pa.map Jt)
def OA(i:cl):Int:=BM ((List.range i.af.length).map (NO i.id i.af))
def Bv(l:List Fd)(a:List UInt8):Int:=(l.map λp=>if p.acc.a=a then p.d else 0).sum
def Lz(i:cl):Int:=if ∃p∈i.po,Bv i.po p.acc.a≠0 then 14 else 0
theorem xB(b:k<f.length)(h:x∉f.take k)(a:x≠f[k]):x∉f.take (k+1):=by
 rw[ψ b,υ]
 simp[h,a]
theorem FC(a:¬k<f.length)(h:x∉f.take k):x∉f:=by
 rwa [θ (by omega)] at h
def Sz(x:Int)(l:List Int):Int:=if x∈l then (l.idxOf x:Int) else -1
theorem VZ{l:List Int}{x:Int}(a:k<l.length)(h:x∉l.take k)(b:x=l[k]):Sz x l=(k:Int):=by grind[Sz,mM,mw]
theorem ZR(l:List Int)(x:Int)(i:l.length<=140737488355328):AI prog 176 [.d (.sl none (l.map AE)),.d (AE x)] (AE (Sz x l)):=by
 refine As func176 Z Z ntmps176 Z Z Z λF j=>(AD (AF (AB Z Z (AC ?_))));refine AD (AD (AF (ch Z Z (J (BU Z E0 Z) (ch Z Z (AC (AX (FQ (α:=Nat) (λk=>⟨19,[(0,.d (.sl none (l.map AE))),(1,.d (AE x)),(7,(.d (AE (l.length:Int)))),(8,(.d (AE (k:Int))))],[]⟩) (λk=>k<=l.length/\x∉l.take k) (λk=>l.length-k) (0) (⟨κ _,by simp⟩) (Zn ⟨Z,Z,Z,Z,trivial⟩) ?_))))))));rintro k ⟨g,c⟩;refine AD (AF (J (At Z Z Z) (AC (AD (A5 Z (λf=>?_) (λf=>?_))))))
 .have a:k<l.length:=BF f;refine AU (AD (AX (AD (AF (ch Z Z (AB Z Z (AC (AD ?_))))))));refine AF (ch Z Z (ch Z Z (ch Z Z (J (Al (k) Z Z (Z) (AP a) E0 Z BK Z) (J (BZ Z Z Ai Z) (J (Fa Z Z Z) (AC (A5 Z (λb=>?_) (λb=>?_)))))))))
  .refine AD (AF (ch Z Z (AB Z Z (AC (A4 ?_)))));exact ⟨_,[],[],A2 Z,Z,Z,Ae (VZ a c b).symm,Z⟩
  .refine AU (AF (J (Ad Z Z (AJ (k+1) (by omega)) Z) (ch Z Z (AC ?_))));exact ⟨k+1,⟨by show k+1<=_;omega,xB a c b⟩,by show l.length-(k+1)<l.length-k;omega,⟨Z,Z,λ_ _=>S3.get (l:=[(0,_),(1,_),(7,_),(8,_)]) ⟨Z,Z,Z,Z,trivial⟩⟩⟩
 .refine Aq (AD (AF (AB Z Z (AC (A4 ?_)))));exact ⟨_,[],[],A2 Z,Z,Z,Ae (by unfold Sz;rw[ν (FC (by have h:=f;omega) c)]),Z⟩
theorem QA(l:List Int)(x:Int)(a:l.length<=140737488355328):AI prog 179 [.d (.sl none (l.map AE)),.d (AE x)] (.raw (.bool (decide (x∈l)))):=by
 refine As func179 Z Z ntmps179 Z Z Z λF b=>(AD (AF (AB Z Z (AC ?_))));refine AD (AF (ch Z Z (ch Z Z (J (Aj (ZR l x a) Z Z) (J (EE Z Z Z) (AB Z Z (AC (A4 ?_))))))));exact ⟨_,[],[],A2 Z,Z,Z,XJ (by unfold Sz;split<;>rename_i h<;>simp[h]<;>omega),Z⟩
theorem wd(l:List Int)(x:Int)(i:l.length<=140737488355328):AI prog 151 [.d (.sl none (l.map AE)),.d (AE x)] (.raw (.bool (decide (x∈l)))):=by
 refine As func151 Z Z ntmps151 Z Z Z λF j=>(AD (AF ?_));refine AB Z Z (AC (AD (AD (AF (AB Z Z (AC (AX (FQ (α:=Nat) (λk=>⟨18,[(0,.d (.sl none (l.map AE))),(1,.d (AE x)),(5,(.d (AE (k:Int))))],[]⟩) (λk=>k<=l.length/\x∉l.take k) (λk=>l.length-k) (0) (⟨κ _,by simp⟩) (Zn ⟨Z,Z,Z,trivial⟩) ?_))))))));rintro k ⟨g,f⟩;refine AD (AD (AF (ch Z Z (ch Z Z (J (BU Z E0 Z) (J (At Z Z Z) (AC (A5 Z (λc=>?_) (λc=>?_)))))))))
 .have a:k<l.length:=BF c;refine AU (AD (AX (AD ?_)));refine AF (ch Z Z (ch Z Z (J (Al (k) Z Z (Z) (AP a) E0 Z BK Z) (J (BZ Z Z Ai Z) (ch Z Z (J (Fa Z Z Z) (AC (A5 Z (λb=>?_) (λb=>?_)))))))))
  .refine AD (AF (AB Z Z (AC (A4 ?_))));exact ⟨_,[],[],A2 Z,Z,Z,Sk (by rw[<-b];exact ϑ a),Z⟩
  .refine AU (AF (ch Z Z (J (Ad Z Z (AJ (k+1) (by omega)) Z) (AB Z Z (AC ?_)))));exact ⟨k+1,⟨by show k+1<=_;omega,xB a f (λe=>b e.symm)⟩,by show l.length-(k+1)<l.length-k;omega,⟨Z,Z,λ_ _=>S3.get (l:=[(0,_),(1,_),(5,_)]) ⟨Z,Z,Z,trivial⟩⟩⟩
 .refine Aq (AD (AF (AB Z Z (AC (A4 ?_)))));exact ⟨_,[],[],A2 Z,Z,Z,Hh (FC (by have h:=c;omega) f),Z⟩
theorem XR(i:cl)(t:i.po.length<=140737488355328):AI prog 168 [.d (Ah i)] (AE (GA i)):=by
 refine As func168 Z Z ntmps168 Z Z Z λF r=>(AD (AF (V (B7 1 Z Z Z Z Z Z Z) (AB Z Z (AC (AD ?_))))));refine AD (AF (J (AM Z JI Z Z Z) (J (AQ Z Z Z au Z) (J (BU Z cB Z) (ch Z Z (AC (AX (BC (α:=Nat) (λk=>⟨35,[(1,(.ptr 1 0 0)),(6,(.d (.sl none (i.po.map Bd)))),(7,(.d (AE (i.po.length:Int)))),(8,(.d (AE (k:Int))))],[(1,[.blk 55 [.d (AE i.id),.d (AE i.pr),.d (AE i.sq),.d (.sl none (i.po.map Bd)),.d (.sl none (i.pa.map Cy)),.d (.sl none (i.af.map AE))]])]⟩) (λk=>k<=i.po.length/\GA i=BM ((i.po.drop k).map Im)) (λk=>i.po.length-k) (0) (⟨κ _,Z⟩) (AR r [1] Z Z ⟨Z,Z,Z,Z,trivial⟩) ?_))))))));rintro k ⟨s,o⟩;refine AD (AF (J (At Z Z Z) (AC (AD (A5 Z (λl=>?_) (λl=>?_))))))
 .have g:k<i.po.length:=BF l;refine AU (AD (AX (AD (AF ?_))));have j:=nN g o;refine J (Al (k) Z Z (Z) (AP g) cB Z Qu Z) (J (CY Z Z dq Z) (V (CP 2 Qo Z Z Z Z) (V (Bi Z Z Z Z Z Z Z Qu) (AC ?_))));refine AX (AD (AF (J (AM Z Lj Z Z Z) (J (AM Z TP Z Z Z) (J (AQ Z Z Z CZ Z) (J (Km Z Z Z) (ch Z Z (C7 17 Z (λa=>?_) (λa=>?_)))))))))
  .refine AN Z Z Z Z (AN Z Z Z Z (AN Z Z Z Z (AN Z Z Z Z ?_)));refine J (B8 Z Z Z Z) (AB Z Z (AC (CM Z Z (AD (AF (AB Z Z (AC (A4 ?_))))))));exact ⟨_,[],[],A2 Z,Z,Z,Ae (j.2 6 (by unfold Im;rw[ϱ (.inl a)]) (by decide)),Z⟩
  .refine AT Z Z Z (J (AM Z Lj Z Z Z) (AT Z Z Z ?_));refine J (AM Z Pr Z Z Z) (AT Z Z Z (J (AQ Z Z Z CZ Z) (AT Z Z Z (J (Km Z Z Z) (J (Bx Z Z Z Z) (AB Z Z (AC (A5 Z (λb=>?_) (λb=>?_)))))))))
   .refine AD (AF (AB Z Z (AC (A4 ?_))));exact ⟨_,[],[],A2 Z,Z,Z,Ae (j.2 6 (by unfold Im;rw[ϱ (.inr b)]) (by decide)),Z⟩
   .refine AD ?_;refine AF (J (AM Z Lj Z Z Z) (J (AM Z Ps Z Z Z) (J (AQ Z Z Z Ai Z) (J (Aj (Ic _ _ _) Z Z) (J (Jq Z Z) (AB Z Z (AC (A5 Z (λc=>?_) (λc=>?_)))))))))
    .refine AD (AF (AB Z Z (AC (A4 ?_))));exact ⟨_,[],[],A2 Z,Z,Z,Ae (j.2 11 (by unfold Im;rw[ν (by simp[a,b]),ϱ c]) (by decide)),Z⟩
    .refine AD (AF (J (AM Z TV Z Z Z) (J (AQ Z Z Z FJ Z) (J (Aj (H7 _ _ _) Z Z) (J (Jq Z Z) (AB Z Z (AC (A5 Z (λf=>?_) (λf=>?_)))))))))
     .refine AD (AF (AB Z Z (AC (A4 ?_))));exact ⟨_,[],[],A2 Z,Z,Z,Ae (j.2 12 (by unfold Im;rw[ν (by simp[a,b]),ν c,ϱ f]) (by decide)),Z⟩
     .refine AU (AF (J (Ad Z Z (AJ (k+1) (by omega)) Z) (ch Z Z (AC ?_))));exact ⟨k+1,⟨by show k+1<=_;omega,j.1 (by unfold Im;rw[ν (by simp[a,b]),ν c,ν f])⟩,by show i.po.length-(k+1)<i.po.length-k;omega,AR r [1] Z (Z) ⟨Z,Z,Z,Z,trivial⟩⟩
 .refine Aq (AD (AF (AB Z Z (AC (A4 ?_)))));exact ⟨_,[],[],A2 Z,Z,Z,Ae (by rw[o,DX (by have h:=l;omega)]),Z⟩
theorem XT(i:cl)(t:i.pa.length<=140737488355328):AI prog 169 [.d (Ah i)] (AE (LF i)):=by
 refine As func169 Z Z ntmps169 Z Z Z λF r=>(AD (AF (V (B7 1 Z Z Z Z Z Z Z) (AB Z Z (AC (AD ?_))))));refine AD (AF (J (AM Z Kg Z Z Z) (J (AQ Z Z Z fK Z) (J (BU Z cX Z) (ch Z Z (AC (AX (BC (α:=Nat) (λk=>⟨33,[(1,(.ptr 1 0 0)),(6,(.d (.sl none (i.pa.map Cy)))),(7,(.d (AE (i.pa.length:Int)))),(8,(.d (AE (k:Int))))],[(1,[.blk 55 [.d (AE i.id),.d (AE i.pr),.d (AE i.sq),.d (.sl none (i.po.map Bd)),.d (.sl none (i.pa.map Cy)),.d (.sl none (i.af.map AE))]])]⟩) (λk=>k<=i.pa.length/\LF i=BM ((i.pa.drop k).map Jt)) (λk=>i.pa.length-k) (0) (⟨κ _,Z⟩) (AR r [1] Z Z ⟨Z,Z,Z,Z,trivial⟩) ?_))))))));rintro k ⟨s,o⟩;refine AD (AF (J (At Z Z Z) (AC (AD (A5 Z (λl=>?_) (λl=>?_))))))
 .have g:k<i.pa.length:=BF l;refine AU (AD (AX (AD (AF ?_))));have j:=nN g o;refine J (Al (k) Z Z (Z) (AP g) cX Z YW Z) (J (CY Z Z rZ Z) (V (CP 2 rE Z Z Z Z) (V (Bi Z Z Z Z Z Z Z YW) ?_)));refine AC (AX (AD (AF (J (AM Z Li Z Z Z) (J (AQ Z Z Z CZ Z) (J (Km Z Z Z) (ch Z Z (C7 16 Z (λa=>?_) (λa=>?_)))))))))
  .refine AN Z Z Z Z (AN Z Z Z Z (AN Z Z Z Z ?_));refine J (B8 Z Z Z Z) (AB Z Z (AC (CM Z Z (AD (AF (AB Z Z (AC (A4 ?_))))))));exact ⟨_,[],[],A2 Z,Z,Z,Ae (j.2 6 (by unfold Jt;rw[ϱ (.inl a)]) (by decide)),Z⟩
  .refine AT Z Z Z ?_;refine J (AM Z Lh Z Z Z) (AT Z Z Z (J (AQ Z Z Z CZ Z) (AT Z Z Z (J (Km Z Z Z) (J (Bx Z Z Z Z) (AB Z Z (AC (A5 Z (λb=>?_) (λb=>?_)))))))))
   .refine AD (AF (AB Z Z (AC (A4 ?_))));exact ⟨_,[],[],A2 Z,Z,Z,Ae (j.2 6 (by unfold Jt;rw[ϱ (.inr b)]) (by decide)),Z⟩
   .refine AD ?_;refine AF (J (AM Z Li Z Z Z) (J (AQ Z Z Z CZ Z) (J (AM Z Lh Z Z Z) (J (AQ Z Z Z CZ Z) (J (Km Z Z Z) (AB Z Z (AC (A5 Z (λc=>?_) (λc=>?_)))))))))
    .refine AD (AF (AB Z Z (AC (A4 ?_))));exact ⟨_,[],[],A2 Z,Z,Z,Ae (j.2 7 (by unfold Jt;rw[ν (by simp[a,b]),ϱ c]) (by decide)),Z⟩
    .refine AD (AF (J (AM Z Lg Z Z Z) (J (AQ Z Z Z FJ Z) (J (Aj (H7 _ _ _) Z Z) (J (Jq Z Z) (AB Z Z (AC (A5 Z (λf=>?_) (λf=>?_)))))))))
     .refine AD (AF (AB Z Z (AC (A4 ?_))));exact ⟨_,[],[],A2 Z,Z,Z,Ae (j.2 2 (by unfold Jt;rw[ν (by simp[a,b]),ν c,ϱ f]) (by decide)),Z⟩
     .refine AU (AF (J (Ad Z Z (AJ (k+1) (by omega)) Z) (ch Z Z (AC ?_))));exact ⟨k+1,⟨by show k+1<=_;omega,j.1 (by unfold Jt;rw[ν (by simp[a,b]),ν c,ν f])⟩,by show i.pa.length-(k+1)<i.pa.length-k;omega,AR r [1] Z (Z) ⟨Z,Z,Z,Z,trivial⟩⟩
 .refine Aq (AD (AF (AB Z Z (AC (A4 ?_)))));exact ⟨_,[],[],A2 Z,Z,Z,Ae (by rw[o,DX (by have h:=l;omega)]),Z⟩
theorem sK{n k:Nat}{f:Nat->Int}{E:Int}(a:k<n)(h:E=BM (((List.range n).drop k).map f)):(f k=0->E=BM (((List.range n).drop (k+1)).map f))/\∀e,f k=e->e≠0->e=E:=by
 have:=nN (l:=List.range n) (k:=k) (by simpa using a) h
 grind
theorem qZ(i:cl)(t:i.af.length<=140737488355328):AI prog 170 [.d (Ah i)] (AE (OA i)):=by
 refine As func170 Z Z ntmps170 Z Z Z λF r=>(AD (AF (V (B7 1 Z Z Z Z Z Z Z) (AB Z Z (AC (AD ?_))))));refine AD (AF (J (AM Z GN Z Z Z) (J (AQ Z Z Z BL Z) (J (BU Z E0 Z) (ch Z Z (AC (AX (BC (α:=Nat) (λk=>⟨31,[(1,(.ptr 1 0 0)),(6,(.d (.sl none (i.af.map AE)))),(7,(.d (AE (i.af.length:Int)))),(8,(.d (AE (k:Int))))],[(1,[.blk 55 [.d (AE i.id),.d (AE i.pr),.d (AE i.sq),.d (.sl none (i.po.map Bd)),.d (.sl none (i.pa.map Cy)),.d (.sl none (i.af.map AE))]])]⟩) (λk=>k<=i.af.length/\OA i=BM (((List.range i.af.length).drop k).map (NO i.id i.af))) (λk=>i.af.length-k) (0) (⟨κ _,Z⟩) (AR r [1] Z Z ⟨Z,Z,Z,Z,trivial⟩) ?_))))))));rintro k ⟨s,o⟩;refine AD (AF (J (At Z Z Z) (AC (AD (A5 Z (λl=>?_) (λl=>?_))))))
 .have b:k<i.af.length:=BF l;refine AU (AD (AX (AD (AF ?_))));have j:=sK b o;have g:i.af.getD k 0=i.af[k]:=by simp[b]
  refine ch Z Z (J (Al (k) Z Z (Z) (AP b) E0 Z BK Z) (J (BZ Z Z Ai Z) (AB Z Z (AB Z Z (AC ?_)))));refine AX (AD (AF (ch Z Z (J (Aj (Ic _ _ _) Z Z) (J (Jq Z Z) (AB Z Z (AC (A5 Z (λa=>?_) (λa=>?_)))))))))
  .refine AD (AF (AB Z Z (AC (A4 ?_))));exact ⟨_,[],[],A2 Z,Z,Z,Ae (j.2 2 (by unfold NO;rw[g,ϱ a]) (by decide)),Z⟩
  .refine AD (AF (ch Z Z (J (AM Z QW Z Z Z) (J (AQ Z Z Z Ai Z) (J (Fa Z Z Z) (ch Z Z (C7 22 Z (λc=>?_) (λc=>?_))))))))
   .refine AN Z Z Z Z (AN Z Z Z Z (AN Z Z Z Z (AN Z Z Z Z (AN Z Z Z Z (AN Z Z Z Z ?_)))));refine J (B8 Z Z Z Z) (AB Z Z (AC (CM Z Z (AD (AF (AB Z Z (AC (A4 ?_))))))));exact ⟨_,[],[],A2 Z,Z,Z,Ae (j.2 7 (by unfold NO;rw[g,ν a,ϱ (.inl c)]) (by decide)),Z⟩
   .refine AT Z Z Z (J (AM Z GN Z Z Z) (AT Z Z Z (J (AQ Z Z Z BL Z) (AT Z Z Z (ch Z Z (AT Z Z Z ?_))))));refine J (YD (i.af) (k) Z Z Z (Z) (by omega) E0 BK (λ_=>rfl) Z) (AT Z Z Z (ch Z Z (AT Z Z Z (J (Aj (QA (i.af.take k) _ (by simp;omega)) Z Z) (J (Bx Z Z Z Z) (AB Z Z (AC (A5 Z (λf=>?_) (λf=>?_)))))))))
    .refine AD (AF (AB Z Z (AC (A4 ?_))));exact ⟨_,[],[],A2 Z,Z,Z,Ae (j.2 7 (by unfold NO;rw[g,ν a,ϱ (.inr f)]) (by decide)),Z⟩
    .refine AU (AF (J (Ad Z Z (AJ (k+1) (by omega)) Z) (ch Z Z (AC ?_))));exact ⟨k+1,⟨by show k+1<=_;omega,j.1 (by unfold NO;rw[g,ν a,ν (by simp[c];exact f)])⟩,by show i.af.length-(k+1)<i.af.length-k;omega,AR r [1] Z (Z) ⟨Z,Z,Z,Z,trivial⟩⟩
 .refine Aq (AD (AF (AB Z Z (AC (A4 ?_)))));exact ⟨_,[],[],A2 Z,Z,Z,Ae (by rw[o,DX (by simp;have h:=l;omega)]),Z⟩
theorem Gt(l:List Fd)(p:Fd)(a:List UInt8):Bv (l++ [p]) a=Bv l a+if p.acc.a=a then p.d else 0:=by simp[Bv]
theorem JT(l:List Fd)(a:List UInt8)(h:∀p∈l,-Mx<=p.d/\p.d<=Mx): -(l.length*1000000000000000)<=Bv l a/\Bv l a<=l.length*1000000000000000:=by
 induction l with
 | nil=>simp[Bv]
 | cons p r b=>
  have f:=b λq c=>h q (by simp[c])
  grind[Bv]
def W6(l:List Fd)(M:List (List UInt8×Int)):Prop:=(M.map Prod.fst).Nodup/\(∀a,Af M a 0=Bv l a)/\(∀a,a∈M.map Prod.fst->∃p∈l,p.acc.a=a)/\∀p∈l,p.acc.a∈M.map Prod.fst
theorem lG{g:Type}[DecidableEq c]{M:List (c×g)}{a f:c}{b:g}:f∈(B1 M a b).map Prod.fst↔f=a\/f∈M.map Prod.fst:=by grind[Mj]
variable{g:List Fd}
theorem W6.snoc(h:W6 g M)(p:Fd):W6 (g++ [p]) (B1 M p.acc.a (Af M p.acc.a 0+p.d)):=by
 obtain ⟨i,k,j,f⟩:=h;refine ⟨PZ i,λa=>?_,λa c=>?_,λq b=>?_⟩
 .grind[Iv,Gt]
 .rcases lG.1 c with e | e
  .grind
  grind
 .rcases υ.1 b with b | b
  .exact lG.2 (.inr (f q b))
  .simp at b;subst b;exact lG.2 (.inl Z)
variable{s:cl}
theorem qV(h:W6 s.po M){j:Nat}{a:List UInt8}{v:Int}(l:M[j]? =some (a,v))(g:v≠0):(14:Int)=Lz s:=by
 have b:=ϖ l;have c:=cR (z:=0) h.1 b;rw[h.2.1] at c;obtain ⟨p,k,e⟩:=h.2.2.1 a (m9 (f:=Prod.fst) b);unfold Lz;rw[ϱ ⟨p,k,by rw[e,c];exact g⟩]
theorem u8(h:W6 s.po M)(a:∀x∈M,x.2=0):(0:Int)=Lz s:=by grind[Lz,Iw,W6]
theorem S9(h:∀p∈g,-Mx<=p.d/\p.d<=Mx):∀p∈g.take k,-Mx<=p.d/\p.d<=Mx:=λp a=>h p (lI a)
theorem Xu(i:cl)(G:i.po.length<=256)(A:∀p∈i.po,-Mx<=p.d/\p.d<=Mx):AI prog 171 [.d (Ah i)] (AE (Lz i)):=by
 refine As func171 Z Z ntmps171 Z Z Z λF u=>(AD (AF ?_));refine V (B7 1 Z Z Z Z Z Z Z) (AB Z Z (AC (AD (AF (V (S2 2 Z Z Z Z) (AB Z Z (AC (AD ?_))))))));refine AD (AF (J (AM Z JI Z Z Z) (J (AQ Z Z Z au Z) (J (BU Z cB Z) (ch Z Z (AC (AX (BC (α:=Nat×List (List UInt8×Int)) (λq=>⟨33,[(3,(.map 2 0)),(10,(.d (.sl none (i.po.map Bd)))),(11,(.d (AE (i.po.length:Int)))),(12,(.d (AE (q.1:Int))))],[(2,[B5 Ak AE q.2])]⟩) (λq=>q.1<=i.po.length/\W6 (i.po.take q.1) q.2) (λq=>i.po.length-q.1) ((0,[])) (⟨κ _,⟨by simp,by simp[Bv,Af],by simp,by simp⟩⟩) (AR u [2] Z Z ⟨Z,Z,Z,Z,trivial⟩) ?_))))))));rintro ⟨k,M⟩ ⟨w,s⟩;dsimp only at w s⊢;refine AD (AF (J (At Z Z Z) (AC (AD (A5 Z (λg=>?_) (λg=>?_))))))
 .have c:k<i.po.length:=BF g;refine AU (AD (AX (AD (AF ?_))));have z:=A _ (ϑ c);have y:=JT (i.po.take k) i.po[k].acc.a (S9 A);rw[<-s.2.1,η] at y;simp only[Mx] at z;refine J (Al (k) Z Z (Z) (AP c) cB Z Qu Z) (J (CY Z Z dq Z) ?_);refine V (CP 3 Qo Z Z Z Z) (V (Bi Z Z Z Z Z Z Z Qu) (AC (AF (ch Z Z (J (AM Z Lj Z Z Z) (J (AM Z Pr Z Z Z) (J (AQ Z Z Z CZ Z) (J (I8 (M) (i.po[k].acc.a) (0) _ Z Z Z fk yT QU Z Z) ?_))))))));refine J (AM Z TV Z Z Z) (J (AQ Z Z Z FJ Z) (J (Ad Z Z (Ξ _ (by omega)) Z) (V (Wf (M) (i.po[k].acc.a) (Af M i.po[k].acc.a 0+i.po[k].d) Z Z Z fk yT Z Z) (AC (AF (J (Ad Z Z (AJ (k+1) (by omega)) Z) (ch Z Z (AC ?_))))))));exact ⟨(k+1,_),⟨by show k+1<=_;omega,by have:=s.snoc i.po[k];rwa [<-ψ c] at this⟩,by show i.po.length-(k+1)<i.po.length-k;omega,AR u [2] Z (Z) ⟨Z,Z,Z,Z,trivial⟩⟩
 .refine Aq (AD (AD ?_));have r:W6 i.po M:=by rw[θ (by have h:=g;omega)] at s;exact s
  refine AF (ch Z Z (V (HC 4 Z Z Z fk Z Z Z Z) (AC (AX (BC (α:=List Nat) (λseen=>⟨33,[(26,(.ptr 4 0 0))],[(4,[.iter 2 0 M.length seen]),(2,[B5 Ak AE M])]⟩) (λseen=>∀x∈M,x∈CX M (List.range M.length) seen\/x.2=0) (λseen=>(CX M (List.range M.length) seen).length) ([]) (λx j=> .inl (by rw[Dl (by simp)];exact j)) (AR u [4,2] Z Z ⟨Z,trivial⟩) ?_)))));intro seen B;refine AD (AF (Mg (M) Z Z Z Z (λl=>?_) (λv t E D b o C a=>⟨_,Z,?_⟩)))
  .refine J (D3 Z Z Z) ?_;refine AC (AD (Cq Z Z (Aq (AD (AF (AB Z Z (AC (A4 ?_))))))));exact ⟨_,[],[],A2 Z,Z,Z,Ae (u8 r λx j=>(B x j).elim (λh=>by rw[l] at h;cases h) id),Z⟩
  .refine J (D3 Z Z Z) (AC (AD (CM Z Z (AU (AX (AD (AF (J (HD (M) v t Z Z Z b o Z) ?_))))))));refine J (D3 Z Z Z) (AB Z Z (AC (AD (AF (ch Z Z (J (DJ Z Z Z) (AC (A5 Z (λf=>?_) (λf=>?_)))))))))
   .refine AD (AF (AB Z Z (AC (A4 ?_))));exact ⟨_,[],[],A2 Z,Z,Z,Ae (qV r b f),Z⟩
   .refine AU ?_;exact ⟨seen++ [t],λx j=>(B x j).elim (λh=>(jt.1 (a.mem_iff.1 h)).elim (λe=> .inr (by rw[e];simpa using f)) .inl) .inr,by rw[a.length_eq];exact mN _,AR u [4,2] Z (Z) ⟨Z,trivial⟩⟩
abbrev q6:W7:=⟨[],0,[]⟩
abbrev HP(p:Fd):AW:=⟨0,p.acc,[],[]⟩
abbrev CU(f t:List UInt8):AW:=⟨1,q6,f,t⟩
abbrev DV(f:List UInt8):AW:=⟨2,q6,f,[]⟩
def jL(M:List (AW×Int))(x:AW×Int):List (AW×Int):=B1 M x.1 (Af M x.1 0+x.2)
def EV(l:List Fd):List (AW×Int):=l.map λp=>(HP p,p.d)
def NH(p:NR):List (AW×Int):=[(CU p.f p.t,-p.n),(CU p.t p.f,p.n),(DV p.f,-p.n),(DV p.t,p.n)]
def HZ(l:List NR):List (AW×Int):=l.flatMap NH
def js(i:cl):List (AW×Int):=EV i.po++HZ i.pa
def jb(l:List (AW×Int)):List (AW×Int):=l.foldl jL []
def Ag(l:List (AW×Int))(r:AW):Int:=(l.map λx=>if x.1=r then x.2 else 0).sum
theorem Zs(l:List (AW×Int))(x:AW×Int):jb (l++ [x])=jL (jb l) x:=by simp[jb]
theorem Gs(l m:List (AW×Int))(r:AW):Ag (l++m) r=Ag l r+Ag m r:=by simp[Ag]
theorem Xl(x:AW×Int)(r:AW):Ag [x] r=if x.1=r then x.2 else 0:=by simp[Ag]
theorem cH{α:Type}{p:List α->Prop}(h0:p [])(h1:∀l x,p l->p (l++ [x]))(l:List α):p l:=by
 have:∀m:List α,p m.reverse:=λm=>by
  induction m with
  | nil=>exact h0
  | cons x r ih=>rw[List.reverse_cons];exact h1 _ _ ih
 have:=this l.reverse
 grind
theorem Ks(l:List (AW×Int))(r:AW):Af (jb l) r 0=Ag l r:=by
 revert r
 refine cH (p:=λl=>∀r,Af (jb l) r 0=Ag l r) (λr=>rfl) (λl x a r=>?_) l;rw[Zs,jL,Iv,Gs,Xl]
 grind
theorem Ft(l:List (AW×Int)):((jb l).map Prod.fst).Nodup:=
 cH (p:=λl=>((jb l).map Prod.fst).Nodup) (by simp[jb]) (λl x a=>by rw[Zs];exact PZ a) l
theorem J3(l:List (AW×Int))(r:AW):r∈(jb l).map Prod.fst↔r∈l.map Prod.fst:=by
 refine cH (p:=λl=>r∈(jb l).map Prod.fst↔r∈l.map Prod.fst) (by simp[jb]) (λl x a=>?_) l;rw[Zs,jL,lG,a]
 simp[or_comm]
def QY(l:List (AW×Int)):Prop:=∀x∈l,-1000000000000000<=x.2/\x.2<=1000000000000000
theorem IG{l:List (AW×Int)}(h:QY l)(r:AW): -(l.length*1000000000000000)<=Ag l r/\Ag l r<=l.length*1000000000000000:=by
 induction l with
 | nil=>simp[Ag]
 | cons x l a=>
  grind[Ag,QY]
structure mT (i:cl):Prop where
 po:i.po.length<=256
 pa:i.pa.length<=256
 af:i.af.length<=256
 d:∀p∈i.po,-Mx<=p.d/\p.d<=Mx
 n:∀p∈i.pa,0<=p.n/\p.n<=Mx
theorem JM(l:List NR):(HZ l).length=4*l.length:=by
 induction l with
 | nil=>rfl
 | cons p r a=>simp only[HZ,List.flatMap_cons,Δ,mH] at a⊢;rw[a];simp[NH];omega
theorem sE(h:∀p∈g,-Mx<=p.d/\p.d<=Mx):QY (EV g):=by grind[QY,EV]
variable{t:NR}
theorem sG(h:0<=t.n/\t.n<=Mx):QY (NH t):=by grind[NH,QY]
variable{o:List NR}
theorem ww(h:∀p∈o,0<=p.n/\p.n<=Mx):QY (HZ o):=λx a=>by
 obtain ⟨p,b,a⟩:=mI.1 a;exact sG (h p b) x a
variable{a:List (AW×Int)}
theorem QY.append{m:List (AW×Int)}(h:QY a)(c:QY m):QY (a++m):=λx b=>(υ.1 b).elim (h x) (c x)
theorem QY.take(h:QY a)(k:Nat):QY (a.take k):=λx b=>h x (lI b)
theorem Fs{l:List (AW×Int)}(h:QY l)(a:l.length<=2000)(r:AW): -2000000000000000000<=Af (jb l) r 0/\Af (jb l) r 0<=2000000000000000000:=by
 have:=IG h r;rw[Ks];omega
theorem SI(a:k<g.length):EV (g.take (k+1))=EV (g.take k)++ [(HP g[k],g[k].d)]:=by
 simp only[EV];rw[ψ a,jy];rfl
theorem SH(a:k<o.length):HZ (o.take (k+1))=HZ (o.take k)++NH o[k]:=by
 simp only[HZ];rw[ψ a,List.flatMap_append];simp
def jn(M:List (AW×Int))(p:NR):List (AW×Int):=B1 M (CU p.f p.t) (Af M (CU p.f p.t) 0-p.n)
def jm(M:List (AW×Int))(p:NR):List (AW×Int):=B1 M (CU p.t p.f) (Af M (CU p.t p.f) 0+p.n)
def nJ(M:List (AW×Int))(p:NR):List (AW×Int):=B1 M (DV p.f) (Af M (DV p.f) 0-p.n)
def y1(M:List (AW×Int))(p:NR):List (AW×Int):=B1 M (DV p.t) (Af M (DV p.t) 0+p.n)
variable{i:List (AW×Int)}
theorem dV{p:NR}(h:i=jb a):jn i p=jb (a++ [(CU p.f p.t,-p.n)])/\jm (jn i p) p=jb (a++ [(CU p.f p.t,-p.n),(CU p.t p.f,p.n)])/\nJ (jm (jn i p) p) p=jb (a++ [(CU p.f p.t,-p.n),(CU p.t p.f,p.n),(DV p.f,-p.n)])/\y1 (nJ (jm (jn i p) p) p) p=jb (a++NH p):=by
 subst h;have e:∀(a:List (AW×Int)) (x:AW×Int) (r:List (AW×Int)),a++x::r=(a++ [x])++r:=by simp
 refine ⟨?_,?_,?_,?_⟩
 .rw[Zs];rfl
 .rw[e,Zs,Zs];rfl
 .rw[e,e,Zs,Zs,Zs];rfl
 .rw[NH,e,e,e,Zs,Zs,Zs,Zs];rfl
theorem dP(h:i=jb a)(c:QY a)(s:a.length<=1900)(g:0<=t.n/\t.n<=Mx)(r:AW):(-2000000000000000000<=Af i r 0/\Af i r 0<=2000000000000000000)/\(-2000000000000000000<=Af (jn i t) r 0/\Af (jn i t) r 0<=2000000000000000000)/\(-2000000000000000000<=Af (jm (jn i t) t) r 0/\Af (jm (jn i t) t) r 0<=2000000000000000000)/\(-2000000000000000000<=Af (nJ (jm (jn i t) t) t) r 0/\Af (nJ (jm (jn i t) t) t) r 0<=2000000000000000000):=by
 obtain ⟨o,k,j,_⟩:=dV (p:=t) h;have b:=sG g;rw[j,k,o,h];refine ⟨Fs c (by omega) r,Fs (c.append λx f=>b x ?_) (by simp;omega) r,Fs (c.append λx f=>b x ?_) (by simp;omega) r,Fs (c.append λx f=>b x ?_) (by simp;omega) r⟩
 all_goals (grind[NH])
set_option maxHeartbeats 1000000 in
theorem Sb(i:cl)(j:mT i):AO prog 125 [.d (Ah i)] [] λr H=>r= .map 2 0/\H=[(2,[B5 Bm AE (jb (js i))])]:=by
 have E:=j.po;have G:=j.pa;refine As func125 Z Z ntmps125 Z Z Z λF x=>(AD (AF ?_));refine V (B7 1 Z Z Z Z Z Z Z) (AB Z Z (AC (AD (AF (V (S2 2 Z Z Z Z) (AB Z Z (AC (AD ?_))))))));refine AD (AF (J (AM Z JI Z Z Z) (J (AQ Z Z Z au Z) (J (BU Z cB Z) (ch Z Z (AC (AX (BC (α:=Nat×List (AW×Int)) (λq=>⟨80,[(1,(.ptr 1 0 0)),(3,(.map 2 0)),(10,(.d (.sl none (i.po.map Bd)))),(11,(.d (AE (i.po.length:Int)))),(12,(.d (AE (q.1:Int))))],[(2,[B5 Bm AE q.2]),(1,[.blk 55 [.d (AE i.id),.d (AE i.pr),.d (AE i.sq),.d (.sl none (i.po.map Bd)),.d (.sl none (i.pa.map Cy)),.d (.sl none (i.af.map AE))]])]⟩) (λq=>q.1<=i.po.length/\q.2=jb (EV (i.po.take q.1))) (λq=>i.po.length-q.1) ((0,[])) (⟨κ _,Z⟩) (AR x [2,1] Z Z ⟨Z,Z,Z,Z,Z,trivial⟩) ?_))))))));rintro ⟨k,M⟩ ⟨z,w⟩;dsimp only at z w⊢;refine AD (AF (J (At Z Z Z) (AC (AD (A5 Z (λs=>?_) (λs=>?_))))))
 .have c:k<i.po.length:=BF s;refine AU (AD (AX (AD (AF ?_))));have B:=j.d _ (ϑ c);simp only[Mx] at B;have A:=Fs (l:=EV (i.po.take k)) (sE (S9 j.d)) (by simp[EV];omega) (HP i.po[k]);rw[<-w] at A;refine J (Al (k) Z Z (Z) (AP c) cB Z Qu Z) (J (CY Z Z dq Z) (V (CP 3 Qo Z Z Z Z) (V (Bi Z Z Z Z Z Z Z Qu) (AC (Bq [[],[],[1],[1,2],[0,1,2,3],[],[5],rg 7,[0,1,2,3,5,6],[0,1,2,3,5,6,8],rg 10] mixed Z (be 2 ([B5 Bm AE (Bl M (HP i.po[k]) 0)]) Z ?_))))));refine A7 3 Z Z (AK [5] Z (AM Z Lj Z Z Z) (Ay [17] Z Z (λ_=>Aa (Ap Z Z ny Z Z Z)) (AK [18] Z (Dz MK Uf Z Z Z) (Jo [16,19] [] Z Z Z (λ_=>Aa (I8 (M) (HP i.po[k]) (0) _ Z Z Z C4 Ck QU Z Z)) (λ_=>Aa (I8 (Bl (M) (HP i.po[k]) (0)) (HP i.po[k]) (0) _ Z Z Z C4 Ck QU (Ee _ _ _ _) Z)) (AK [5] Z (AM Z TV Z Z Z) (Ay [21] Z Z (λ_=>Aa (AQ Z Z Z FJ Z)) (AK [20,22] Z (Ad Z Z (Ξ _ (by omega)) Z) (Cv [16,19] [2] [(24,_)] Z Z (λ_=>Cg (H8 (M) (HP i.po[k]) (0) Z Z Z C4 Ck QU Z Z)) (.inr ⟨24,_,Z,Z,Z,Z,Z⟩) Z Z Z Z Z ?_ (hCn:=SQ Z)))))))));refine AK [24] Z (D3 Z Z Z) (BV 10 Z Z Z (A0 11 Z Z (V (Ha (M) (HP i.po[k]) (0) (Af M (HP i.po[k]) 0+i.po[k].d) Z Z Z Ck Z Z) (AC ⟨Z,?_⟩))));refine Bb (AF (J (Ad Z Z (AJ (k+1) (by omega)) Z) (ch Z Z (AC ?_))));exact ⟨(k+1,_),⟨by show k+1<=_;omega,by show _=jb (EV (i.po.take (k+1)));rw[SI c,Zs,<-w];rfl⟩,by show i.po.length-(k+1)<i.po.length-k;omega,AR x [2,1] Z (Z) ⟨Z,Z,Z,Z,Z,trivial⟩⟩
 .refine Aq (AD (AD ?_));have C:M=jb (EV i.po++HZ (i.pa.take 0)):=by rw[w,θ (by have h:=s;omega)];simp[HZ]
  refine AF (J (AM Z Kg Z Z Z) (J (AQ Z Z Z fK Z) (J (BU Z cX Z) (ch Z Z (AC (AX (BC (α:=Nat×List (AW×Int)) (λq=>⟨80,[(3,(.map 2 0)),(28,(.d (.sl none (i.pa.map Cy)))),(29,(.d (AE (i.pa.length:Int)))),(30,(.d (AE (q.1:Int))))],[(2,[B5 Bm AE q.2])]⟩) (λq=>q.1<=i.pa.length/\q.2=jb (EV i.po++HZ (i.pa.take q.1))) (λq=>i.pa.length-q.1) ((0,M)) (⟨κ _,C⟩) (AR x [2] Z Z ⟨Z,Z,Z,Z,trivial⟩) ?_)))))));rintro ⟨m,N⟩ ⟨y,v⟩;dsimp only at y v⊢;refine AD (AF (J (At Z Z Z) (AC (AD (A5 Z (λo=>?_) (λo=>?_))))))
  .have b:m<i.pa.length:=BF o;refine AU (AD (AX (AD (AF ?_))));have u:=j.n _ (ϑ b);have a:=dP v ((sE j.d).append (ww λq D=>j.n q (lI D))) (by rw[Δ,JM];simp[EV];omega) u;simp only[Mx] at u;refine J (Al (m) Z Z (Z) (AP b) cX Z YW Z) (J (CY Z Z rZ Z) (V (CP 4 rE Z Z Z Z) (V (Bi Z Z Z Z Z Z Z YW) (AC (AD (Bq [[],[],[1],[],[3],[1,2,3,4],rg 6,[],[7],rg 9,[0,1,2,3,4,5,7,8],[0,1,2,3,4,5,7,8,10],rg 12] mixed Z (be 2 ([B5 Bm AE (Bl N (CU i.pa[m].f i.pa[m].t) 0)]) Z ?_)))))));refine A7 3 Z Z (AK [7] Z (AM Z Li Z Z Z) (Ay [35] Z Z (λ_=>Aa (AQ Z Z Z CZ Z)) (AK [7] Z (AM Z Lh Z Z Z) (Ay [37] Z Z (λ_=>Aa (AQ Z Z Z CZ Z)) (AK [36,38] Z (Dz MK Uf Z Z Z) (Jo [34,39] [] Z Z Z (λ_=>Aa (I8 (N) (CU i.pa[m].f i.pa[m].t) (0) _ Z Z Z C4 Ck QU Z Z)) (λ_=>Aa (I8 (Bl (N) (CU i.pa[m].f i.pa[m].t) (0)) (CU i.pa[m].f i.pa[m].t) (0) _ Z Z Z C4 Ck QU (Ee _ _ _ _) Z)) (AK [7] Z (AM Z Lg Z Z Z) (Ay [41] Z Z (λ_=>Aa (AQ Z Z Z FJ Z)) ?_))))))));have g:=(a (CU i.pa[m].f i.pa[m].t)).1;refine AK [40,42] Z (ME Z Z (Ξ _ (by omega)) Z) (Cv [34,39] [2] [(44,_)] Z Z (λ_=>Cg (H8 (N) (CU i.pa[m].f i.pa[m].t) (0) Z Z Z C4 Ck QU Z Z)) (.inr ⟨44,_,Z,Z,Z,Z,Z⟩) Z Z Z Z Z ?_ (hCn:=SQ Z));refine AK [44] Z (D3 Z Z Z) (BV 12 Z Z Z (A0 13 Z Z (V (Ha (N) (CU i.pa[m].f i.pa[m].t) (0) (Af N (CU i.pa[m].f i.pa[m].t) 0-i.pa[m].n) Z Z Z Ck Z Z) (AC ⟨Z,?_⟩))));refine Bb (AD (Bq [[],[],[1],[],[3],[1,2,3,4],rg 6,[],[7],rg 9,[0,1,2,3,4,5,7,8],[0,1,2,3,4,5,7,8,10],rg 12] mixed Z (be 2 ([B5 Bm AE (Bl (jn N i.pa[m]) (CU i.pa[m].t i.pa[m].f) 0)]) Z ?_)));refine A7 3 Z Z (AK [7] Z (AM Z Lh Z Z Z) (Ay [47] Z Z (λ_=>Aa (AQ Z Z Z CZ Z)) (AK [7] Z (AM Z Li Z Z Z) (Ay [49] Z Z (λ_=>Aa (AQ Z Z Z CZ Z)) (AK [48,50] Z (Dz MK Uf Z Z Z) (Jo [46,51] [] Z Z Z (λ_=>Aa (I8 (jn N i.pa[m]) (CU i.pa[m].t i.pa[m].f) (0) _ Z Z Z C4 Ck QU Z Z)) (λ_=>Aa (I8 (Bl (jn N i.pa[m]) (CU i.pa[m].t i.pa[m].f) (0)) (CU i.pa[m].t i.pa[m].f) (0) _ Z Z Z C4 Ck QU (Ee _ _ _ _) Z)) (AK [7] Z (AM Z Lg Z Z Z) (Ay [53] Z Z (λ_=>Aa (AQ Z Z Z FJ Z)) ?_))))))));have g:=(a (CU i.pa[m].t i.pa[m].f)).2.1;refine AK [52,54] Z (Ad Z Z (Ξ _ (by omega)) Z) (Cv [46,51] [2] [(56,_)] Z Z (λ_=>Cg (H8 (jn N i.pa[m]) (CU i.pa[m].t i.pa[m].f) (0) Z Z Z C4 Ck QU Z Z)) (.inr ⟨56,_,Z,Z,Z,Z,Z⟩) Z Z Z Z Z ?_ (hCn:=SQ Z));refine AK [56] Z (D3 Z Z Z) (BV 12 Z Z Z (A0 13 Z Z (V (Ha (jn N i.pa[m]) (CU i.pa[m].t i.pa[m].f) (0) (Af (jn N i.pa[m]) (CU i.pa[m].t i.pa[m].f) 0+i.pa[m].n) Z Z Z Ck Z Z) (AC ⟨Z,?_⟩))));refine Bb (AD ?_);refine Bq [[],[],[1],[1,2],[0,1,2,3],[],[5],rg 7,[0,1,2,3,5,6],[0,1,2,3,5,6,8],rg 10] mixed Z (be 2 ([B5 Bm AE (Bl (jm (jn N i.pa[m]) i.pa[m]) (DV i.pa[m].f) 0)]) Z (A7 3 Z Z (AK [7] Z (AM Z Li Z Z Z) (Ay [59] Z Z (λ_=>Aa (AQ Z Z Z CZ Z)) (AK [60] Z (Dz MK Uf Z Z Z) (Jo [58,61] [] Z Z Z (λ_=>Aa (I8 (jm (jn N i.pa[m]) i.pa[m]) (DV i.pa[m].f) (0) _ Z Z Z C4 Ck QU Z Z)) (λ_=>Aa (I8 (Bl (jm (jn N i.pa[m]) i.pa[m]) (DV i.pa[m].f) (0)) (DV i.pa[m].f) (0) _ Z Z Z C4 Ck QU (Ee _ _ _ _) Z)) (AK [7] Z (AM Z Lg Z Z Z) (Ay [63] Z Z (λ_=>Aa (AQ Z Z Z FJ Z)) ?_))))))));have g:=(a (DV i.pa[m].f)).2.2.1;refine AK [62,64] Z (ME Z Z (Ξ _ (by omega)) Z) (Cv [58,61] [2] [(66,_)] Z Z (λ_=>Cg (H8 (jm (jn N i.pa[m]) i.pa[m]) (DV i.pa[m].f) (0) Z Z Z C4 Ck QU Z Z)) (.inr ⟨66,_,Z,Z,Z,Z,Z⟩) Z Z Z Z Z ?_ (hCn:=SQ Z));refine AK [66] Z (D3 Z Z Z) (BV 10 Z Z Z (A0 11 Z Z (V (Ha (jm (jn N i.pa[m]) i.pa[m]) (DV i.pa[m].f) (0) (Af (jm (jn N i.pa[m]) i.pa[m]) (DV i.pa[m].f) 0-i.pa[m].n) Z Z Z Ck Z Z) (AC ⟨Z,?_⟩))));refine Bb ?_;refine Bq [[],[],[1],[1,2],[0,1,2,3],[],[5],rg 7,[0,1,2,3,5,6],[0,1,2,3,5,6,8],rg 10] mixed Z (be 2 ([B5 Bm AE (Bl (nJ (jm (jn N i.pa[m]) i.pa[m]) i.pa[m]) (DV i.pa[m].t) 0)]) Z (A7 3 Z Z (AK [7] Z (AM Z Lh Z Z Z) (Ay [69] Z Z (λ_=>Aa (AQ Z Z Z CZ Z)) (AK [70] Z (Dz MK Uf Z Z Z) (Jo [68,71] [] Z Z Z (λ_=>Aa (I8 (nJ (jm (jn N i.pa[m]) i.pa[m]) i.pa[m]) (DV i.pa[m].t) (0) _ Z Z Z C4 Ck QU Z Z)) (λ_=>Aa (I8 (Bl (nJ (jm (jn N i.pa[m]) i.pa[m]) i.pa[m]) (DV i.pa[m].t) (0)) (DV i.pa[m].t) (0) _ Z Z Z C4 Ck QU (Ee _ _ _ _) Z)) (AK [7] Z (AM Z Lg Z Z Z) (Ay [73] Z Z (λ_=>Aa (AQ Z Z Z FJ Z)) ?_))))))));have g:=(a (DV i.pa[m].t)).2.2.2;refine AK [72,74] Z (Ad Z Z (Ξ _ (by omega)) Z) (Cv [68,71] [2] [(76,_)] Z Z (λ_=>Cg (H8 (nJ (jm (jn N i.pa[m]) i.pa[m]) i.pa[m]) (DV i.pa[m].t) (0) Z Z Z C4 Ck QU Z Z)) (.inr ⟨76,_,Z,Z,Z,Z,Z⟩) Z Z Z Z Z ?_ (hCn:=SQ Z));refine AK [76] Z (D3 Z Z Z) (BV 10 Z Z Z (A0 11 Z Z (V (Ha (nJ (jm (jn N i.pa[m]) i.pa[m]) i.pa[m]) (DV i.pa[m].t) (0) (Af (nJ (jm (jn N i.pa[m]) i.pa[m]) i.pa[m]) (DV i.pa[m].t) 0+i.pa[m].n) Z Z Z Ck Z Z) (AC ⟨Z,?_⟩))));refine Bb (AF (J (Ad Z Z (AJ (m+1) (by omega)) Z) (ch Z Z (AC ?_))));exact ⟨(m+1,_),⟨by show m+1<=_;omega,by show _=jb (EV i.po++HZ (i.pa.take (m+1)));rw[SH b,<-lh];exact (dV v).2.2.2⟩,by show i.pa.length-(m+1)<i.pa.length-m;omega,AR x [2] Z (Z) ⟨Z,Z,Z,Z,trivial⟩⟩
  .refine Aq (AD (AF (ch Z Z (AB Z Z (AC (A4 ?_))))));exact ⟨_,[2],_,A2 Z,Z,Z,Z,by rw[v,θ (by have h:=o;omega)]<;>rfl⟩
end Go.Proofs.YteifpcnphnhaoaaGreat
