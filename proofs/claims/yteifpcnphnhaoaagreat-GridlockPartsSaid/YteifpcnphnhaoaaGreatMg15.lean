import Derived.Test.YteifpcnphnhaoaaGreatMg14
import Derived.SizedLaws
open Go.Proofs.Tryz
namespace Go.Proofs.YteifpcnphnhaoaaGreat
open Go.ChangeShapes Go.WideShapes Go.ChangeAt Go.RowKit Go.Deep
variable{a:Nat->Nat->Value}{w:World}{c:Nat->Prop}{f:D}
abbrev l9:Nat->Prop:=λ_=>False
def P7(w:World)(d:D)(cs:List Value):Prop:=cs.length=d.cells.length/\(∀c∈d.cells,c.one=true)/\∀(j:Nat) c u,d.cells[j]? =some c->cs[j]? =some u->AY w l9 c u
theorem K6{u:Value}(a:f.one=true)(h:AY w l9 f u):P7 w f [u]:=by grind[P7,D.cells_one]
theorem P7.arg1{v:Value}(j:c=l9)(g:f.one=true)(b:v.oneCell'=true)(h:P7 w f v.cells.toList):A7 w c a (.d f) v:=by
 subst j;have i:v.cells.toList=[v]:=by cases v<;>first | rfl | cases b
 rw[i,P7,D.cells_one g] at h;exact .d (h.2.2 0 f v Z Z)
theorem P7.argS{w:World}{b:Nat->Nat->Value}{O:Nat->Prop}{a:List D}{cs:Array Value}(c:O=l9)(h:P7 w (.agg a) (Value.agg cs).cells.toList):A7 w O b (.d (.agg a)) (.agg cs):=by
 subst c;obtain ⟨i,g,f⟩:=h;have:=AY.agg (w:=w) (O:=l9) (cs:=a) (vs:=cs.toList) i g f;exact .d (by simpa using this)
section
variable{H:Type}{enc:TypeId×Value->H}{P:Program}{w:World}
variable{a:Type}{Q:a->Prop}{t:TypeId}{c:a->D}{k f:Nat}{g:TypeId}{h:Type}
def CV{α:Type}(enc:TypeId×Value->H)(P:Program)(w:World)(t:TypeId)(k:Nat)(emb:α->D)(Q:α->Prop):Prop:=
 ∀fuel cs x,DataW.trod enc P w 0 (λ_=>true) true fuel t cs=some x->(∀p∈x.2,p.block<w.heap.size)->(∀n∈x.1.weights P t,n<=reachBytes)->∃a,Q a/\(emb a).cells.length=k/\P7 w (emb a) cs
theorem Nu{l:List (DataW H)}{d:DataW H}(b:d∈l){n:Nat}(f:n∈d.weights P g):n∈DataW.weightsAll P g l:=by
 induction l with
 | nil=>cases b
 | cons a r c=>
  grind[DataW.weightsAll]
theorem XR{k:IntKind}(c:P.underlying t=some (.int k)):CV enc P w t 1 (λz:Int=> .raw (.int k z)) (λz=>k.min<=z/\z<=k.max):=λb f x h _ _=>by
 obtain ⟨z,rfl,_,a⟩:=DataW.trod_int c h;simp only[Lit.wf,gq,jP] at a;exact ⟨z,a,Z,K6 Z (.raw Z)⟩
theorem lY(c:P.underlying t=some .string):CV enc P w t 1 (λs:ByteArray=> .raw (.string s)) (λs=>s.size<=140737488351232):=λa g x h _ b=>by
 obtain ⟨s,rfl,rfl,f⟩:=DataW.trod_string c h;exact ⟨s,by simpa [DataW.weights,reachBytes] using b,Z,K6 Z (.raw Z)⟩
theorem Ly{b:Nat}(W:P.underlying t=some (.slice g))(hk:P.cellsOf g=k)(Y:0<k)(N:P.bytesOf g=b)(hO:CV enc P w g k c Q):CV enc P w t 1 (λl:List a=> .sl none (l.map c)) (λl=>(∀r∈l,Q r)/\l.length*b<=140737488351232):=λfuel cs x h K G=>by
 rcases open_slice W h with ⟨rfl,rfl⟩ | ⟨r,u,cap,m,n,Dd,Pl,rfl,_,hl,hm,I,rfl,hi⟩
 .refine ⟨[],⟨by simp,by simp⟩,Z,K6 Z (.sl k (λb N=>by cases N) (λ_=>rfl) Z (Γ _) (ζ _) (by simp) (by simp) (λb o g=>by cases g))⟩
 .simp only[if_true] at I;subst I
  have R:∀i,i<u->∃y:a,Q y/\(c y).cells.length=k/\∃s:List Value,P7 w (c y) s/\∀j,j<k->w.cell? ((r.add (i*k)).add j)=s[j]?:=by
   intro i M;obtain ⟨s,E,V⟩:=hi i (by omega)
   obtain ⟨y,hq,U,hr⟩:=hO _ _ _ V (λp hp=>K p (by
    simp only[ϖ,ja,Ψ]
    exact .inr ⟨i,by omega,hp⟩)) (λn hn=>G n (by
    simp only[DataW.weights,W,Υ,ϖ]
    exact .inr (.inl (Nu (Θ.2 ⟨i,Ψ.2 M,Z⟩) hn))))
   obtain ⟨_,B,O⟩:=World.cells?_some E;rw[hk] at O;exact ⟨y,hq,U,s,hr,O⟩
  obtain ⟨l,L,z⟩:=lk u R;refine ⟨l,⟨λy A=>?_,?_⟩,Z,K6 Z (.sl k (λb N=>by cases N) (λg=>by cases g) (by rw[χ];exact L) hl hm (λx v=>?_) (λX=>?_) (λb o g i x v=>?_))⟩
  .obtain ⟨i,C,rfl⟩:=iN A;exact (z i _ (ω C)).1
  .have D:=G ((u+(m-u))*P.bytesOf g) (by simp[DataW.weights,W]);rw[N] at D;have F:=jA b (show l.length<=u+(m-u) by omega);have T:reachBytes=140737488351232:=rfl;omega
  .obtain ⟨y,A,rfl⟩:=Θ.1 v;obtain ⟨i,C,rfl⟩:=iN A;exact (z i _ (ω C)).2.1
  .have h0:0<l.length:=by
    cases l with
    | nil=>exact absurd Z X
    | cons _ _=>simp
   obtain ⟨_,D,s,F,T⟩:=z 0 _ (ω h0);have h4:=T 0 Y;have B:s.length=k:=by rw[F.1,D]
   rw[ω (by omega)] at h4;have:r.spot=none:=by simpa [Addr.add] using World.cell?_spot h4
   exact ⟨r.block,r.off,by cases r;simp_all⟩
  .rw[ν] at v
   cases A:l[i]? with
   | none=>rw[A] at v;cases v
   | some y=>
    rw[A] at v;injection v with v
    subst v;obtain ⟨hq,D,s,F,T⟩:=z i y A;injection g with g
    subst g;have B:s.length=k:=by rw[F.1,D]
    have M:i<u:=by rw[<-L];exact (φ.1 A).1
    have hin:∀j,j<k->w.cell? ⟨b,o+i*k+j,none⟩=s[j]?:=λj S=>by
     have:=T j S
     rwa [Go.WideShapes.add_plain,Go.WideShapes.add_plain] at this
    refine .ptr (λj=>s.getD j undef) ?_ (λh=>h) F.2.1 (λj f E=>?_) (λj f E=>?_)
    .have J:MemPlace.cell b (o+i*k)∈MemPlace.row ⟨b,o,none⟩ (m*P.cellsOf g):=MemPlace.mem_row.2 ⟨i*k,by
      rw[hk];have:(i+1)*k<=m*k:=jA _ (by omega)
      rw[jd] at this;omega,Z⟩
     exact K _ (j7 _ J)
    .have S:j<k:=by rw[<-D];exact (φ.1 E).1
     rw[hin j S,Φ,ω (by omega)];rfl
    .have S:j<k:=by rw[<-D];exact (φ.1 E).1
     rw[Φ,ω (by omega)];exact F.2.2 j f _ E (ω (by omega))
def S6{α:Type}(enc:TypeId×Value->H)(P:Program)(w:World)(off total:Nat)(fs:List Field)(emb:α->List D)(Q:α->Prop):Prop:=
 ∀n (cs:List Value),cs.length=total->(∀(i:Nat) f,fs[i]? =some f->∃x,DataW.trod enc P w 0 (λ_=>true) true n f.type ((cs.drop f.offset).take (P.cellsOf f.type))=some x/\(∀p∈x.2,p.block<w.heap.size)/\∀n∈x.1.weights P f.type,n<=reachBytes)→
  ∃a,Q a/\off+(emb a).length=total/\(∀c∈emb a,c.one=true)/\∀(j:Nat) c u,(emb a)[j]? =some c->cs[off+j]? =some u->AY w l9 c u
theorem Js:S6 enc P w f f [] (λ_:Unit=> []) (λ_=>True):=λn a _ _=>⟨(),trivial,Z,by simp,by simp⟩
theorem CE{s:Nat}{l:Field}{G:List Field}{v:h->List D}{I:h->Prop}(R:l.offset=s)(S:P.cellsOf l.type=k)(V:CV enc P w l.type k c Q)(U:S6 enc P w (s+k) f G v I):
  S6 enc P w s f (l::G) (λr:a×h=>(c r.1).cells++v r.2) (λr=>Q r.1/\I r.2):=λn W C F=>by
 obtain ⟨x,N,O,B⟩:=F 0 l rfl;obtain ⟨r,M,y,A⟩:=V _ _ _ N O B;obtain ⟨b,L,X,K,J⟩:=U n W C (λi g T=>F (i+1) g (by simpa using T));rw[R,S] at A;refine ⟨(r,b),⟨M,L⟩,by simp only[Δ,y];omega,λo t=>?_,λj o u t E=>?_⟩
 .rcases ϖ.1 t with t | t
  .exact A.2.1 o t
  .exact K o t
 .rcases Nat.lt_or_ge j k with z | z
  .rw[oh (by rw[y];exact z)] at t;exact A.2.2 j o u t (by rw[jm,ς z,jl];exact E)
  .rw[List.getElem?_append_right (by rw[y];exact z),y] at t;exact J (j-k) o u t (by rw[show s+k+(j-k)=s+j by omega];exact E)
theorem Jr{A:Type}{t:TypeId}{z:Array Field}{k:Nat}{g:A->List D}{Q:A->Prop}(B:P.underlying t=some (.struct z))(E:P.cellsOf t=k)(h:S6 enc P w 0 k z.toList g Q):CV enc P w t k (λa=> .agg (g a)) Q:=λF G x L y v=>by
 obtain ⟨r,n,_,rfl,C,o,S⟩:=DataW.trod_struct B L
 obtain ⟨a,K,s,J,I⟩:=h n G (by rw[C,E]) (λi f R=>by
  have l:z[i]? =some f:=by simpa using R
  have b:i<r.length:=by rw[o];exact (iq.1 l).1
  refine ⟨r[i],by rw[S i f l];exact ω b,λp N=>y p (ja.2 ⟨_,ϑ b,N⟩),λn O=>v n ?_⟩;simp only[DataW.weights,B]
  refine DataW.weights_mem_each (j:=i) (t:=f.type) (d:=r[i].1) (by rw[ν];simp[l]) (by rw[ν,ω b];rfl) n O)
 rw[i9] at s;exact ⟨a,K,s,by show G.length=_;rw[C,E];exact s.symm,J,λj c u T M=>I j c u T (by rw[i9];exact M)⟩
theorem CV.as{i:h->D}{j:h->Prop}(b:CV enc P w t k c Q)(f:a->h)(o:∀g,c g=i (f g))(l:∀g,Q g->j (f g)):CV enc P w t k i j:=by grind[CV]
end
theorem Z5{P:Program}{f:FuncId}{k:List AV}(h:AL P f k (.raw (.bool true))){w:World}{vs:List Value}(C:vs.length=k.length)(B:∀(i:Nat) a v,k[i]? =some a->vs[i]? =some v->A7 w l9 (λ_ _=>undef) a v):
  Calls P f vs.toArray w λe y=>e= .returned (.bool true)/\Below w.heap.size w y:=by
 have l:∀c b,¬BG c [] b:=λc b ⟨_,_,_,h,_⟩=>by cases h
 let c:Nat->Nat->Value:=λ_ _=>undef
 let F:Fr:=Fr.mk none (.marks w.heap.size) w l9 (BG c []) (Ck c []) (λb t=>t.elim) [] (λ_ _ _ h=>D5 h)
 have E:F.O c []=l9:=funext λb=>propext ⟨λh=>h.elim id λh=>(l c b h).elim,λh=>h.elim⟩
 have s:B9 F [] c w:=⟨(λf i o u=>by cases u),(λf i L K o J b u=>by cases u),λb t=>(l c b t).elim,Z,Z,Z,Γ _,λ_ _ _=>rfl,λf i b t=>nU t,Γ _⟩
 refine (h.2 F c vs Z Z ⟨Z,Z,Z⟩ s C (λi a v D A=>by rw[E];exact B i a v D A)).mono λe y ⟨v,r,M,z,I,⟨H,G⟩,g,j⟩=>?_;subst I H G;refine ⟨?_,j.os,j.tape,j.output,j.size0,λb x=>j.keep b x (l c b)⟩
 cases g with
 | d g=>
  cases g with
  | raw _=>rfl
end Go.Proofs.YteifpcnphnhaoaaGreat
namespace Go.Proofs.YteifpcnphnhaoaaGreat
open Go.ChangeShapes Go.WideShapes Go.ChangeAt Go.RowKit
section
variable{H:Type}{enc:TypeId×Value->H}{P:Program}{w:World}
variable{t:TypeId}
theorem CV.asQ{i g:Type}{k:Nat}{c:i->D}{Q:i->Prop}{b:g->D}{j:g->Prop}(h:CV enc P w t k c Q)(f:i->g)(o:∀a,Q a->c a=b (f a))(l:∀a,Q a->j (f a)):CV enc P w t k b j:=by grind[CV]
theorem XS(a:P.underlying t=some (.int .i64)):CV enc P w t 1 (λn:Int=> .raw (.int .i64 n)) (λn=> -9223372036854775808<=n/\n<=9223372036854775807):=
 (XR a).asQ id (λ_ _=>rfl) (λ_ h=>h)
theorem ca(b:P.underlying t=some .string):CV enc P w t 1 An (λl=>l.length<=140737488351232):=
 (lY b).asQ (λs=>s.data.toList) (λa _=>rfl) (λa h=>by simpa using h)
end
end Go.Proofs.YteifpcnphnhaoaaGreat
namespace Go.Proofs.YteifpcnphnhaoaaGreat
open Go.RowKit
variable{M:List (List UInt8×Int)}{k:Nat}{c:Type}{g:List c}{h:c->Int}{j:Prop}{E:Int}{x:c}
set_option maxRecDepth 100000
abbrev AF(z:Int):D:= .raw (.int .i64 z)
structure S8 where
 o:List UInt8
 k:Int
 a:List UInt8
structure AU where
 k:Int
 acc:S8
 f:List UInt8
 t:List UInt8
structure ED where
 acc:S8
 d:Int
structure Jk where
 f:List UInt8
 t:List UInt8
 n:Int
structure AJ where
 id:Int
 pr:Int
 sq:Int
 po:List ED
 pa:List Jk
 af:List Int
structure Ad where
 r:AU
 n:Int
structure gB where
 ro:List Ad
 it:List AJ
theorem S8.eq_iff{x y:S8}:x=y↔x.o=y.o/\x.k=y.k/\x.a=y.a:=by cases x;cases y;simp
instance:DecidableEq S8:=λ_ _=>decidable_of_iff _ S8.eq_iff.symm
theorem AU.eq_iff{x y:AU}:x=y↔x.k=y.k/\x.acc=y.acc/\x.f=y.f/\x.t=y.t:=by cases x;cases y;simp
instance:DecidableEq AU:=λ_ _=>decidable_of_iff _ AU.eq_iff.symm
abbrev vO(x:S8):D:= .agg [An x.o,AF x.k,An x.a]
abbrev Bc(x:AU):D:= .agg [AF x.k,An x.acc.o,AF x.acc.k,An x.acc.a,An x.f,An x.t]
abbrev BT(x:ED):D:= .agg [An x.acc.o,AF x.acc.k,An x.acc.a,AF x.d]
abbrev C4(x:Jk):D:= .agg [An x.f,An x.t,AF x.n]
abbrev Af(x:AJ):D:= .agg [AF x.id,AF x.pr,AF x.sq,.sl none (x.po.map BT),.sl none (x.pa.map C4),.sl none (x.af.map AF)]
abbrev Bj(x:Ad):D:= .agg [AF x.r.k,An x.r.acc.o,AF x.r.acc.k,An x.r.acc.a,An x.r.f,An x.r.t,AF x.n]
abbrev Bf(x:gB):D:= .agg [.sl none (x.ro.map Bj),.sl none (x.it.map Af)]
def NN(x:AU):List Value:=[.int .i64 x.k,Gr x.acc.o,.int .i64 x.acc.k,Gr x.acc.a,Gr x.f,Gr x.t]
def NR(x:S8):List Value:=[Gr x.o,.int .i64 x.k,Gr x.a]
abbrev br:List TypeDesc:=[.int .i64,.string,.int .i64,.string,.string,.string]
abbrev fe:List TypeDesc:=[.string,.int .i64,.string]
theorem GA(a b:Int):PJ (.int .i64 a) (.int .i64 b)=decide (a=b):=by
 simp only[PJ];exact Bool.beq_eq_decide_eq a b
theorem Fz(a b:List UInt8):PJ (Gr a) (Gr b)=decide (a=b):=by
 simp only[PJ,Gr,<-beq_toListBytes,RH]
theorem NW(a b:AU):BV (NN a) (NN b)=decide (a=b):=by grind[NN,BV,GA,Fz,AU.eq_iff,S8.eq_iff]
theorem Nn(a b:S8):BV (NR a) (NR b)=decide (a=b):=by grind[NR,BV,GA,Fz,S8.eq_iff]
theorem P3{d:TypeDesc}{b:List TypeDesc}{u:Value}{a:List Value}(h:MapKept.IsKey d u)(c:BE b a):BE (d::b) (u::a):=by grind[BE]
theorem Gz:BE [] []:=⟨Z,by simp⟩
theorem EQ(a:AU):BE br (NN a):=P3 Z (P3 trivial (P3 Z (P3 trivial (P3 trivial (P3 trivial Gz)))))
theorem Dc(a:S8):BE fe (NR a):=P3 trivial (P3 Z (P3 trivial Gz))
theorem lB(a:AU):(Bc a).val? =some (.agg (NN a).toArray):=rfl
theorem CY:Bs prog 64 Bc (λa=> .agg (NN a).toArray):=Bs.flat (ds:=br) (by kernel_rfl) (by kernel_rfl) lB EQ NW
theorem RG{a:List (Nat×Option (List AM))}{f:Nat}{i b:List AM}(h:Bg a f=some (some b)):∀g c,Bg a g=some c->C2 f i b g c:=by grind
theorem Vo{p:Prop}[Decidable p][Decidable j](h:p↔j):AV.d (.raw (.bool (decide p)))= .d (.raw (.bool (decide j))):=by rw[decide_eq_decide.2 h]
theorem TR[Decidable j](h:j):AV.d (.raw (.bool true))= .d (.raw (.bool (decide j))):=by rw[gi h]
theorem EF[Decidable j](h:¬j):AV.d (.raw (.bool false))= .d (.raw (.bool (decide j))):=by rw[gp h]
theorem Ae{a b:Int}(h:a=b):AV.d (.raw (.int .i64 a))= .d (.raw (.int .i64 b)):=by rw[h]
theorem AN(n:Nat)(h:n<=9223372036854775807):IntKind.i64.wrap (n:Int)=(n:Int):=Ξ _ (by omega)
theorem IY(n b c:Int):AL prog 167 [.d (AF n),.d (AF b),.d (AF c)] (.raw (.bool (decide (b<=n/\n<=c)))):=by
 refine Av func167 Z Z ntmps167 Z Z Z λF f=>(AC (AE ?_));refine AB Z Z (AD (AC (AE (ek Z Z (ek Z Z (J (EN Z Z Z) (ek Z Z (CU 10 Z (λa=>?_) (λa=>?_)))))))));refine AQ Z Z Z (ek Z Z (AQ Z Z Z (ek Z Z (AQ Z Z Z (J (Vd Z Z Z) (J (BZ Z Z Z Z) ?_))))))
 rotate_left
 refine AI Z Z Z Z (AI Z Z Z Z (AI Z Z Z Z (J (Be Z Z Z Z) ?_)))
 all_goals
  refine AB Z Z (AD (A2 ?_));exact ⟨_,[],[],A0 Z,Z,Z,by first | exact Vo (by omega) | exact EF (by omega),rfl⟩
theorem HZ(n b c:Int):AL prog 178 [.d (AF n),.d (AF b),.d (AF c)] (.raw (.bool (decide (b<=n/\n<=c)))):=by
 refine Av func178 Z Z ntmps178 Z Z Z λF f=>(AC (AE ?_));refine AB Z Z (AD (AC (AE (ek Z Z (ek Z Z (J (EN Z Z Z) (ek Z Z (CU 10 Z (λa=>?_) (λa=>?_)))))))));refine AQ Z Z Z (ek Z Z (AQ Z Z Z (ek Z Z (AQ Z Z Z (J (Vd Z Z Z) (J (BZ Z Z Z Z) ?_))))))
 rotate_left
 refine AI Z Z Z Z (AI Z Z Z Z (AI Z Z Z Z (J (Be Z Z Z Z) ?_)))
 all_goals
  refine AB Z Z (AD (A2 ?_));exact ⟨_,[],[],A0 Z,Z,Z,by first | exact Vo (by omega) | exact EF (by omega),rfl⟩
theorem I7(n:Int):AL prog 100 [.d (AF n)] (.raw (.bool (decide (0<=n/\n<=1000000000)))):=by
 refine Av func100 Z Z ntmps100 Z Z Z λF b=>(AC ?_);refine AE (AB Z Z (AD (AC (AE (ek Z Z (J (EN Z Z Z) (ek Z Z (CU 5 Z (λa=>?_) (λa=>?_)))))))));refine AQ Z Z Z (ek Z Z (AQ Z Z Z (J (Vd Z Z Z) (J (BZ Z Z Z Z) ?_))))
 rotate_left
 refine AI Z Z Z Z (AI Z Z Z Z (J (Be Z Z Z Z) ?_))
 all_goals
  refine AB Z Z (AD (A2 ?_));exact ⟨_,[],[],A0 Z,Z,Z,by first | exact Vo (by omega) | exact EF (by omega),rfl⟩
theorem oQ(n:Int):AL prog 211 [.d (AF n)] (.raw (.bool false)):=by
 refine Av func211 Z Z ntmps211 Z Z Z λF a=>(AC (AE (AB Z Z ?_)));refine AD (AC (AE (ek Z Z (ek Z Z (J (C6 Z Z Z) (AB Z Z (AD (A2 ?_))))))));exact ⟨_,[],[],A0 Z,Z,Z,by simp,Z⟩
theorem dA(l:List UInt8):AL prog 239 [.d (An l)] (.raw (.bool false)):=by
 refine Av func239 Z Z ntmps239 Z Z Z λF a=>(AC (AE (AB Z Z ?_)));refine AD (AC (AE (ek Z Z (ek Z Z (J (DE Z Z Z) (AB Z Z (AD (A2 ?_))))))));exact ⟨_,[],[],A0 Z,Z,Z,by simp,Z⟩
def EB(a b:Int):Int:=if a<b then -1 else if b<a then 1 else 0
def Rl(a b:List UInt8):Bool:=Op.bytesLess a b
def Dg(a b:List UInt8):Int:=if Rl a b=true then -1 else if Rl b a=true then 1 else 0
theorem o8(a b:List UInt8):Op.bytesLess (⟨a.toArray⟩:ByteArray).toList (⟨b.toArray⟩:ByteArray).toList=Rl a b:=by rw[Lib.toList_data,Lib.toList_data];rfl
theorem ST(a b:Int):AL prog 166 [.d (AF a),.d (AF b)] (AF (EB a b)):=by
 refine Av func166 Z Z ntmps166 Z Z Z λF g=>(AC (AE ?_));refine AB Z Z (AD (AC (AE (ek Z Z (J (Au (oQ a) Z Z) (AB Z Z (AD (AC ?_))))))));refine AE (ek Z Z (J (Au (oQ b) Z Z) (AB Z Z (AD (AC (AC (AE (ek Z Z ?_))))))));refine AD (Cr Z (Z) (AW (AC (AC (AE (ek Z Z (AD (Cr Z (Z) ?_))))))));refine AW (AC (AC (AE (ek Z Z (ek Z Z (J (Az Z Z Z) (AD (A6 Z (λf=>?_) (λf=>?_)))))))))
 rotate_left
 refine AW (AC (AC (AE (ek Z Z (ek Z Z (J (HV Z Z Z) (AD (A6 Z (λc=>?_) (λc=>?_)))))))))
 rotate_left
 refine AW ?_
 all_goals
  refine AC (AE (AB Z Z (AD (A2 ?_))));exact ⟨_,[],[],A0 Z,Z,Z,by first | exact Ae (by unfold EB;rw[ς (by assumption)]) | exact Ae (by unfold EB;rw[κ (by assumption),ς (by omega)]) | exact Ae (by unfold EB;rw[κ (by assumption),κ (by omega)]),Z⟩
theorem SS(a b:List UInt8):AL prog 196 [.d (An a),.d (An b)] (AF (Dg a b)):=by
 refine Av func196 Z Z ntmps196 Z Z Z λF g=>(AC (AE ?_));refine AB Z Z (AD (AC (AE (ek Z Z (J (Au (dA a) Z Z) (AB Z Z (AD (AC ?_))))))));refine AE (ek Z Z (J (Au (dA b) Z Z) (AB Z Z (AD (AC (AC (AE (ek Z Z ?_))))))));refine AD (Cr Z (Z) (AW (AC (AC (AE (ek Z Z (AD (Cr Z (Z) ?_))))))));refine AW (AC (AC (AE (ek Z Z (ek Z Z (J (XC Z Z Z) (AD (JC Z (λc=>?_) (λc=>?_)))))))));rw[o8] at c
 rotate_left
 rw[o8] at c;refine AW (AC (AC (AE (ek Z Z (ek Z Z (J (XE Z Z Z) (AD (JC Z (λf=>?_) (λf=>?_)))))))));rw[o8] at f
 rotate_left
 rw[o8] at f;refine AW ?_
 all_goals
  refine AC (AE (AB Z Z (AD (A2 ?_))));exact ⟨_,[],[],A0 Z,Z,Z,by first | exact Ae (by unfold Dg;rw[ς c]) | exact Ae (by unfold Dg;rw[κ (by rw[c];decide),ς f]) | exact Ae (by unfold Dg;rw[κ (by rw[c];decide),κ (by rw[f];decide)]),Z⟩
abbrev Mx:Int:=1000000000000000
def BO:List Int->Int
 | []=>0
 | e::r=>if e=0 then BO r else e
theorem Zp(a:k<g.length):BO ((g.drop k).map h)=if h g[k]=0 then BO ((g.drop (k+1)).map h) else h g[k]:=by
 rw[kY a];rfl
theorem DL(a:¬k<g.length):BO ((g.drop k).map h)=0:=by
 rw[kI (by omega)];rfl
theorem kR{l:List c}{k:Nat}(b:k<l.length)(a:E=BO ((l.drop k).map h)):(h l[k]=0->E=BO ((l.drop (k+1)).map h))/\∀e,h l[k]=e->e≠0->e=E:=by grind[Zp]
def I8(p:ED):Int:=if p.acc.o=[]\/p.acc.a=[] then 6 else if ¬(0<=p.acc.k/\p.acc.k<=4) then 11 else if ¬(-Mx<=p.d/\p.d<=Mx) then 12 else 0
def J6(p:Jk):Int:=if p.f=[]\/p.t=[] then 6 else if p.f=p.t then 7 else if ¬(0<=p.n/\p.n<=Mx) then 2 else 0
def Mb(id:Int)(l:List Int)(k:Nat):Int:=if ¬(0<=l.getD k 0/\l.getD k 0<=1000000000) then 2 else if l.getD k 0=id\/l.getD k 0∈l.take k then 7 else 0
def Fk(i:AJ):Int:=BO (i.po.map I8)
def Ka(i:AJ):Int:=BO (i.pa.map J6)
def NQ(i:AJ):Int:=BO ((List.range i.af.length).map (Mb i.id i.af))
def Bo(l:List ED)(a:List UInt8):Int:=(l.map λp=>if p.acc.a=a then p.d else 0).sum
def L1(i:AJ):Int:=if ∃p∈i.po,Bo i.po p.acc.a≠0 then 14 else 0
theorem Dv(b:k<g.length)(h:x∉g.take k)(a:x≠g[k]):x∉g.take (k+1):=by
 rw[ψ b,ϖ]
 simp[h,a]
theorem If(a:¬k<g.length)(h:x∉g.take k):x∉g:=by
 rwa [η (by omega)] at h
def WO(x:Int)(l:List Int):Int:=if x∈l then (l.idxOf x:Int) else -1
theorem UM{l:List Int}{x:Int}(a:k<l.length)(h:x∉l.take k)(b:x=l[k]):WO x l=(k:Int):=by grind[WO,kY,kX]
theorem Xq(l:List Int)(x:Int)(i:l.length<=140737488355328):AL prog 176 [.d (.sl none (l.map AF)),.d (AF x)] (AF (WO x l)):=by
 refine Av func176 Z Z ntmps176 Z Z Z λF j=>(AC (AE (AB Z Z (AD ?_))));refine AC (AC (AE (ek Z Z (J (BS Z E0 Z) (ek Z Z (AD (AZ (Gi (α:=Nat) (λk=>⟨19,[(0,.d (.sl none (l.map AF))),(1,.d (AF x)),(7,(.d (AF (l.length:Int)))),(8,(.d (AF (k:Int))))],[]⟩) (λk=>k<=l.length/\x∉l.take k) (λk=>l.length-k) (0) (⟨ζ _,by simp⟩) (aV ⟨Z,Z,Z,Z,trivial⟩) ?_))))))));rintro k ⟨g,c⟩;refine AC (AE (J (Az Z Z Z) (AD (AC (A6 Z (λf=>?_) (λf=>?_))))))
 .have a:k<l.length:=BQ f;refine AW (AC (AZ (AC (AE (ek Z Z (AB Z Z (AD (AC ?_))))))));refine AE (ek Z Z (ek Z Z (ek Z Z (J (BC (k) Z Z (Z) (A1 a) E0 Z BW Z) (J (CG Z Z Am Z) (J (GR Z Z Z) (AD (A6 Z (λb=>?_) (λb=>?_)))))))))
  .refine AC (AE (ek Z Z (AB Z Z (AD (A2 ?_)))));exact ⟨_,[],[],A0 Z,Z,Z,Ae (UM a c b).symm,Z⟩
  .refine AW (AE (J (Aj Z Z (AN (k+1) (by omega)) Z) (ek Z Z (AD ?_))));exact ⟨k+1,⟨by show k+1<=_;omega,Dv a c b⟩,by show l.length-(k+1)<l.length-k;omega,⟨Z,Z,λ_ _=>Sd.get (l:=[(0,_),(1,_),(7,_),(8,_)]) ⟨Z,Z,Z,Z,trivial⟩⟩⟩
 .refine Aw (AC (AE (AB Z Z (AD (A2 ?_)))));exact ⟨_,[],[],A0 Z,Z,Z,Ae (by unfold WO;rw[κ (If (by have h:=f;omega) c)]),Z⟩
theorem PO(l:List Int)(x:Int)(a:l.length<=140737488355328):AL prog 179 [.d (.sl none (l.map AF)),.d (AF x)] (.raw (.bool (decide (x∈l)))):=by
 refine Av func179 Z Z ntmps179 Z Z Z λF b=>(AC (AE (AB Z Z (AD ?_))));refine AC (AE (ek Z Z (ek Z Z (J (Au (Xq l x a) Z Z) (J (EN Z Z Z) (AB Z Z (AD (A2 ?_))))))));exact ⟨_,[],[],A0 Z,Z,Z,Vo (by unfold WO;split<;>rename_i h<;>simp[h]<;>omega),Z⟩
theorem td(l:List Int)(x:Int)(i:l.length<=140737488355328):AL prog 151 [.d (.sl none (l.map AF)),.d (AF x)] (.raw (.bool (decide (x∈l)))):=by
 refine Av func151 Z Z ntmps151 Z Z Z λF j=>(AC (AE ?_));refine AB Z Z (AD (AC (AC (AE (AB Z Z (AD (AZ (Gi (α:=Nat) (λk=>⟨18,[(0,.d (.sl none (l.map AF))),(1,.d (AF x)),(5,(.d (AF (k:Int))))],[]⟩) (λk=>k<=l.length/\x∉l.take k) (λk=>l.length-k) (0) (⟨ζ _,by simp⟩) (aV ⟨Z,Z,Z,trivial⟩) ?_))))))));rintro k ⟨g,f⟩;refine AC (AC (AE (ek Z Z (ek Z Z (J (BS Z E0 Z) (J (Az Z Z Z) (AD (A6 Z (λc=>?_) (λc=>?_)))))))))
 .have a:k<l.length:=BQ c;refine AW (AC (AZ (AC ?_)));refine AE (ek Z Z (ek Z Z (J (BC (k) Z Z (Z) (A1 a) E0 Z BW Z) (J (CG Z Z Am Z) (ek Z Z (J (GR Z Z Z) (AD (A6 Z (λb=>?_) (λb=>?_)))))))))
  .refine AC (AE (AB Z Z (AD (A2 ?_))));exact ⟨_,[],[],A0 Z,Z,Z,TR (by rw[<-b];exact ϑ a),Z⟩
  .refine AW (AE (ek Z Z (J (Aj Z Z (AN (k+1) (by omega)) Z) (AB Z Z (AD ?_)))));exact ⟨k+1,⟨by show k+1<=_;omega,Dv a f (λe=>b e.symm)⟩,by show l.length-(k+1)<l.length-k;omega,⟨Z,Z,λ_ _=>Sd.get (l:=[(0,_),(1,_),(5,_)]) ⟨Z,Z,Z,trivial⟩⟩⟩
 .refine Aw (AC (AE (AB Z Z (AD (A2 ?_)))));exact ⟨_,[],[],A0 Z,Z,Z,EF (If (by have h:=c;omega) f),Z⟩
theorem Vw(i:AJ)(t:i.po.length<=140737488355328):AL prog 168 [.d (Af i)] (AF (Fk i)):=by
 refine Av func168 Z Z ntmps168 Z Z Z λF r=>(AC (AE (V (Bh 1 Z Z Z Z Z Z Z) (AB Z Z (AD (AC ?_))))));refine AC (AE (J (AK Z EZ Z Z Z) (J (AO Z Z Z Pp Z) (J (BS Z dd Z) (ek Z Z (AD (AZ (BM (α:=Nat) (λk=>⟨35,[(1,(.ptr 1 0 0)),(6,(.d (.sl none (i.po.map BT)))),(7,(.d (AF (i.po.length:Int)))),(8,(.d (AF (k:Int))))],[(1,[.blk 55 [.d (AF i.id),.d (AF i.pr),.d (AF i.sq),.d (.sl none (i.po.map BT)),.d (.sl none (i.pa.map C4)),.d (.sl none (i.af.map AF))]])]⟩) (λk=>k<=i.po.length/\Fk i=BO ((i.po.drop k).map I8)) (λk=>i.po.length-k) (0) (⟨ζ _,Z⟩) (AX r [1] Z Z ⟨Z,Z,Z,Z,trivial⟩) ?_))))))));rintro k ⟨s,o⟩;refine AC (AE (J (Az Z Z Z) (AD (AC (A6 Z (λl=>?_) (λl=>?_))))))
 .have g:k<i.po.length:=BQ l;refine AW (AC (AZ (AC (AE ?_))));have j:=kR g o;refine J (BC (k) Z Z (Z) (A1 g) dd Z Mh Z) (J (C7 Z Z bo Z) (V (Bx 2 QH Z Z Z Z) (V (B3 Z Z Z Z Z Z Z Mh) (AD ?_))));refine AZ (AC (AE (J (AK Z JY Z Z Z) (J (AK Z SB Z Z Z) (J (AO Z Z Z CJ Z) (J (KK Z Z Z) (ek Z Z (CU 17 Z (λa=>?_) (λa=>?_)))))))))
  .refine AI Z Z Z Z (AI Z Z Z Z (AI Z Z Z Z (AI Z Z Z Z ?_)));refine J (BZ Z Z Z Z) (AB Z Z (AD (Bw Z Z (AC (AE (AB Z Z (AD (A2 ?_))))))));exact ⟨_,[],[],A0 Z,Z,Z,Ae (j.2 6 (by unfold I8;rw[ς (.inl a)]) (by decide)),Z⟩
  .refine AQ Z Z Z (J (AK Z JY Z Z Z) (AQ Z Z Z ?_));refine J (AK Z PD Z Z Z) (AQ Z Z Z (J (AO Z Z Z CJ Z) (AQ Z Z Z (J (KK Z Z Z) (J (Be Z Z Z Z) (AB Z Z (AD (A6 Z (λb=>?_) (λb=>?_)))))))))
   .refine AC (AE (AB Z Z (AD (A2 ?_))));exact ⟨_,[],[],A0 Z,Z,Z,Ae (j.2 6 (by unfold I8;rw[ς (.inr b)]) (by decide)),Z⟩
   .refine AC ?_;refine AE (J (AK Z JY Z Z Z) (J (AK Z PE Z Z Z) (J (AO Z Z Z Am Z) (J (Au (IY _ _ _) Z Z) (J (KH Z Z) (AB Z Z (AD (A6 Z (λc=>?_) (λc=>?_)))))))))
    .refine AC (AE (AB Z Z (AD (A2 ?_))));exact ⟨_,[],[],A0 Z,Z,Z,Ae (j.2 11 (by unfold I8;rw[κ (by simp[a,b]),ς c]) (by decide)),Z⟩
    .refine AC (AE (J (AK Z Ng Z Z Z) (J (AO Z Z Z Fo Z) (J (Au (HZ _ _ _) Z Z) (J (KH Z Z) (AB Z Z (AD (A6 Z (λf=>?_) (λf=>?_)))))))))
     .refine AC (AE (AB Z Z (AD (A2 ?_))));exact ⟨_,[],[],A0 Z,Z,Z,Ae (j.2 12 (by unfold I8;rw[κ (by simp[a,b]),κ c,ς f]) (by decide)),Z⟩
     .refine AW (AE (J (Aj Z Z (AN (k+1) (by omega)) Z) (ek Z Z (AD ?_))));exact ⟨k+1,⟨by show k+1<=_;omega,j.1 (by unfold I8;rw[κ (by simp[a,b]),κ c,κ f])⟩,by show i.po.length-(k+1)<i.po.length-k;omega,AX r [1] Z (Z) ⟨Z,Z,Z,Z,trivial⟩⟩
 .refine Aw (AC (AE (AB Z Z (AD (A2 ?_)))));exact ⟨_,[],[],A0 Z,Z,Z,Ae (by rw[o,DL (by have h:=l;omega)]),Z⟩
theorem Vx(i:AJ)(t:i.pa.length<=140737488355328):AL prog 169 [.d (Af i)] (AF (Ka i)):=by
 refine Av func169 Z Z ntmps169 Z Z Z λF r=>(AC (AE (V (Bh 1 Z Z Z Z Z Z Z) (AB Z Z (AD (AC ?_))))));refine AC (AE (J (AK Z Fx Z Z Z) (J (AO Z Z Z Tb Z) (J (BS Z dr Z) (ek Z Z (AD (AZ (BM (α:=Nat) (λk=>⟨33,[(1,(.ptr 1 0 0)),(6,(.d (.sl none (i.pa.map C4)))),(7,(.d (AF (i.pa.length:Int)))),(8,(.d (AF (k:Int))))],[(1,[.blk 55 [.d (AF i.id),.d (AF i.pr),.d (AF i.sq),.d (.sl none (i.po.map BT)),.d (.sl none (i.pa.map C4)),.d (.sl none (i.af.map AF))]])]⟩) (λk=>k<=i.pa.length/\Ka i=BO ((i.pa.drop k).map J6)) (λk=>i.pa.length-k) (0) (⟨ζ _,Z⟩) (AX r [1] Z Z ⟨Z,Z,Z,Z,trivial⟩) ?_))))))));rintro k ⟨s,o⟩;refine AC (AE (J (Az Z Z Z) (AD (AC (A6 Z (λl=>?_) (λl=>?_))))))
 .have g:k<i.pa.length:=BQ l;refine AW (AC (AZ (AC (AE ?_))));have j:=kR g o;refine J (BC (k) Z Z (Z) (A1 g) dr Z Sr Z) (J (C7 Z Z bm Z) (V (Bx 2 nk Z Z Z Z) (V (B3 Z Z Z Z Z Z Z Sr) ?_)));refine AD (AZ (AC (AE (J (AK Z LP Z Z Z) (J (AO Z Z Z CJ Z) (J (KK Z Z Z) (ek Z Z (CU 16 Z (λa=>?_) (λa=>?_)))))))))
  .refine AI Z Z Z Z (AI Z Z Z Z (AI Z Z Z Z ?_));refine J (BZ Z Z Z Z) (AB Z Z (AD (Bw Z Z (AC (AE (AB Z Z (AD (A2 ?_))))))));exact ⟨_,[],[],A0 Z,Z,Z,Ae (j.2 6 (by unfold J6;rw[ς (.inl a)]) (by decide)),Z⟩
  .refine AQ Z Z Z ?_;refine J (AK Z LO Z Z Z) (AQ Z Z Z (J (AO Z Z Z CJ Z) (AQ Z Z Z (J (KK Z Z Z) (J (Be Z Z Z Z) (AB Z Z (AD (A6 Z (λb=>?_) (λb=>?_)))))))))
   .refine AC (AE (AB Z Z (AD (A2 ?_))));exact ⟨_,[],[],A0 Z,Z,Z,Ae (j.2 6 (by unfold J6;rw[ς (.inr b)]) (by decide)),Z⟩
   .refine AC ?_;refine AE (J (AK Z LP Z Z Z) (J (AO Z Z Z CJ Z) (J (AK Z LO Z Z Z) (J (AO Z Z Z CJ Z) (J (KK Z Z Z) (AB Z Z (AD (A6 Z (λc=>?_) (λc=>?_)))))))))
    .refine AC (AE (AB Z Z (AD (A2 ?_))));exact ⟨_,[],[],A0 Z,Z,Z,Ae (j.2 7 (by unfold J6;rw[κ (by simp[a,b]),ς c]) (by decide)),Z⟩
    .refine AC (AE (J (AK Z LN Z Z Z) (J (AO Z Z Z Fo Z) (J (Au (HZ _ _ _) Z Z) (J (KH Z Z) (AB Z Z (AD (A6 Z (λf=>?_) (λf=>?_)))))))))
     .refine AC (AE (AB Z Z (AD (A2 ?_))));exact ⟨_,[],[],A0 Z,Z,Z,Ae (j.2 2 (by unfold J6;rw[κ (by simp[a,b]),κ c,ς f]) (by decide)),Z⟩
     .refine AW (AE (J (Aj Z Z (AN (k+1) (by omega)) Z) (ek Z Z (AD ?_))));exact ⟨k+1,⟨by show k+1<=_;omega,j.1 (by unfold J6;rw[κ (by simp[a,b]),κ c,κ f])⟩,by show i.pa.length-(k+1)<i.pa.length-k;omega,AX r [1] Z (Z) ⟨Z,Z,Z,Z,trivial⟩⟩
 .refine Aw (AC (AE (AB Z Z (AD (A2 ?_)))));exact ⟨_,[],[],A0 Z,Z,Z,Ae (by rw[o,DL (by have h:=l;omega)]),Z⟩
theorem nW{n k:Nat}{f:Nat->Int}{E:Int}(a:k<n)(h:E=BO (((List.range n).drop k).map f)):(f k=0->E=BO (((List.range n).drop (k+1)).map f))/\∀e,f k=e->e≠0->e=E:=by
 have:=kR (l:=List.range n) (k:=k) (by simpa using a) h
 grind
theorem nK(i:AJ)(t:i.af.length<=140737488355328):AL prog 170 [.d (Af i)] (AF (NQ i)):=by
 refine Av func170 Z Z ntmps170 Z Z Z λF r=>(AC (AE (V (Bh 1 Z Z Z Z Z Z Z) (AB Z Z (AD (AC ?_))))));refine AC (AE (J (AK Z Dz Z Z Z) (J (AO Z Z Z BH Z) (J (BS Z E0 Z) (ek Z Z (AD (AZ (BM (α:=Nat) (λk=>⟨31,[(1,(.ptr 1 0 0)),(6,(.d (.sl none (i.af.map AF)))),(7,(.d (AF (i.af.length:Int)))),(8,(.d (AF (k:Int))))],[(1,[.blk 55 [.d (AF i.id),.d (AF i.pr),.d (AF i.sq),.d (.sl none (i.po.map BT)),.d (.sl none (i.pa.map C4)),.d (.sl none (i.af.map AF))]])]⟩) (λk=>k<=i.af.length/\NQ i=BO (((List.range i.af.length).drop k).map (Mb i.id i.af))) (λk=>i.af.length-k) (0) (⟨ζ _,Z⟩) (AX r [1] Z Z ⟨Z,Z,Z,Z,trivial⟩) ?_))))))));rintro k ⟨s,o⟩;refine AC (AE (J (Az Z Z Z) (AD (AC (A6 Z (λl=>?_) (λl=>?_))))))
 .have b:k<i.af.length:=BQ l;refine AW (AC (AZ (AC (AE ?_))));have j:=nW b o;have g:i.af.getD k 0=i.af[k]:=by simp[b]
  refine ek Z Z (J (BC (k) Z Z (Z) (A1 b) E0 Z BW Z) (J (CG Z Z Am Z) (AB Z Z (AB Z Z (AD ?_)))));refine AZ (AC (AE (ek Z Z (J (Au (IY _ _ _) Z Z) (J (KH Z Z) (AB Z Z (AD (A6 Z (λa=>?_) (λa=>?_)))))))))
  .refine AC (AE (AB Z Z (AD (A2 ?_))));exact ⟨_,[],[],A0 Z,Z,Z,Ae (j.2 2 (by unfold Mb;rw[g,ς a]) (by decide)),Z⟩
  .refine AC (AE (ek Z Z (J (AK Z Nr Z Z Z) (J (AO Z Z Z Am Z) (J (GR Z Z Z) (ek Z Z (CU 22 Z (λc=>?_) (λc=>?_))))))))
   .refine AI Z Z Z Z (AI Z Z Z Z (AI Z Z Z Z (AI Z Z Z Z (AI Z Z Z Z (AI Z Z Z Z ?_)))));refine J (BZ Z Z Z Z) (AB Z Z (AD (Bw Z Z (AC (AE (AB Z Z (AD (A2 ?_))))))));exact ⟨_,[],[],A0 Z,Z,Z,Ae (j.2 7 (by unfold Mb;rw[g,κ a,ς (.inl c)]) (by decide)),Z⟩
   .refine AQ Z Z Z (J (AK Z Dz Z Z Z) (AQ Z Z Z (J (AO Z Z Z BH Z) (AQ Z Z Z (ek Z Z (AQ Z Z Z ?_))))));refine J (kS (i.af) (k) Z Z Z (Z) (by omega) E0 BW (λ_=>rfl) Z) (AQ Z Z Z (ek Z Z (AQ Z Z Z (J (Au (PO (i.af.take k) _ (by simp;omega)) Z Z) (J (Be Z Z Z Z) (AB Z Z (AD (A6 Z (λf=>?_) (λf=>?_)))))))))
    .refine AC (AE (AB Z Z (AD (A2 ?_))));exact ⟨_,[],[],A0 Z,Z,Z,Ae (j.2 7 (by unfold Mb;rw[g,κ a,ς (.inr f)]) (by decide)),Z⟩
    .refine AW (AE (J (Aj Z Z (AN (k+1) (by omega)) Z) (ek Z Z (AD ?_))));exact ⟨k+1,⟨by show k+1<=_;omega,j.1 (by unfold Mb;rw[g,κ a,κ (by simp[c];exact f)])⟩,by show i.af.length-(k+1)<i.af.length-k;omega,AX r [1] Z (Z) ⟨Z,Z,Z,Z,trivial⟩⟩
 .refine Aw (AC (AE (AB Z Z (AD (A2 ?_)))));exact ⟨_,[],[],A0 Z,Z,Z,Ae (by rw[o,DL (by simp;have h:=l;omega)]),Z⟩
theorem Gh(l:List ED)(p:ED)(a:List UInt8):Bo (l++ [p]) a=Bo l a+if p.acc.a=a then p.d else 0:=by simp[Bo]
theorem Iz(l:List ED)(a:List UInt8)(h:∀p∈l,-Mx<=p.d/\p.d<=Mx): -(l.length*1000000000000000)<=Bo l a/\Bo l a<=l.length*1000000000000000:=by
 induction l with
 | nil=>simp[Bo]
 | cons p r b=>
  have f:=b λq c=>h q (by simp[c])
  grind[Bo]
def VM(l:List ED)(M:List (List UInt8×Int)):Prop:=(M.map Prod.fst).Nodup/\(∀a,Ac M a 0=Bo l a)/\(∀a,a∈M.map Prod.fst->∃p∈l,p.acc.a=a)/\∀p∈l,p.acc.a∈M.map Prod.fst
theorem iS{g:Type}[DecidableEq c]{M:List (c×g)}{a f:c}{b:g}:f∈(BX M a b).map Prod.fst↔f=a\/f∈M.map Prod.fst:=by grind[MC]
variable{f:List ED}
theorem VM.snoc(h:VM f M)(p:ED):VM (f++ [p]) (BX M p.acc.a (Ac M p.acc.a 0+p.d)):=by
 obtain ⟨i,k,j,g⟩:=h;refine ⟨O9 i,λa=>?_,λa c=>?_,λq b=>?_⟩
 .grind[HH,Gh]
 .rcases iS.1 c with e | e
  .grind
  grind
 .rcases ϖ.1 b with b | b
  .exact iS.2 (.inr (g q b))
  .simp at b;subst b;exact iS.2 (.inl Z)
variable{s:AJ}
theorem nG(h:VM s.po M){j:Nat}{a:List UInt8}{v:Int}(l:M[j]? =some (a,v))(g:v≠0):(14:Int)=L1 s:=by
 have b:=ξ l;have c:=D8 (z:=0) h.1 b;rw[h.2.1] at c;obtain ⟨p,k,e⟩:=h.2.2.1 a (jg (f:=Prod.fst) b);unfold L1;rw[ς ⟨p,k,by rw[e,c];exact g⟩]
theorem rF(h:VM s.po M)(a:∀x∈M,x.2=0):(0:Int)=L1 s:=by grind[L1,Ie,VM]
theorem RT(h:∀p∈f,-Mx<=p.d/\p.d<=Mx):∀p∈f.take k,-Mx<=p.d/\p.d<=Mx:=λp a=>h p (i8 a)
theorem Wb(i:AJ)(G:i.po.length<=256)(A:∀p∈i.po,-Mx<=p.d/\p.d<=Mx):AL prog 171 [.d (Af i)] (AF (L1 i)):=by
 refine Av func171 Z Z ntmps171 Z Z Z λF u=>(AC (AE ?_));refine V (Bh 1 Z Z Z Z Z Z Z) (AB Z Z (AD (AC (AE (V (Pc 2 Z Z Z Z) (AB Z Z (AD (AC ?_))))))));refine AC (AE (J (AK Z EZ Z Z Z) (J (AO Z Z Z Pp Z) (J (BS Z dd Z) (ek Z Z (AD (AZ (BM (α:=Nat×List (List UInt8×Int)) (λq=>⟨33,[(3,(.map 2 0)),(10,(.d (.sl none (i.po.map BT)))),(11,(.d (AF (i.po.length:Int)))),(12,(.d (AF (q.1:Int))))],[(2,[BY An AF q.2])]⟩) (λq=>q.1<=i.po.length/\VM (i.po.take q.1) q.2) (λq=>i.po.length-q.1) ((0,[])) (⟨ζ _,⟨by simp,by simp[Bo,Ac],by simp,by simp⟩⟩) (AX u [2] Z Z ⟨Z,Z,Z,Z,trivial⟩) ?_))))))));rintro ⟨k,M⟩ ⟨w,s⟩;dsimp only at w s⊢;refine AC (AE (J (Az Z Z Z) (AD (AC (A6 Z (λg=>?_) (λg=>?_))))))
 .have c:k<i.po.length:=BQ g;refine AW (AC (AZ (AC (AE ?_))));have z:=A _ (ϑ c);have y:=Iz (i.po.take k) i.po[k].acc.a (RT A);rw[<-s.2.1,ϱ] at y;simp only[Mx] at z;refine J (BC (k) Z Z (Z) (A1 c) dd Z Mh Z) (J (C7 Z Z bo Z) ?_);refine V (Bx 3 QH Z Z Z Z) (V (B3 Z Z Z Z Z Z Z Mh) (AD (AE (ek Z Z (J (AK Z JY Z Z Z) (J (AK Z PD Z Z Z) (J (AO Z Z Z CJ Z) (J (IV (M) (i.po[k].acc.a) (0) _ Z Z Z dD v1 P9 Z Z) ?_))))))));refine J (AK Z Ng Z Z Z) (J (AO Z Z Z Fo Z) (J (Aj Z Z (Ξ _ (by omega)) Z) (V (VH (M) (i.po[k].acc.a) (Ac M i.po[k].acc.a 0+i.po[k].d) Z Z Z dD v1 Z Z) (AD (AE (J (Aj Z Z (AN (k+1) (by omega)) Z) (ek Z Z (AD ?_))))))));exact ⟨(k+1,_),⟨by show k+1<=_;omega,by have:=s.snoc i.po[k];rwa [<-ψ c] at this⟩,by show i.po.length-(k+1)<i.po.length-k;omega,AX u [2] Z (Z) ⟨Z,Z,Z,Z,trivial⟩⟩
 .refine Aw (AC (AC ?_));have r:VM i.po M:=by rw[η (by have h:=g;omega)] at s;exact s
  refine AE (ek Z Z (V (Gt 4 Z Z Z dD Z Z Z Z) (AD (AZ (BM (α:=List Nat) (λseen=>⟨33,[(26,(.ptr 4 0 0))],[(4,[.iter 2 0 M.length seen]),(2,[BY An AF M])]⟩) (λseen=>∀x∈M,x∈CC M (List.range M.length) seen\/x.2=0) (λseen=>(CC M (List.range M.length) seen).length) ([]) (λx j=> .inl (by rw[nX (by simp)];exact j)) (AX u [4,2] Z Z ⟨Z,trivial⟩) ?_)))));intro seen B;refine AC (AE (Lz (M) Z Z Z Z (λl=>?_) (λv t E D b o C a=>⟨_,Z,?_⟩)))
  .refine J (DC Z Z Z) ?_;refine AD (AC (Cr Z Z (Aw (AC (AE (AB Z Z (AD (A2 ?_))))))));exact ⟨_,[],[],A0 Z,Z,Z,Ae (rF r λx j=>(B x j).elim (λh=>by rw[l] at h;cases h) id),Z⟩
  .refine J (DC Z Z Z) (AD (AC (Bw Z Z (AW (AZ (AC (AE (J (Gu (M) v t Z Z Z b o Z) ?_))))))));refine J (DC Z Z Z) (AB Z Z (AD (AC (AE (ek Z Z (J (C6 Z Z Z) (AD (A6 Z (λf=>?_) (λf=>?_)))))))))
   .refine AC (AE (AB Z Z (AD (A2 ?_))));exact ⟨_,[],[],A0 Z,Z,Z,Ae (nG r b f),Z⟩
   .refine AW ?_;exact ⟨seen++ [t],λx j=>(B x j).elim (λh=>(Υ.1 (a.mem_iff.1 h)).elim (λe=> .inr (by rw[e];simpa using f)) .inl) .inr,by rw[a.length_eq];exact jG _,AX u [4,2] Z (Z) ⟨Z,trivial⟩⟩
abbrev nN:S8:=⟨[],0,[]⟩
abbrev Gy(p:ED):AU:=⟨0,p.acc,[],[]⟩
abbrev CI(f t:List UInt8):AU:=⟨1,nN,f,t⟩
abbrev DH(f:List UInt8):AU:=⟨2,nN,f,[]⟩
def fc(M:List (AU×Int))(x:AU×Int):List (AU×Int):=BX M x.1 (Ac M x.1 0+x.2)
def EA(l:List ED):List (AU×Int):=l.map λp=>(Gy p,p.d)
def MY(p:Jk):List (AU×Int):=[(CI p.f p.t,-p.n),(CI p.t p.f,p.n),(DH p.f,-p.n),(DH p.t,p.n)]
def HT(l:List Jk):List (AU×Int):=l.flatMap MY
def gf(i:AJ):List (AU×Int):=EA i.po++HT i.pa
def gH(l:List (AU×Int)):List (AU×Int):=l.foldl fc []
def Ai(l:List (AU×Int))(r:AU):Int:=(l.map λx=>if x.1=r then x.2 else 0).sum
theorem YV(l:List (AU×Int))(x:AU×Int):gH (l++ [x])=fc (gH l) x:=by simp[gH]
theorem Gg(l m:List (AU×Int))(r:AU):Ai (l++m) r=Ai l r+Ai m r:=by simp[Ai]
theorem W4(x:AU×Int)(r:AU):Ai [x] r=if x.1=r then x.2 else 0:=by simp[Ai]
theorem aN{α:Type}{p:List α->Prop}(h0:p [])(h1:∀l x,p l->p (l++ [x]))(l:List α):p l:=by
 have:∀m:List α,p m.reverse:=λm=>by
  induction m with
  | nil=>exact h0
  | cons x r ih=>rw[List.reverse_cons];exact h1 _ _ ih
 have:=this l.reverse
 grind
theorem KW(l:List (AU×Int))(r:AU):Ac (gH l) r 0=Ai l r:=by
 revert r
 refine aN (p:=λl=>∀r,Ac (gH l) r 0=Ai l r) (λr=>rfl) (λl x a r=>?_) l;rw[YV,fc,HH,Gg,W4]
 grind
theorem Fd(l:List (AU×Int)):((gH l).map Prod.fst).Nodup:=
 aN (p:=λl=>((gH l).map Prod.fst).Nodup) (by simp[gH]) (λl x a=>by rw[YV];exact O9 a) l
theorem JJ(l:List (AU×Int))(r:AU):r∈(gH l).map Prod.fst↔r∈l.map Prod.fst:=by
 refine aN (p:=λl=>r∈(gH l).map Prod.fst↔r∈l.map Prod.fst) (by simp[gH]) (λl x a=>?_) l;rw[YV,fc,iS,a]
 simp[or_comm]
def Pg(l:List (AU×Int)):Prop:=∀x∈l,-1000000000000000<=x.2/\x.2<=1000000000000000
theorem IA{l:List (AU×Int)}(h:Pg l)(r:AU): -(l.length*1000000000000000)<=Ai l r/\Ai l r<=l.length*1000000000000000:=by
 induction l with
 | nil=>simp[Ai]
 | cons x l a=>
  grind[Ai,Pg]
structure j0 (i:AJ):Prop where
 po:i.po.length<=256
 pa:i.pa.length<=256
 af:i.af.length<=256
 d:∀p∈i.po,-Mx<=p.d/\p.d<=Mx
 n:∀p∈i.pa,0<=p.n/\p.n<=Mx
theorem Is(l:List Jk):(HT l).length=4*l.length:=by
 induction l with
 | nil=>rfl
 | cons p r a=>simp only[HT,List.flatMap_cons,Δ,jj] at a⊢;rw[a];simp[MY];omega
theorem o5(h:∀p∈f,-Mx<=p.d/\p.d<=Mx):Pg (EA f):=by grind[Pg,EA]
variable{t:Jk}
theorem o7(h:0<=t.n/\t.n<=Mx):Pg (MY t):=by grind[MY,Pg]
variable{o:List Jk}
theorem tu(h:∀p∈o,0<=p.n/\p.n<=Mx):Pg (HT o):=λx a=>by
 obtain ⟨p,b,a⟩:=ja.1 a;exact o7 (h p b) x a
variable{a:List (AU×Int)}
theorem Pg.append{m:List (AU×Int)}(h:Pg a)(c:Pg m):Pg (a++m):=λx b=>(ϖ.1 b).elim (h x) (c x)
theorem Pg.take(h:Pg a)(k:Nat):Pg (a.take k):=λx b=>h x (i8 b)
theorem Fc{l:List (AU×Int)}(h:Pg l)(a:l.length<=2000)(r:AU): -2000000000000000000<=Ac (gH l) r 0/\Ac (gH l) r 0<=2000000000000000000:=by
 have:=IA h r;rw[KW];omega
theorem Qz(a:k<f.length):EA (f.take (k+1))=EA (f.take k)++ [(Gy f[k],f[k].d)]:=by
 simp only[EA];rw[ψ a,Ω];rfl
theorem Qy(a:k<o.length):HT (o.take (k+1))=HT (o.take k)++MY o[k]:=by
 simp only[HT];rw[ψ a,List.flatMap_append];simp
def gS(M:List (AU×Int))(p:Jk):List (AU×Int):=BX M (CI p.f p.t) (Ac M (CI p.f p.t) 0-p.n)
def gR(M:List (AU×Int))(p:Jk):List (AU×Int):=BX M (CI p.t p.f) (Ac M (CI p.t p.f) 0+p.n)
def kM(M:List (AU×Int))(p:Jk):List (AU×Int):=BX M (DH p.f) (Ac M (DH p.f) 0-p.n)
def vc(M:List (AU×Int))(p:Jk):List (AU×Int):=BX M (DH p.t) (Ac M (DH p.t) 0+p.n)
variable{i:List (AU×Int)}
theorem bT{p:Jk}(h:i=gH a):gS i p=gH (a++ [(CI p.f p.t,-p.n)])/\gR (gS i p) p=gH (a++ [(CI p.f p.t,-p.n),(CI p.t p.f,p.n)])/\kM (gR (gS i p) p) p=gH (a++ [(CI p.f p.t,-p.n),(CI p.t p.f,p.n),(DH p.f,-p.n)])/\vc (kM (gR (gS i p) p) p) p=gH (a++MY p):=by
 subst h;have e:∀(a:List (AU×Int)) (x:AU×Int) (r:List (AU×Int)),a++x::r=(a++ [x])++r:=by simp
 refine ⟨?_,?_,?_,?_⟩
 .rw[YV];rfl
 .rw[e,YV,YV];rfl
 .rw[e,e,YV,YV,YV];rfl
 .rw[MY,e,e,e,YV,YV,YV,YV];rfl
theorem bP(h:i=gH a)(c:Pg a)(s:a.length<=1900)(g:0<=t.n/\t.n<=Mx)(r:AU):(-2000000000000000000<=Ac i r 0/\Ac i r 0<=2000000000000000000)/\(-2000000000000000000<=Ac (gS i t) r 0/\Ac (gS i t) r 0<=2000000000000000000)/\(-2000000000000000000<=Ac (gR (gS i t) t) r 0/\Ac (gR (gS i t) t) r 0<=2000000000000000000)/\(-2000000000000000000<=Ac (kM (gR (gS i t) t) t) r 0/\Ac (kM (gR (gS i t) t) t) r 0<=2000000000000000000):=by
 obtain ⟨o,k,j,_⟩:=bT (p:=t) h;have b:=o7 g;rw[j,k,o,h];refine ⟨Fc c (by omega) r,Fc (c.append λx f=>b x ?_) (by simp;omega) r,Fc (c.append λx f=>b x ?_) (by simp;omega) r,Fc (c.append λx f=>b x ?_) (by simp;omega) r⟩
 all_goals (grind[MY])
set_option maxHeartbeats 1000000 in
theorem RW(i:AJ)(j:j0 i):AP prog 125 [.d (Af i)] [] λr H=>r= .map 2 0/\H=[(2,[BY Bc AF (gH (gf i))])]:=by
 have E:=j.po;have G:=j.pa;refine Av func125 Z Z ntmps125 Z Z Z λF x=>(AC (AE ?_));refine V (Bh 1 Z Z Z Z Z Z Z) (AB Z Z (AD (AC (AE (V (Pc 2 Z Z Z Z) (AB Z Z (AD (AC ?_))))))));refine AC (AE (J (AK Z EZ Z Z Z) (J (AO Z Z Z Pp Z) (J (BS Z dd Z) (ek Z Z (AD (AZ (BM (α:=Nat×List (AU×Int)) (λq=>⟨80,[(1,(.ptr 1 0 0)),(3,(.map 2 0)),(10,(.d (.sl none (i.po.map BT)))),(11,(.d (AF (i.po.length:Int)))),(12,(.d (AF (q.1:Int))))],[(2,[BY Bc AF q.2]),(1,[.blk 55 [.d (AF i.id),.d (AF i.pr),.d (AF i.sq),.d (.sl none (i.po.map BT)),.d (.sl none (i.pa.map C4)),.d (.sl none (i.af.map AF))]])]⟩) (λq=>q.1<=i.po.length/\q.2=gH (EA (i.po.take q.1))) (λq=>i.po.length-q.1) ((0,[])) (⟨ζ _,Z⟩) (AX x [2,1] Z Z ⟨Z,Z,Z,Z,Z,trivial⟩) ?_))))))));rintro ⟨k,M⟩ ⟨z,w⟩;dsimp only at z w⊢;refine AC (AE (J (Az Z Z Z) (AD (AC (A6 Z (λs=>?_) (λs=>?_))))))
 .have c:k<i.po.length:=BQ s;refine AW (AC (AZ (AC (AE ?_))));have B:=j.d _ (ϑ c);simp only[Mx] at B;have A:=Fc (l:=EA (i.po.take k)) (o5 (RT j.d)) (by simp[EA];omega) (Gy i.po[k]);rw[<-w] at A;refine J (BC (k) Z Z (Z) (A1 c) dd Z Mh Z) (J (C7 Z Z bo Z) (V (Bx 3 QH Z Z Z Z) (V (B3 Z Z Z Z Z Z Z Mh) (AD (CK [[],[],[1],[1,2],[0,1,2,3],[],[5],rg 7,[0,1,2,3,5,6],[0,1,2,3,5,6,8],rg 10] mixed Z (Zr 2 ([BY Bc AF (Bd M (Gy i.po[k]) 0)]) Z ?_))))));refine Ap 3 Z Z (AR [5] Z (AK Z JY Z Z Z) (Ao [17] Z Z (λ_=>Aa (Ay Z Z bh Z Z Z)) (AR [18] Z (E5 KM T6 Z Z Z) (J1 [16,19] [] Z Z Z (λ_=>Aa (IV (M) (Gy i.po[k]) (0) _ Z Z Z CP CY P9 Z Z)) (λ_=>Aa (IV (Bd (M) (Gy i.po[k]) (0)) (Gy i.po[k]) (0) _ Z Z Z CP CY P9 (EV _ _ _ _) Z)) (AR [5] Z (AK Z Ng Z Z Z) (Ao [21] Z Z (λ_=>Aa (AO Z Z Z Fo Z)) (AR [20,22] Z (Aj Z Z (Ξ _ (by omega)) Z) (F6 [16,19] [2] [(24,_)] Z Z (λ_=>F7 (H3 (M) (Gy i.po[k]) (0) Z Z Z CP CY P9 Z Z)) (.inr ⟨24,_,Z,Z,Z,Z,Z⟩) Z Z Z Z Z ?_ (hCn:=RG Z)))))))));refine AR [24] Z (DC Z Z Z) (Bu 10 Z Z Z (Ab 11 Z Z (V (H5 (M) (Gy i.po[k]) (0) (Ac M (Gy i.po[k]) 0+i.po[k].d) Z Z Z CY Z Z) (AD ⟨Z,?_⟩))));refine Bz (AE (J (Aj Z Z (AN (k+1) (by omega)) Z) (ek Z Z (AD ?_))));exact ⟨(k+1,_),⟨by show k+1<=_;omega,by show _=gH (EA (i.po.take (k+1)));rw[Qz c,YV,<-w];rfl⟩,by show i.po.length-(k+1)<i.po.length-k;omega,AX x [2,1] Z (Z) ⟨Z,Z,Z,Z,Z,trivial⟩⟩
 .refine Aw (AC (AC ?_));have C:M=gH (EA i.po++HT (i.pa.take 0)):=by rw[w,η (by have h:=s;omega)];simp[HT]
  refine AE (J (AK Z Fx Z Z Z) (J (AO Z Z Z Tb Z) (J (BS Z dr Z) (ek Z Z (AD (AZ (BM (α:=Nat×List (AU×Int)) (λq=>⟨80,[(3,(.map 2 0)),(28,(.d (.sl none (i.pa.map C4)))),(29,(.d (AF (i.pa.length:Int)))),(30,(.d (AF (q.1:Int))))],[(2,[BY Bc AF q.2])]⟩) (λq=>q.1<=i.pa.length/\q.2=gH (EA i.po++HT (i.pa.take q.1))) (λq=>i.pa.length-q.1) ((0,M)) (⟨ζ _,C⟩) (AX x [2] Z Z ⟨Z,Z,Z,Z,trivial⟩) ?_)))))));rintro ⟨m,N⟩ ⟨y,v⟩;dsimp only at y v⊢;refine AC (AE (J (Az Z Z Z) (AD (AC (A6 Z (λo=>?_) (λo=>?_))))))
  .have b:m<i.pa.length:=BQ o;refine AW (AC (AZ (AC (AE ?_))));have u:=j.n _ (ϑ b);have a:=bP v ((o5 j.d).append (tu λq D=>j.n q (i8 D))) (by rw[Δ,Is];simp[EA];omega) u;simp only[Mx] at u;refine J (BC (m) Z Z (Z) (A1 b) dr Z Sr Z) (J (C7 Z Z bm Z) (V (Bx 4 nk Z Z Z Z) (V (B3 Z Z Z Z Z Z Z Sr) (AD (AC (CK [[],[],[1],[],[3],[1,2,3,4],rg 6,[],[7],rg 9,[0,1,2,3,4,5,7,8],[0,1,2,3,4,5,7,8,10],rg 12] mixed Z (Zr 2 ([BY Bc AF (Bd N (CI i.pa[m].f i.pa[m].t) 0)]) Z ?_)))))));refine Ap 3 Z Z (AR [7] Z (AK Z LP Z Z Z) (Ao [35] Z Z (λ_=>Aa (AO Z Z Z CJ Z)) (AR [7] Z (AK Z LO Z Z Z) (Ao [37] Z Z (λ_=>Aa (AO Z Z Z CJ Z)) (AR [36,38] Z (E5 KM T6 Z Z Z) (J1 [34,39] [] Z Z Z (λ_=>Aa (IV (N) (CI i.pa[m].f i.pa[m].t) (0) _ Z Z Z CP CY P9 Z Z)) (λ_=>Aa (IV (Bd (N) (CI i.pa[m].f i.pa[m].t) (0)) (CI i.pa[m].f i.pa[m].t) (0) _ Z Z Z CP CY P9 (EV _ _ _ _) Z)) (AR [7] Z (AK Z LN Z Z Z) (Ao [41] Z Z (λ_=>Aa (AO Z Z Z Fo Z)) ?_))))))));have g:=(a (CI i.pa[m].f i.pa[m].t)).1;refine AR [40,42] Z (P4 Z Z (Ξ _ (by omega)) Z) (F6 [34,39] [2] [(44,_)] Z Z (λ_=>F7 (H3 (N) (CI i.pa[m].f i.pa[m].t) (0) Z Z Z CP CY P9 Z Z)) (.inr ⟨44,_,Z,Z,Z,Z,Z⟩) Z Z Z Z Z ?_ (hCn:=RG Z));refine AR [44] Z (DC Z Z Z) (Bu 12 Z Z Z (Ab 13 Z Z (V (H5 (N) (CI i.pa[m].f i.pa[m].t) (0) (Ac N (CI i.pa[m].f i.pa[m].t) 0-i.pa[m].n) Z Z Z CY Z Z) (AD ⟨Z,?_⟩))));refine Bz (AC (CK [[],[],[1],[],[3],[1,2,3,4],rg 6,[],[7],rg 9,[0,1,2,3,4,5,7,8],[0,1,2,3,4,5,7,8,10],rg 12] mixed Z (Zr 2 ([BY Bc AF (Bd (gS N i.pa[m]) (CI i.pa[m].t i.pa[m].f) 0)]) Z ?_)));refine Ap 3 Z Z (AR [7] Z (AK Z LO Z Z Z) (Ao [47] Z Z (λ_=>Aa (AO Z Z Z CJ Z)) (AR [7] Z (AK Z LP Z Z Z) (Ao [49] Z Z (λ_=>Aa (AO Z Z Z CJ Z)) (AR [48,50] Z (E5 KM T6 Z Z Z) (J1 [46,51] [] Z Z Z (λ_=>Aa (IV (gS N i.pa[m]) (CI i.pa[m].t i.pa[m].f) (0) _ Z Z Z CP CY P9 Z Z)) (λ_=>Aa (IV (Bd (gS N i.pa[m]) (CI i.pa[m].t i.pa[m].f) (0)) (CI i.pa[m].t i.pa[m].f) (0) _ Z Z Z CP CY P9 (EV _ _ _ _) Z)) (AR [7] Z (AK Z LN Z Z Z) (Ao [53] Z Z (λ_=>Aa (AO Z Z Z Fo Z)) ?_))))))));have g:=(a (CI i.pa[m].t i.pa[m].f)).2.1;refine AR [52,54] Z (Aj Z Z (Ξ _ (by omega)) Z) (F6 [46,51] [2] [(56,_)] Z Z (λ_=>F7 (H3 (gS N i.pa[m]) (CI i.pa[m].t i.pa[m].f) (0) Z Z Z CP CY P9 Z Z)) (.inr ⟨56,_,Z,Z,Z,Z,Z⟩) Z Z Z Z Z ?_ (hCn:=RG Z));refine AR [56] Z (DC Z Z Z) (Bu 12 Z Z Z (Ab 13 Z Z (V (H5 (gS N i.pa[m]) (CI i.pa[m].t i.pa[m].f) (0) (Ac (gS N i.pa[m]) (CI i.pa[m].t i.pa[m].f) 0+i.pa[m].n) Z Z Z CY Z Z) (AD ⟨Z,?_⟩))));refine Bz (AC ?_);refine CK [[],[],[1],[1,2],[0,1,2,3],[],[5],rg 7,[0,1,2,3,5,6],[0,1,2,3,5,6,8],rg 10] mixed Z (Zr 2 ([BY Bc AF (Bd (gR (gS N i.pa[m]) i.pa[m]) (DH i.pa[m].f) 0)]) Z (Ap 3 Z Z (AR [7] Z (AK Z LP Z Z Z) (Ao [59] Z Z (λ_=>Aa (AO Z Z Z CJ Z)) (AR [60] Z (E5 KM T6 Z Z Z) (J1 [58,61] [] Z Z Z (λ_=>Aa (IV (gR (gS N i.pa[m]) i.pa[m]) (DH i.pa[m].f) (0) _ Z Z Z CP CY P9 Z Z)) (λ_=>Aa (IV (Bd (gR (gS N i.pa[m]) i.pa[m]) (DH i.pa[m].f) (0)) (DH i.pa[m].f) (0) _ Z Z Z CP CY P9 (EV _ _ _ _) Z)) (AR [7] Z (AK Z LN Z Z Z) (Ao [63] Z Z (λ_=>Aa (AO Z Z Z Fo Z)) ?_))))))));have g:=(a (DH i.pa[m].f)).2.2.1;refine AR [62,64] Z (P4 Z Z (Ξ _ (by omega)) Z) (F6 [58,61] [2] [(66,_)] Z Z (λ_=>F7 (H3 (gR (gS N i.pa[m]) i.pa[m]) (DH i.pa[m].f) (0) Z Z Z CP CY P9 Z Z)) (.inr ⟨66,_,Z,Z,Z,Z,Z⟩) Z Z Z Z Z ?_ (hCn:=RG Z));refine AR [66] Z (DC Z Z Z) (Bu 10 Z Z Z (Ab 11 Z Z (V (H5 (gR (gS N i.pa[m]) i.pa[m]) (DH i.pa[m].f) (0) (Ac (gR (gS N i.pa[m]) i.pa[m]) (DH i.pa[m].f) 0-i.pa[m].n) Z Z Z CY Z Z) (AD ⟨Z,?_⟩))));refine Bz ?_;refine CK [[],[],[1],[1,2],[0,1,2,3],[],[5],rg 7,[0,1,2,3,5,6],[0,1,2,3,5,6,8],rg 10] mixed Z (Zr 2 ([BY Bc AF (Bd (kM (gR (gS N i.pa[m]) i.pa[m]) i.pa[m]) (DH i.pa[m].t) 0)]) Z (Ap 3 Z Z (AR [7] Z (AK Z LO Z Z Z) (Ao [69] Z Z (λ_=>Aa (AO Z Z Z CJ Z)) (AR [70] Z (E5 KM T6 Z Z Z) (J1 [68,71] [] Z Z Z (λ_=>Aa (IV (kM (gR (gS N i.pa[m]) i.pa[m]) i.pa[m]) (DH i.pa[m].t) (0) _ Z Z Z CP CY P9 Z Z)) (λ_=>Aa (IV (Bd (kM (gR (gS N i.pa[m]) i.pa[m]) i.pa[m]) (DH i.pa[m].t) (0)) (DH i.pa[m].t) (0) _ Z Z Z CP CY P9 (EV _ _ _ _) Z)) (AR [7] Z (AK Z LN Z Z Z) (Ao [73] Z Z (λ_=>Aa (AO Z Z Z Fo Z)) ?_))))))));have g:=(a (DH i.pa[m].t)).2.2.2;refine AR [72,74] Z (Aj Z Z (Ξ _ (by omega)) Z) (F6 [68,71] [2] [(76,_)] Z Z (λ_=>F7 (H3 (kM (gR (gS N i.pa[m]) i.pa[m]) i.pa[m]) (DH i.pa[m].t) (0) Z Z Z CP CY P9 Z Z)) (.inr ⟨76,_,Z,Z,Z,Z,Z⟩) Z Z Z Z Z ?_ (hCn:=RG Z));refine AR [76] Z (DC Z Z Z) (Bu 10 Z Z Z (Ab 11 Z Z (V (H5 (kM (gR (gS N i.pa[m]) i.pa[m]) i.pa[m]) (DH i.pa[m].t) (0) (Ac (kM (gR (gS N i.pa[m]) i.pa[m]) i.pa[m]) (DH i.pa[m].t) 0+i.pa[m].n) Z Z Z CY Z Z) (AD ⟨Z,?_⟩))));refine Bz (AE (J (Aj Z Z (AN (m+1) (by omega)) Z) (ek Z Z (AD ?_))));exact ⟨(m+1,_),⟨by show m+1<=_;omega,by show _=gH (EA i.po++HT (i.pa.take (m+1)));rw[Qy b,<-jx];exact (bT v).2.2.2⟩,by show i.pa.length-(m+1)<i.pa.length-m;omega,AX x [2] Z (Z) ⟨Z,Z,Z,Z,trivial⟩⟩
  .refine Aw (AC (AE (ek Z Z (AB Z Z (AD (A2 ?_))))));exact ⟨_,[2],_,A0 Z,Z,Z,Z,by rw[v,η (by have h:=o;omega)]<;>rfl⟩
end Go.Proofs.YteifpcnphnhaoaaGreat
