import Derived.Test.YteifpcnphnhaoaaGreatMg15
import Derived.SizedLaws
open Go.Proofs.Tryz
namespace Go.Proofs.YteifpcnphnhaoaaGreat
open Go.ChangeShapes Go.WideShapes Go.ChangeAt Go.RowKit Go.Deep
variable {a:Nat ->Nat ->Value} {w:World} {c:Nat ->Prop} {d:D}
abbrev noB:Nat ->Prop:=λ_=>False
def Pm (w:World) (d:D) (cs:List Value):Prop:=cs.length=d.cells.length/\(∀c∈d.cells,c.one=true)/\∀(j:Nat) c u,d.cells[j]? =some c ->cs[j]? =some u ->A1 w noB c u
theorem Kc {u:Value} (a:d.one=true) (h:A1 w noB d u):Pm w d [u]:=by grind [Pm,D.cells_one]
theorem Pm.arg1 {v:Value} (g:c=noB) (e:d.one=true) (b:v.oneCell'=true) (h:Pm w d v.cells.toList):A9 w c a (.d d) v:=by
 subst g;have f:v.cells.toList=[v]:=by cases v<;>first | rfl | cases b
 rw [f,Pm,D.cells_one e] at h;exact .d (h.2.2 0 d v Z Z)
theorem Pm.argS {w:World} {b:Nat ->Nat ->Value} {O:Nat ->Prop} {a:List D} {cs:Array Value} (c:O=noB) (h:Pm w (.agg a) (Value.agg cs).cells.toList):A9 w O b (.d (.agg a)) (.agg cs):=by
 subst c;obtain ⟨g,f,e⟩:=h;have:=A1.agg (w:=w) (O:=noB) (cs:=a) (vs:=cs.toList) g f e;exact .d (by simpa using this)
section
variable {H:Type} {enc:TypeId×Value ->H} {P:Program} {w:World}
variable {a:Type} {Q:a ->Prop} {t:TypeId} {c:a ->D} {k d:Nat} {e:TypeId} {f:Type}
def CZ {α:Type} (enc:TypeId×Value ->H) (P:Program) (w:World) (t:TypeId) (k:Nat) (emb:α ->D) (Q:α ->Prop):Prop:=
 ∀fuel cs x,DataW.trod enc P w 0 (λ_=>true) true fuel t cs=some x ->(∀p∈x.2,p.block<w.heap.size) ->(∀n∈x.1.weights P t,n<=reachBytes) ->∃a,Q a/\(emb a).cells.length=k/\Pm w (emb a) cs
theorem OK {l:List (DataW H)} {d:DataW H} (b:d∈l) {n:Nat} (f:n∈d.weights P e):n∈DataW.weightsAll P e l:=by
 induction l with
 | nil=>cases b
 | cons a r c=>
  grind [DataW.weightsAll]
theorem Xb {k:IntKind} (c:P.underlying t=some (.int k)):CZ enc P w t 1 (λz:Int=> .raw (.int k z)) (λz=>k.min<=z/\z<=k.max):=λb d x h _ _=>by
 obtain ⟨z,rfl,_,a⟩:=DataW.trod_int c h;simp only [Lit.wf,ωd,ψv] at a;exact ⟨z,a,Z,Kc Z (.raw Z)⟩
theorem openStr (c:P.underlying t=some .string):CZ enc P w t 1 (λs:ByteArray=> .raw (.string s)) (λs=>s.size<=140737488351232):=λa e x h _ b=>by
 obtain ⟨s,rfl,rfl,d⟩:=DataW.trod_string c h;exact ⟨s,by simpa [DataW.weights,reachBytes] using b,Z,Kc Z (.raw Z)⟩
theorem MK {b:Nat} (T:P.underlying t=some (.slice e)) (Y:P.cellsOf e=k) (V:0<k) (K:P.bytesOf e=b) (hO:CZ enc P w e k c Q):CZ enc P w t 1 (λl:List a=> .sl none (l.map c)) (λl=>(∀f∈l,Q f)/\l.length*b<=140737488351232):=λfuel cs x h G D=>by
 rcases open_slice T h with ⟨rfl,rfl⟩ | ⟨f,q,cap,m,n,Dd,Pl,rfl,_,hl,hm,E,rfl,hi⟩
 .refine ⟨[],⟨by simp,by simp⟩,Z,Kc Z (.sl k (λb K=>by cases K) (λ_=>rfl) Z (Γ _) (ζ _) (by simp) (by simp) (λb o e=>by cases e))⟩
 .simp only [if_true] at E;subst E
  have M:∀i,i<q ->∃y:a,Q y/\(c y).cells.length=k/\∃g:List Value,Pm w (c y) g/\∀j,j<k ->w.cell? ((f.add (i*k)).add j)=g[j]?:=by
   intro i J;obtain ⟨g,B,S⟩:=hi i (by omega)
   obtain ⟨y,X,R,hr⟩:=hO _ _ _ S (λp hp=>G p (by
    simp only [ϖ,χl,Ψ]
    exact .inr ⟨i,by omega,hp⟩)) (λn hn=>D n (by
    simp only [DataW.weights,T,Υ,ϖ]
    exact .inr (.inl (OK (Ξ.2 ⟨i,Ψ.2 J,Z⟩) hn))))
   obtain ⟨_,v,L⟩:=World.cells?_some B;rw [Y] at L;exact ⟨y,X,R,g,hr,L⟩
  obtain ⟨l,I,s⟩:=list_of q M;refine ⟨l,⟨λy u=>?_,?_⟩,Z,Kc Z (.sl k (λb K=>by cases K) (λe=>by cases e) (by rw [χ];exact I) hl hm (λx r=>?_) (λU=>?_) (λb o e i x r=>?_))⟩
  .obtain ⟨i,z,rfl⟩:=ωq u;exact (s i _ (ω z)).1
  .have A:=D ((q+(m - q))*P.bytesOf e) (by simp [DataW.weights,T]);rw [K] at A;have C:=ψa b (show l.length<=q+(m - q) by omega);have O:reachBytes=140737488351232:=rfl;omega
  .obtain ⟨y,u,rfl⟩:=Ξ.1 r;obtain ⟨i,z,rfl⟩:=ωq u;exact (s i _ (ω z)).2.1
  .have h0:0<l.length:=by
    cases l with
    | nil=>exact absurd Z U
    | cons _ _=>simp
   obtain ⟨_,A,g,C,O⟩:=s 0 _ (ω h0);have h4:=O 0 V;have v:g.length=k:=by rw [C.1,A]
   rw [ω (by omega)] at h4;have:f.spot=none:=by simpa [Addr.add] using World.cell?_spot h4
   exact ⟨f.block,f.off,by cases f;simp_all⟩
  .rw [ν] at r
   cases u:l[i]? with
   | none=>rw [u] at r;cases r
   | some y=>
    rw [u] at r;injection r with r
    subst r;obtain ⟨X,A,g,C,O⟩:=s i y u;injection e with e
    subst e;have v:g.length=k:=by rw [C.1,A]
    have J:i<q:=by rw [<-I];exact (φ.1 u).1
    have W:∀j,j<k ->w.cell? ⟨b,o+i*k+j,none⟩=g[j]?:=λj N=>by
     have:=O j N
     rwa [Go.WideShapes.add_plain,Go.WideShapes.add_plain] at this
    refine .ptr (λj=>g.getD j undef) ?_ (λh=>h) C.2.1 (λj d B=>?_) (λj d B=>?_)
    .have F:MemPlace.cell b (o+i*k)∈MemPlace.row ⟨b,o,none⟩ (m*P.cellsOf e):=MemPlace.mem_row.2 ⟨i*k,by
      rw [Y];have:(i+1)*k<=m*k:=ψa _ (by omega)
      rw [φf] at this;omega,Z⟩
     exact G _ (ψo _ F)
    .have N:j<k:=by rw [<-A];exact (φ.1 B).1
     rw [W j N,Φ,ω (by omega)];rfl
    .have N:j<k:=by rw [<-A];exact (φ.1 B).1
     rw [Φ,ω (by omega)];exact C.2.2 j d _ B (ω (by omega))
def Sj {α:Type} (enc:TypeId×Value ->H) (P:Program) (w:World) (off total:Nat) (fs:List Field) (emb:α ->List D) (Q:α ->Prop):Prop:=
 ∀n (cs:List Value),cs.length=total ->(∀(i:Nat) f,fs[i]? =some f ->∃x,DataW.trod enc P w 0 (λ_=>true) true n f.type ((cs.drop f.offset).take (P.cellsOf f.type))=some x/\(∀p∈x.2,p.block<w.heap.size)/\∀n∈x.1.weights P f.type,n<=reachBytes)→
  ∃a,Q a/\off+(emb a).length=total/\(∀c∈emb a,c.one=true)/\∀(j:Nat) c u,(emb a)[j]? =some c ->cs[off+j]? =some u ->A1 w noB c u
theorem Ju:Sj enc P w d d [] (λ_:Unit=> []) (λ_=>True):=λn a _ _=>⟨(),trivial,Z,by simp,by simp⟩
theorem CI {m:Nat} {e:Field} {A:List Field} {p:f ->List D} {B:f ->Prop} (K:e.offset=m) (L:P.cellsOf e.type=k) (O:CZ enc P w e.type k c Q) (N:Sj enc P w (m+k) d A p B):
  Sj enc P w m d (e::A) (λl:a×f=>(c l.1).cells++p l.2) (λl=>Q l.1/\B l.2):=λn R v z=>by
 obtain ⟨x,I,J,t⟩:=z 0 e rfl;obtain ⟨l,G,q,s⟩:=O _ _ _ I J t;obtain ⟨b,F,S,E,C⟩:=N n R v (λi g M=>z (i+1) g (by simpa using M));rw [K,L] at s;refine ⟨(l,b),⟨G,F⟩,by simp only [Δ,q];omega,λh o=>?_,λj h u o y=>?_⟩
 .rcases ϖ.1 o with o | o
  .exact s.2.1 h o
  .exact E h o
 .rcases Nat.lt_or_ge j k with r | r
  .rw [φb (by rw [q];exact r)] at o;exact s.2.2 j h u o (by rw [χg,ς r,χh];exact y)
  .rw [List.getElem?_append_right (by rw [q];exact r),q] at o;exact C (j - k) h u o (by rw [show m+k+(j - k)=m+j by omega];exact y)
theorem Jt {v:Type} {t:TypeId} {s:Array Field} {k:Nat} {e:v ->List D} {Q:v ->Prop} (y:P.underlying t=some (.struct s)) (A:P.cellsOf t=k) (h:Sj enc P w 0 k s.toList e Q):CZ enc P w t k (λa=> .agg (e a)) Q:=λB C x I r q=>by
 obtain ⟨m,n,_,rfl,z,l,N⟩:=DataW.trod_struct y I
 obtain ⟨a,G,o,F,E⟩:=h n C (by rw [z,A]) (λi f M=>by
  have g:s[i]? =some f:=by simpa using M
  have b:i<m.length:=by rw [l];exact (ωn.1 g).1
  refine ⟨m[i],by rw [N i f g];exact ω b,λp K=>r p (χl.2 ⟨_,ϑ b,K⟩),λn L=>q n ?_⟩;simp only [DataW.weights,y]
  refine DataW.weights_mem_each (j:=i) (t:=f.type) (d:=m[i].1) (by rw [ν];simp [g]) (by rw [ν,ω b];rfl) n L)
 rw [ψu] at o;exact ⟨a,G,o,by show C.length=_;rw [z,A];exact o.symm,F,λj c u O J=>E j c u O (by rw [ψu];exact J)⟩
theorem CZ.as {e:f ->D} {g:f ->Prop} (h:CZ enc P w t k c Q) (b:a ->f) (j:∀d,c d=e (b d)) (i:∀d,Q d ->g (b d)):CZ enc P w t k e g:=by grind [CZ]
end
theorem Zp {P:Program} {f:FuncId} {k:List AV} (h:AM P f k (.raw (.bool true))) {w:World} {vs:List Value} (y:vs.length=k.length) (x:∀(i:Nat) a v,k[i]? =some a ->vs[i]? =some v ->A9 w noB (λ_ _=>undef) a v):
  Calls P f vs.toArray w λe s=>e= .returned (.bool true)/\Below w.heap.size w s:=by
 have l:∀c b,¬BK c [] b:=λc b ⟨_,_,_,h,_⟩=>nomatch h
 let c:Nat ->Nat ->Value:=λ_ _=>undef
 let F:Fr:=Fr.mk none (.marks w.heap.size) w noB (BK c []) (Cp c []) (λb n=>n.elim) [] (λ_ _ _ h=>D9 h)
 have A:F.O c []=noB:=funext λb=>propext ⟨λh=>h.elim id λh=>(l c b h).elim,λh=>h.elim⟩
 have m:Ba F [] c w:=⟨(λf i o p=>nomatch p),(λf i H G o E b p=>nomatch p),λb n=>(l c b n).elim,Z,Z,Z,Γ _,λ_ _ _=>rfl,λf i b n=>ZcC n,Γ _⟩
 refine (h.2 F c vs Z Z ⟨Z,Z,Z⟩ m y (λi a v z u=>by rw [A];exact x i a v z u)).mono λe s ⟨v,r,I,t,D,⟨C,B⟩,g,j⟩=>?_;subst D C B;refine ⟨?_,j.os,j.tape,j.output,j.size0,λb q=>j.keep b q (l c b)⟩
 cases g with
 | d g=>
  cases g with
  | raw _=>rfl
end Go.Proofs.YteifpcnphnhaoaaGreat
namespace Go.Proofs.YteifpcnphnhaoaaGreat
open Go.ChangeShapes Go.WideShapes Go.ChangeAt Go.RowKit
section
variable {H:Type} {enc:TypeId×Value ->H} {P:Program} {w:World}
variable {t:TypeId}
theorem CZ.asQ {e d:Type} {k:Nat} {c:e ->D} {Q:e ->Prop} {b:d ->D} {g:d ->Prop} (h:CZ enc P w t k c Q) (f:e ->d) (j:∀a,Q a ->c a=b (f a)) (i:∀a,Q a ->g (f a)):CZ enc P w t k b g:=by grind [CZ]
theorem Xc (a:P.underlying t=some (.int .i64)):CZ enc P w t 1 (λn:Int=> .raw (.int .i64 n)) (λn=> -9223372036854775808<=n/\n<=9223372036854775807):=
 (Xb a).asQ id (λ_ _=>rfl) (λ_ h=>h)
theorem cw (b:P.underlying t=some .string):CZ enc P w t 1 Aq (λl=>l.length<=140737488351232):=
 (openStr b).asQ (λs=>s.data.toList) (λa _=>rfl) (λa h=>by simpa using h)
end
end Go.Proofs.YteifpcnphnhaoaaGreat
namespace Go.Proofs.YteifpcnphnhaoaaGreat
open Go.RowKit
variable {M:List (List UInt8×Int)} {k:Nat} {c:Type} {e:List c} {f:c ->Int} {q:Prop} {E:Int} {x:c}
set_option maxRecDepth 100000
abbrev AF (z:Int):D:= .raw (.int .i64 z)
structure Sl where
 o:List UInt8
 k:Int
 a:List UInt8
structure AW where
 k:Int
 acc:Sl
 f:List UInt8
 t:List UInt8
structure EC where
 acc:Sl
 d:Int
structure Jl where
 f:List UInt8
 t:List UInt8
 n:Int
structure AJ where
 id:Int
 pr:Int
 sq:Int
 po:List EC
 pa:List Jl
 af:List Int
structure Ae where
 r:AW
 n:Int
structure Prb where
 ro:List Ae
 it:List AJ
theorem Sl.eq_iff {x y:Sl}:x=y↔x.o=y.o/\x.k=y.k/\x.a=y.a:=by cases x;cases y;simp
instance:DecidableEq Sl:=λ_ _=>decidable_of_iff _ Sl.eq_iff.symm
theorem AW.eq_iff {x y:AW}:x=y↔x.k=y.k/\x.acc=y.acc/\x.f=y.f/\x.t=y.t:=by cases x;cases y;simp
instance:DecidableEq AW:=λ_ _=>decidable_of_iff _ AW.eq_iff.symm
abbrev accD (x:Sl):D:= .agg [Aq x.o,AF x.k,Aq x.a]
abbrev Bd (x:AW):D:= .agg [AF x.k,Aq x.acc.o,AF x.acc.k,Aq x.acc.a,Aq x.f,Aq x.t]
abbrev BV (x:EC):D:= .agg [Aq x.acc.o,AF x.acc.k,Aq x.acc.a,AF x.d]
abbrev C8 (x:Jl):D:= .agg [Aq x.f,Aq x.t,AF x.n]
abbrev Af (x:AJ):D:= .agg [AF x.id,AF x.pr,AF x.sq,.sl none (x.po.map BV),.sl none (x.pa.map C8),.sl none (x.af.map AF)]
abbrev Bl (x:Ae):D:= .agg [AF x.r.k,Aq x.r.acc.o,AF x.r.acc.k,Aq x.r.acc.a,Aq x.r.f,Aq x.r.t,AF x.n]
abbrev Bg (x:Prb):D:= .agg [.sl none (x.ro.map Bl),.sl none (x.it.map Af)]
def NZ (x:AW):List Value:=[.int .i64 x.k,Gr x.acc.o,.int .i64 x.acc.k,Gr x.acc.a,Gr x.f,Gr x.t]
def Na (x:Sl):List Value:=[Gr x.o,.int .i64 x.k,Gr x.a]
abbrev cK:List TypeDesc:=[.int .i64,.string,.int .i64,.string,.string,.string]
abbrev fv:List TypeDesc:=[.string,.int .i64,.string]
theorem Fz (a b:Int):P0 (.int .i64 a) (.int .i64 b)=decide (a=b):=by
 simp only [P0];exact Bool.beq_eq_decide_eq a b
theorem Fy (a b:List UInt8):P0 (Gr a) (Gr b)=decide (a=b):=by
 simp only [P0,Gr,<-beq_toListBytes,RX]
theorem Ng (a b:AW):BX (NZ a) (NZ b)=decide (a=b):=by grind [NZ,BX,Fz,Fy,AW.eq_iff,Sl.eq_iff]
theorem OD (a b:Sl):BX (Na a) (Na b)=decide (a=b):=by grind [Na,BX,Fz,Fy,Sl.eq_iff]
theorem Pi {d:TypeDesc} {b:List TypeDesc} {u:Value} {a:List Value} (h:MapKept.IsKey d u) (c:BH b a):BH (d::b) (u::a):=by grind [BH]
theorem Gy:BH [] []:=⟨Z,by simp⟩
theorem EP (a:AW):BH cK (NZ a):=Pi Z (Pi trivial (Pi Z (Pi trivial (Pi trivial (Pi trivial Gy)))))
theorem Dh (a:Sl):BH fv (Na a):=Pi trivial (Pi Z (Pi trivial Gy))
theorem rsc_val (a:AW):(Bd a).val? =some (.agg (NZ a).toArray):=rfl
theorem C4:Bv prog 64 Bd (λa=> .agg (NZ a).toArray):=Bv.flat (ds:=cK) (by kernel_rfl) (by kernel_rfl) rsc_val EP Ng
theorem RW {a:List (Nat×Option (List AN))} {f:Nat} {d b:List AN} (h:Bh a f=some (some b)):∀g c,Bh a g=some c ->C2 f d b g c:=by grind
theorem O6 {p:Prop} [Decidable p] [Decidable q] (h:p↔q):AV.d (.raw (.bool (decide p)))= .d (.raw (.bool (decide q))):=by rw [decide_eq_decide.2 h]
theorem Rg [Decidable q] (h:q):AV.d (.raw (.bool true))= .d (.raw (.bool (decide q))):=by rw [ωf h]
theorem DK [Decidable q] (h:¬q):AV.d (.raw (.bool false))= .d (.raw (.bool (decide q))):=by rw [ωh h]
theorem A0 {a b:Int} (h:a=b):AV.d (.raw (.int .i64 a))= .d (.raw (.int .i64 b)):=by rw [h]
theorem AK (n:Nat) (h:n<=9223372036854775807):IntKind.i64.wrap (n:Int)=(n:Int):=Θ _ (by omega)
theorem IU (n b c:Int):AM prog 167 [.d (AF n),.d (AF b),.d (AF c)] (.raw (.bool (decide (b<=n/\n<=c)))):=by
 refine Ax func167 Z Z ntmps167 Z Z Z λF e=>(AD (AE ?_));refine AB Z Z (AC (AD (AE (goMv Z Z (goMv Z Z (J (EM Z Z Z) (goMv Z Z (CX 10 Z (λa=>?_) (λa=>?_)))))))))
 .refine AR Z Z Z ?_;refine goMv Z Z (AR Z Z Z (goMv Z Z (AR Z Z Z (J (Vu Z Z Z) (J (BY Z Z Z Z) (AB Z Z (AC (AZ ?_))))))));exact ⟨_,[],[],AY Z,Z,Z,by first | exact O6 (by omega) | exact DK (by omega),rfl⟩
 .refine AI Z Z Z Z (AI Z Z Z Z (AI Z Z Z Z (J (Bf Z Z Z Z) (AB Z Z (AC (AZ ?_))))));exact ⟨_,[],[],AY Z,Z,Z,by first | exact O6 (by omega) | exact DK (by omega),rfl⟩
theorem HX (n b c:Int):AM prog 178 [.d (AF n),.d (AF b),.d (AF c)] (.raw (.bool (decide (b<=n/\n<=c)))):=by
 refine Ax func178 Z Z ntmps178 Z Z Z λF e=>(AD (AE ?_));refine AB Z Z (AC (AD (AE (goMv Z Z (goMv Z Z (J (EM Z Z Z) (goMv Z Z (CX 10 Z (λa=>?_) (λa=>?_)))))))))
 .refine AR Z Z Z ?_;refine goMv Z Z (AR Z Z Z (goMv Z Z (AR Z Z Z (J (Vu Z Z Z) (J (BY Z Z Z Z) (AB Z Z (AC (AZ ?_))))))));exact ⟨_,[],[],AY Z,Z,Z,by first | exact O6 (by omega) | exact DK (by omega),rfl⟩
 .refine AI Z Z Z Z (AI Z Z Z Z (AI Z Z Z Z (J (Bf Z Z Z Z) (AB Z Z (AC (AZ ?_))))));exact ⟨_,[],[],AY Z,Z,Z,by first | exact O6 (by omega) | exact DK (by omega),rfl⟩
theorem I4 (n:Int):AM prog 100 [.d (AF n)] (.raw (.bool (decide (0<=n/\n<=1000000000)))):=by
 refine Ax func100 Z Z ntmps100 Z Z Z λF b=>(AD ?_);refine AE (AB Z Z (AC (AD (AE (goMv Z Z (J (EM Z Z Z) (goMv Z Z (CX 5 Z (λa=>?_) (λa=>?_)))))))))
 .refine AR Z Z Z (goMv Z Z (AR Z Z Z (J (Vu Z Z Z) (J (BY Z Z Z Z) (AB Z Z (AC (AZ ?_)))))));exact ⟨_,[],[],AY Z,Z,Z,by first | exact O6 (by omega) | exact DK (by omega),rfl⟩
 .refine AI Z Z Z Z (AI Z Z Z Z (J (Bf Z Z Z Z) (AB Z Z (AC (AZ ?_)))));exact ⟨_,[],[],AY Z,Z,Z,by first | exact O6 (by omega) | exact DK (by omega),rfl⟩
theorem nan_p (n:Int):AM prog 211 [.d (AF n)] (.raw (.bool false)):=by
 refine Ax func211 Z Z ntmps211 Z Z Z λF a=>(AD (AE (AB Z Z ?_)));refine AC (AD (AE (goMv Z Z (goMv Z Z (J (C7 Z Z Z) (AB Z Z (AC (AZ ?_))))))));exact ⟨_,[],[],AY Z,Z,Z,by simp,Z⟩
theorem dS (l:List UInt8):AM prog 239 [.d (Aq l)] (.raw (.bool false)):=by
 refine Ax func239 Z Z ntmps239 Z Z Z λF a=>(AD (AE (AB Z Z ?_)));refine AC (AD (AE (goMv Z Z (goMv Z Z (J (DH Z Z Z) (AB Z Z (AC (AZ ?_))))))));exact ⟨_,[],[],AY Z,Z,Z,by simp,Z⟩
def Cf (a b:Int):Int:=if a<b then -1 else if b<a then 1 else 0
def Rx (a b:List UInt8):Bool:=Op.bytesLess a b
def CS (a b:List UInt8):Int:=if Rx a b=true then -1 else if Rx b a=true then 1 else 0
theorem ZcD (a b:List UInt8):Op.bytesLess (⟨a.toArray⟩:ByteArray).toList (⟨b.toArray⟩:ByteArray).toList=Rx a b:=by rw [Lib.toList_data,Lib.toList_data];rfl
theorem S6 (a b:Int):AM prog 166 [.d (AF a),.d (AF b)] (AF (Cf a b)):=by
 refine Ax func166 Z Z ntmps166 Z Z Z λF f=>(AD (AE ?_));refine AB Z Z (AC (AD (AE (goMv Z Z (J (Aw (nan_p a) Z Z) (AB Z Z (AC (AD ?_))))))));refine AE (goMv Z Z (J (Aw (nan_p b) Z Z) (AB Z Z (AC (AD (AD (AE (goMv Z Z ?_))))))));refine AC (Cu Z (Z) (AX (AD (AD (AE (goMv Z Z (AC (Cu Z (Z) ?_))))))));refine AX (AD (AD (AE (goMv Z Z (goMv Z Z (J (Az Z Z Z) (AC (A7 Z (λe=>?_) (λe=>?_)))))))))
 .refine AD (AE (AB Z Z (AC (AZ ?_))));exact ⟨_,[],[],AY Z,Z,Z,by first | exact A0 (by unfold Cf;rw [ς (by assumption)]) | exact A0 (by unfold Cf;rw [η (by assumption),ς (by omega)]) | exact A0 (by unfold Cf;rw [η (by assumption),η (by omega)]),Z⟩
 .refine AX (AD (AD (AE (goMv Z Z (goMv Z Z (J (Gi Z Z Z) (AC (A7 Z (λc=>?_) (λc=>?_)))))))))
  .refine AD (AE (AB Z Z (AC (AZ ?_))));exact ⟨_,[],[],AY Z,Z,Z,by first | exact A0 (by unfold Cf;rw [ς (by assumption)]) | exact A0 (by unfold Cf;rw [η (by assumption),ς (by omega)]) | exact A0 (by unfold Cf;rw [η (by assumption),η (by omega)]),Z⟩
  .refine AX (AD (AE (AB Z Z (AC (AZ ?_)))));exact ⟨_,[],[],AY Z,Z,Z,by first | exact A0 (by unfold Cf;rw [ς (by assumption)]) | exact A0 (by unfold Cf;rw [η (by assumption),ς (by omega)]) | exact A0 (by unfold Cf;rw [η (by assumption),η (by omega)]),Z⟩
theorem S5 (a b:List UInt8):AM prog 196 [.d (Aq a),.d (Aq b)] (AF (CS a b)):=by
 refine Ax func196 Z Z ntmps196 Z Z Z λF f=>(AD (AE ?_));refine AB Z Z (AC (AD (AE (goMv Z Z (J (Aw (dS a) Z Z) (AB Z Z (AC (AD ?_))))))));refine AE (goMv Z Z (J (Aw (dS b) Z Z) (AB Z Z (AC (AD (AD (AE (goMv Z Z ?_))))))));refine AC (Cu Z (Z) (AX (AD (AD (AE (goMv Z Z (AC (Cu Z (Z) ?_))))))));refine AX (AD (AD (AE (goMv Z Z (goMv Z Z (J (XW Z Z Z) (AC (JC Z (λc=>?_) (λc=>?_)))))))))
 .rw [ZcD] at c;refine AD (AE (AB Z Z (AC (AZ ?_))));exact ⟨_,[],[],AY Z,Z,Z,by first | exact A0 (by unfold CS;rw [ς c]) | exact A0 (by unfold CS;rw [η (by rw [c];decide),ς e]) | exact A0 (by unfold CS;rw [η (by rw [c];decide),η (by rw [e];decide)]),Z⟩
 .rw [ZcD] at c;refine AX (AD (AD (AE (goMv Z Z (goMv Z Z (J (XY Z Z Z) (AC (JC Z (λe=>?_) (λe=>?_)))))))))
  .rw [ZcD] at e;refine AD (AE (AB Z Z (AC (AZ ?_))));exact ⟨_,[],[],AY Z,Z,Z,by first | exact A0 (by unfold CS;rw [ς c]) | exact A0 (by unfold CS;rw [η (by rw [c];decide),ς e]) | exact A0 (by unfold CS;rw [η (by rw [c];decide),η (by rw [e];decide)]),Z⟩
  .rw [ZcD] at e;refine AX (AD (AE (AB Z Z (AC (AZ ?_)))));exact ⟨_,[],[],AY Z,Z,Z,by first | exact A0 (by unfold CS;rw [ς c]) | exact A0 (by unfold CS;rw [η (by rw [c];decide),ς e]) | exact A0 (by unfold CS;rw [η (by rw [c];decide),η (by rw [e];decide)]),Z⟩
abbrev Mx:Int:=1000000000000000
def BQ:List Int ->Int
 | []=>0
 | e::r=>if e=0 then BQ r else e
theorem aJ (a:k<e.length):BQ ((e.drop k).map f)=if f e[k]=0 then BQ ((e.drop (k+1)).map f) else f e[k]:=by
 rw [χo a];rfl
theorem DP (a:¬k<e.length):BQ ((e.drop k).map f)=0:=by
 rw [χp (by omega)];rfl
theorem Zcx {l:List c} {k:Nat} (a:k<l.length) (h:E=BQ ((l.drop k).map f)):(f l[k]=0 ->E=BQ ((l.drop (k+1)).map f))/\∀e,f l[k]=e ->e≠0 ->e=E:=by grind [aJ]
def I5 (p:EC):Int:=if p.acc.o=[]\/p.acc.a=[] then 6 else if ¬(0<=p.acc.k/\p.acc.k<=4) then 11 else if ¬(-Mx<=p.d/\p.d<=Mx) then 12 else 0
def J7 (p:Jl):Int:=if p.f=[]\/p.t=[] then 6 else if p.f=p.t then 7 else if ¬(0<=p.n/\p.n<=Mx) then 2 else 0
def Mo (id:Int) (l:List Int) (k:Nat):Int:=if ¬(0<=l.getD k 0/\l.getD k 0<=1000000000) then 2 else if l.getD k 0=id\/l.getD k 0∈l.take k then 7 else 0
def Fj (i:AJ):Int:=BQ (i.po.map I5)
def Kh (i:AJ):Int:=BQ (i.pa.map J7)
def N9 (i:AJ):Int:=BQ ((List.range i.af.length).map (Mo i.id i.af))
def Bq (l:List EC) (a:List UInt8):Int:=(l.map λp=>if p.acc.a=a then p.d else 0).sum
def La (i:AJ):Int:=if ∃p∈i.po,Bq i.po p.acc.a≠0 then 14 else 0
theorem Dx (b:k<e.length) (h:x∉e.take k) (a:x≠e[k]):x∉e.take (k+1):=by
 rw [ψ b,ϖ]
 simp [h,a]
theorem Id (a:¬k<e.length) (h:x∉e.take k):x∉e:=by
 rwa [θ (by omega)] at h
def W3 (x:Int) (l:List Int):Int:=if x∈l then (l.idxOf x:Int) else -1
theorem U2 {l:List Int} {x:Int} (a:k<l.length) (h:x∉l.take k) (b:x=l[k]):W3 x l=(k:Int):=by grind [W3,χo,χy]
theorem YL (l:List Int) (x:Int) (g:l.length<=140737488355328):AM prog 176 [.d (.sl none (l.map AF)),.d (AF x)] (AF (W3 x l)):=by
 refine Ax func176 Z Z ntmps176 Z Z Z λF i=>(AD (AE (AB Z Z (AC ?_))));refine AD (AD (AE (goMv Z Z (J (BU Z underlying28 Z) (goMv Z Z (AC (A2 (Gh (α:=Nat) (λk=>⟨19,[(0,.d (.sl none (l.map AF))),(1,.d (AF x)),(7,(.d (AF (l.length:Int)))),(8,(.d (AF (k:Int))))],[]⟩) (λk=>k<=l.length/\x∉l.take k) (λk=>l.length - k) (0) (⟨ζ _,by simp⟩) (al ⟨Z,Z,Z,Z,trivial⟩) ?_))))))));rintro k ⟨f,c⟩;refine AD (AE (J (Az Z Z Z) (AC (AD (A7 Z (λe=>?_) (λe=>?_))))))
 .have a:k<l.length:=BR e;refine AX (AD (A2 (AD (AE (goMv Z Z (AB Z Z (AC (AD ?_))))))));refine AE (goMv Z Z (goMv Z Z (goMv Z Z (J (BC (k) Z Z (Z) (A3 a) underlying28 Z BD Z) (J (CF Z Z Ai Z) (J (FC Z Z Z) (AC (A7 Z (λb=>?_) (λb=>?_)))))))))
  .refine AD (AE (goMv Z Z (AB Z Z (AC (AZ ?_)))));exact ⟨_,[],[],AY Z,Z,Z,A0 (U2 a c b).symm,Z⟩
  .refine AX (AE (J (Ah Z Z (AK (k+1) (by omega)) Z) (goMv Z Z (AC ?_))));exact ⟨k+1,⟨by show k+1<=_;omega,Dx a c b⟩,by show l.length - (k+1)<l.length - k;omega,⟨Z,Z,λ_ _=>Sr.get (l:=[(0,_),(1,_),(7,_),(8,_)]) ⟨Z,Z,Z,Z,trivial⟩⟩⟩
 .refine Ar (AD (AE (AB Z Z (AC (AZ ?_)))));exact ⟨_,[],[],AY Z,Z,Z,A0 (by unfold W3;rw [η (Id (by have h:=e;omega) c)]),Z⟩
theorem P4 (l:List Int) (x:Int) (a:l.length<=140737488355328):AM prog 179 [.d (.sl none (l.map AF)),.d (AF x)] (.raw (.bool (decide (x∈l)))):=by
 refine Ax func179 Z Z ntmps179 Z Z Z λF b=>(AD (AE (AB Z Z (AC ?_))));refine AD (AE (goMv Z Z (goMv Z Z (J (Aw (YL l x a) Z Z) (J (EM Z Z Z) (AB Z Z (AC (AZ ?_))))))));exact ⟨_,[],[],AY Z,Z,Z,O6 (by unfold W3;split<;>rename_i h<;>simp [h]<;>omega),Z⟩
theorem has_p (l:List Int) (x:Int) (i:l.length<=140737488355328):AM prog 151 [.d (.sl none (l.map AF)),.d (AF x)] (.raw (.bool (decide (x∈l)))):=by
 refine Ax func151 Z Z ntmps151 Z Z Z λF j=>(AD (AE ?_));refine AB Z Z (AC (AD (AD (AE (AB Z Z (AC (A2 (Gh (α:=Nat) (λk=>⟨18,[(0,.d (.sl none (l.map AF))),(1,.d (AF x)),(5,(.d (AF (k:Int))))],[]⟩) (λk=>k<=l.length/\x∉l.take k) (λk=>l.length - k) (0) (⟨ζ _,by simp⟩) (al ⟨Z,Z,Z,trivial⟩) ?_))))))));rintro k ⟨g,f⟩;refine AD (AD (AE (goMv Z Z (goMv Z Z (J (BU Z underlying28 Z) (J (Az Z Z Z) (AC (A7 Z (λc=>?_) (λc=>?_)))))))))
 .have a:k<l.length:=BR c;refine AX (AD (A2 (AD ?_)));refine AE (goMv Z Z (goMv Z Z (J (BC (k) Z Z (Z) (A3 a) underlying28 Z BD Z) (J (CF Z Z Ai Z) (goMv Z Z (J (FC Z Z Z) (AC (A7 Z (λb=>?_) (λb=>?_)))))))))
  .refine AD (AE (AB Z Z (AC (AZ ?_))));exact ⟨_,[],[],AY Z,Z,Z,Rg (by rw [<-b];exact ϑ a),Z⟩
  .refine AX (AE (goMv Z Z (J (Ah Z Z (AK (k+1) (by omega)) Z) (AB Z Z (AC ?_)))));exact ⟨k+1,⟨by show k+1<=_;omega,Dx a f (λe=>b e.symm)⟩,by show l.length - (k+1)<l.length - k;omega,⟨Z,Z,λ_ _=>Sr.get (l:=[(0,_),(1,_),(5,_)]) ⟨Z,Z,Z,trivial⟩⟩⟩
 .refine Ar (AD (AE (AB Z Z (AC (AZ ?_)))));exact ⟨_,[],[],AY Z,Z,Z,DK (Id (by have h:=c;omega) f),Z⟩
theorem WN (i:AJ) (o:i.po.length<=140737488355328):AM prog 168 [.d (Af i)] (AF (Fj i)):=by
 refine Ax func168 Z Z ntmps168 Z Z Z λF m=>(AD (AE (V (Bi 1 Z Z Z Z Z Z Z) (AB Z Z (AC (AD ?_))))));refine AD (AE (J (AL Z E1 Z Z Z) (J (AQ Z Z Z QE Z) (J (BU Z underlying52 Z) (goMv Z Z (AC (A2 (BO (α:=Nat) (λk=>⟨35,[(1,(.ptr 1 0 0)),(6,(.d (.sl none (i.po.map BV)))),(7,(.d (AF (i.po.length:Int)))),(8,(.d (AF (k:Int))))],[(1,[.blk 55 [.d (AF i.id),.d (AF i.pr),.d (AF i.sq),.d (.sl none (i.po.map BV)),.d (.sl none (i.pa.map C8)),.d (.sl none (i.af.map AF))]])]⟩) (λk=>k<=i.po.length/\Fj i=BQ ((i.po.drop k).map I5)) (λk=>i.po.length - k) (0) (⟨ζ _,Z⟩) (AU m [1] Z Z ⟨Z,Z,Z,Z,trivial⟩) ?_))))))));rintro k ⟨n,l⟩;refine AD (AE (J (Az Z Z Z) (AC (AD (A7 Z (λj=>?_) (λj=>?_))))))
 .have f:k<i.po.length:=BR j;refine AX (AD (A2 (AD (AE ?_))));have g:=Zcx f l;refine J (BC (k) Z Z (Z) (A3 f) underlying52 Z Mv Z) (J (Ca Z Z cH Z) (V (CA 2 QV Z Z Z Z) (V (B4 Z Z Z Z Z Z Z Mv) (AC ?_))));refine A2 (AD (AE (J (AL Z JY Z Z Z) (J (AL Z SM Z Z Z) (J (AQ Z Z Z CL Z) (J (KO Z Z Z) (goMv Z Z (CX 17 Z (λa=>?_) (λa=>?_)))))))))
  .refine AI Z Z Z Z (AI Z Z Z Z (AI Z Z Z Z (AI Z Z Z Z ?_)));refine J (BY Z Z Z Z) (AB Z Z (AC (Bz Z Z (AD (AE (AB Z Z (AC (AZ ?_))))))));exact ⟨_,[],[],AY Z,Z,Z,A0 (g.2 6 (by unfold I5;rw [ς (.inl a)]) (by decide)),Z⟩
  .refine AR Z Z Z (J (AL Z JY Z Z Z) (AR Z Z Z ?_));refine J (AL Z PW Z Z Z) (AR Z Z Z (J (AQ Z Z Z CL Z) (AR Z Z Z (J (KO Z Z Z) (J (Bf Z Z Z Z) (AB Z Z (AC (A7 Z (λb=>?_) (λb=>?_)))))))))
   .refine AD (AE (AB Z Z (AC (AZ ?_))));exact ⟨_,[],[],AY Z,Z,Z,A0 (g.2 6 (by unfold I5;rw [ς (.inr b)]) (by decide)),Z⟩
   .refine AD ?_;refine AE (J (AL Z JY Z Z Z) (J (AL Z PX Z Z Z) (J (AQ Z Z Z Ai Z) (J (Aw (IU _ _ _) Z Z) (J (Je Z Z) (AB Z Z (AC (A7 Z (λc=>?_) (λc=>?_)))))))))
    .refine AD (AE (AB Z Z (AC (AZ ?_))));exact ⟨_,[],[],AY Z,Z,Z,A0 (g.2 11 (by unfold I5;rw [η (by simp [a,b]),ς c]) (by decide)),Z⟩
    .refine AD (AE (J (AL Z Nw Z Z Z) (J (AQ Z Z Z Fn Z) (J (Aw (HX _ _ _) Z Z) (J (Je Z Z) (AB Z Z (AC (A7 Z (λe=>?_) (λe=>?_)))))))))
     .refine AD (AE (AB Z Z (AC (AZ ?_))));exact ⟨_,[],[],AY Z,Z,Z,A0 (g.2 12 (by unfold I5;rw [η (by simp [a,b]),η c,ς e]) (by decide)),Z⟩
     .refine AX (AE (J (Ah Z Z (AK (k+1) (by omega)) Z) (goMv Z Z (AC ?_))));exact ⟨k+1,⟨by show k+1<=_;omega,g.1 (by unfold I5;rw [η (by simp [a,b]),η c,η e])⟩,by show i.po.length - (k+1)<i.po.length - k;omega,AU m [1] Z (Z) ⟨Z,Z,Z,Z,trivial⟩⟩
 .refine Ar (AD (AE (AB Z Z (AC (AZ ?_)))));exact ⟨_,[],[],AY Z,Z,Z,A0 (by rw [l,DP (by have h:=j;omega)]),Z⟩
theorem WO (i:AJ) (o:i.pa.length<=140737488355328):AM prog 169 [.d (Af i)] (AF (Kh i)):=by
 refine Ax func169 Z Z ntmps169 Z Z Z λF m=>(AD (AE (V (Bi 1 Z Z Z Z Z Z Z) (AB Z Z (AC (AD ?_))))));refine AD (AE (J (AL Z Fw Z Z Z) (J (AQ Z Z Z To Z) (J (BU Z underlying53 Z) (goMv Z Z (AC (A2 (BO (α:=Nat) (λk=>⟨33,[(1,(.ptr 1 0 0)),(6,(.d (.sl none (i.pa.map C8)))),(7,(.d (AF (i.pa.length:Int)))),(8,(.d (AF (k:Int))))],[(1,[.blk 55 [.d (AF i.id),.d (AF i.pr),.d (AF i.sq),.d (.sl none (i.po.map BV)),.d (.sl none (i.pa.map C8)),.d (.sl none (i.af.map AF))]])]⟩) (λk=>k<=i.pa.length/\Kh i=BQ ((i.pa.drop k).map J7)) (λk=>i.pa.length - k) (0) (⟨ζ _,Z⟩) (AU m [1] Z Z ⟨Z,Z,Z,Z,trivial⟩) ?_))))))));rintro k ⟨n,l⟩;refine AD (AE (J (Az Z Z Z) (AC (AD (A7 Z (λj=>?_) (λj=>?_))))))
 .have f:k<i.pa.length:=BR j;refine AX (AD (A2 (AD (AE ?_))));have g:=Zcx f l;refine J (BC (k) Z Z (Z) (A3 f) underlying53 Z TG Z) (J (Ca Z Z cG Z) (V (CA 2 zl161 Z Z Z Z) (V (B4 Z Z Z Z Z Z Z TG) ?_)));refine AC (A2 (AD (AE (J (AL Z LX Z Z Z) (J (AQ Z Z Z CL Z) (J (KO Z Z Z) (goMv Z Z (CX 16 Z (λa=>?_) (λa=>?_)))))))))
  .refine AI Z Z Z Z (AI Z Z Z Z (AI Z Z Z Z ?_));refine J (BY Z Z Z Z) (AB Z Z (AC (Bz Z Z (AD (AE (AB Z Z (AC (AZ ?_))))))));exact ⟨_,[],[],AY Z,Z,Z,A0 (g.2 6 (by unfold J7;rw [ς (.inl a)]) (by decide)),Z⟩
  .refine AR Z Z Z ?_;refine J (AL Z LW Z Z Z) (AR Z Z Z (J (AQ Z Z Z CL Z) (AR Z Z Z (J (KO Z Z Z) (J (Bf Z Z Z Z) (AB Z Z (AC (A7 Z (λb=>?_) (λb=>?_)))))))))
   .refine AD (AE (AB Z Z (AC (AZ ?_))));exact ⟨_,[],[],AY Z,Z,Z,A0 (g.2 6 (by unfold J7;rw [ς (.inr b)]) (by decide)),Z⟩
   .refine AD ?_;refine AE (J (AL Z LX Z Z Z) (J (AQ Z Z Z CL Z) (J (AL Z LW Z Z Z) (J (AQ Z Z Z CL Z) (J (KO Z Z Z) (AB Z Z (AC (A7 Z (λc=>?_) (λc=>?_)))))))))
    .refine AD (AE (AB Z Z (AC (AZ ?_))));exact ⟨_,[],[],AY Z,Z,Z,A0 (g.2 7 (by unfold J7;rw [η (by simp [a,b]),ς c]) (by decide)),Z⟩
    .refine AD (AE (J (AL Z LV Z Z Z) (J (AQ Z Z Z Fn Z) (J (Aw (HX _ _ _) Z Z) (J (Je Z Z) (AB Z Z (AC (A7 Z (λe=>?_) (λe=>?_)))))))))
     .refine AD (AE (AB Z Z (AC (AZ ?_))));exact ⟨_,[],[],AY Z,Z,Z,A0 (g.2 2 (by unfold J7;rw [η (by simp [a,b]),η c,ς e]) (by decide)),Z⟩
     .refine AX (AE (J (Ah Z Z (AK (k+1) (by omega)) Z) (goMv Z Z (AC ?_))));exact ⟨k+1,⟨by show k+1<=_;omega,g.1 (by unfold J7;rw [η (by simp [a,b]),η c,η e])⟩,by show i.pa.length - (k+1)<i.pa.length - k;omega,AU m [1] Z (Z) ⟨Z,Z,Z,Z,trivial⟩⟩
 .refine Ar (AD (AE (AB Z Z (AC (AZ ?_)))));exact ⟨_,[],[],AY Z,Z,Z,A0 (by rw [l,DP (by have h:=j;omega)]),Z⟩
theorem Zcw {n k:Nat} {f:Nat ->Int} {E:Int} (a:k<n) (h:E=BQ (((List.range n).drop k).map f)):(f k=0 ->E=BQ (((List.range n).drop (k+1)).map f))/\∀e,f k=e ->e≠0 ->e=E:=by
 have:=Zcx (l:=List.range n) (k:=k) (by simpa using a) h
 grind
theorem after_p (i:AJ) (o:i.af.length<=140737488355328):AM prog 170 [.d (Af i)] (AF (N9 i)):=by
 refine Ax func170 Z Z ntmps170 Z Z Z λF m=>(AD (AE (V (Bi 1 Z Z Z Z Z Z Z) (AB Z Z (AC (AD ?_))))));refine AD (AE (J (AL Z EA Z Z Z) (J (AQ Z Z Z BF Z) (J (BU Z underlying28 Z) (goMv Z Z (AC (A2 (BO (α:=Nat) (λk=>⟨31,[(1,(.ptr 1 0 0)),(6,(.d (.sl none (i.af.map AF)))),(7,(.d (AF (i.af.length:Int)))),(8,(.d (AF (k:Int))))],[(1,[.blk 55 [.d (AF i.id),.d (AF i.pr),.d (AF i.sq),.d (.sl none (i.po.map BV)),.d (.sl none (i.pa.map C8)),.d (.sl none (i.af.map AF))]])]⟩) (λk=>k<=i.af.length/\N9 i=BQ (((List.range i.af.length).drop k).map (Mo i.id i.af))) (λk=>i.af.length - k) (0) (⟨ζ _,Z⟩) (AU m [1] Z Z ⟨Z,Z,Z,Z,trivial⟩) ?_))))))));rintro k ⟨n,l⟩;refine AD (AE (J (Az Z Z Z) (AC (AD (A7 Z (λj=>?_) (λj=>?_))))))
 .have b:k<i.af.length:=BR j;refine AX (AD (A2 (AD (AE ?_))));have g:=Zcw b l;have f:i.af.getD k 0=i.af[k]:=by simp [b]
  refine goMv Z Z (J (BC (k) Z Z (Z) (A3 b) underlying28 Z BD Z) (J (CF Z Z Ai Z) (AB Z Z (AB Z Z (AC ?_)))));refine A2 (AD (AE (goMv Z Z (J (Aw (IU _ _ _) Z Z) (J (Je Z Z) (AB Z Z (AC (A7 Z (λa=>?_) (λa=>?_)))))))))
  .refine AD (AE (AB Z Z (AC (AZ ?_))));exact ⟨_,[],[],AY Z,Z,Z,A0 (g.2 2 (by unfold Mo;rw [f,ς a]) (by decide)),Z⟩
  .refine AD (AE (goMv Z Z (J (AL Z OG Z Z Z) (J (AQ Z Z Z Ai Z) (J (FC Z Z Z) (goMv Z Z (CX 22 Z (λc=>?_) (λc=>?_))))))))
   .refine AI Z Z Z Z (AI Z Z Z Z (AI Z Z Z Z (AI Z Z Z Z (AI Z Z Z Z (AI Z Z Z Z ?_)))));refine J (BY Z Z Z Z) (AB Z Z (AC (Bz Z Z (AD (AE (AB Z Z (AC (AZ ?_))))))));exact ⟨_,[],[],AY Z,Z,Z,A0 (g.2 7 (by unfold Mo;rw [f,η a,ς (.inl c)]) (by decide)),Z⟩
   .refine AR Z Z Z (J (AL Z EA Z Z Z) (AR Z Z Z (J (AQ Z Z Z BF Z) (AR Z Z Z (goMv Z Z (AR Z Z Z ?_))))));refine J (Zch (i.af) (k) Z Z Z (Z) (by omega) underlying28 BD (λ_=>rfl) Z) (AR Z Z Z (goMv Z Z (AR Z Z Z (J (Aw (P4 (i.af.take k) _ (by simp;omega)) Z Z) (J (Bf Z Z Z Z) (AB Z Z (AC (A7 Z (λe=>?_) (λe=>?_)))))))))
    .refine AD (AE (AB Z Z (AC (AZ ?_))));exact ⟨_,[],[],AY Z,Z,Z,A0 (g.2 7 (by unfold Mo;rw [f,η a,ς (.inr e)]) (by decide)),Z⟩
    .refine AX (AE (J (Ah Z Z (AK (k+1) (by omega)) Z) (goMv Z Z (AC ?_))));exact ⟨k+1,⟨by show k+1<=_;omega,g.1 (by unfold Mo;rw [f,η a,η (by simp [c];exact e)])⟩,by show i.af.length - (k+1)<i.af.length - k;omega,AU m [1] Z (Z) ⟨Z,Z,Z,Z,trivial⟩⟩
 .refine Ar (AD (AE (AB Z Z (AC (AZ ?_)))));exact ⟨_,[],[],AY Z,Z,Z,A0 (by rw [l,DP (by simp;have h:=j;omega)]),Z⟩
theorem Gg (l:List EC) (p:EC) (a:List UInt8):Bq (l++ [p]) a=Bq l a+if p.acc.a=a then p.d else 0:=by simp [Bq]
theorem Ix (l:List EC) (a:List UInt8) (h:∀p∈l,-Mx<=p.d/\p.d<=Mx): -(l.length*1000000000000000)<=Bq l a/\Bq l a<=l.length*1000000000000000:=by
 induction l with
 | nil=>simp [Bq]
 | cons p r b=>
  have d:=b λq c=>h q (by simp [c])
  grind [Bq]
def V5 (l:List EC) (M:List (List UInt8×Int)):Prop:=(M.map Prod.fst).Nodup/\(∀a,Ad M a 0=Bq l a)/\(∀a,a∈M.map Prod.fst ->∃p∈l,p.acc.a=a)/\∀p∈l,p.acc.a∈M.map Prod.fst
theorem mem_put {e:Type} [DecidableEq c] {M:List (c×e)} {a d:c} {b:e}:d∈(BZ M a b).map Prod.fst↔d=a\/d∈M.map Prod.fst:=by grind [MQ]
variable {d:List EC}
theorem V5.snoc (h:V5 d M) (p:EC):V5 (d++ [p]) (BZ M p.acc.a (Ad M p.acc.a 0+p.d)):=by
 obtain ⟨g,j,i,f⟩:=h;refine ⟨Or g,λa=>?_,λa c=>?_,λq b=>?_⟩
 .grind [HF,Gg]
 .rcases mem_put.1 c with e | e
  .grind
  grind
 .rcases ϖ.1 b with b | b
  .exact mem_put.2 (.inr (f q b))
  .simp at b;subst b;exact mem_put.2 (.inl Z)
variable {i:AJ}
theorem bal_bad (h:V5 i.po M) {j:Nat} {a:List UInt8} {v:Int} (k:M[j]? =some (a,v)) (d:v≠0):(14:Int)=La i:=by
 have b:=ξ k;have c:=Dc (z:=0) h.1 b;rw [h.2.1] at c;obtain ⟨p,g,e⟩:=h.2.2.1 a (ψz (f:=Prod.fst) b);unfold La;rw [ς ⟨p,g,by rw [e,c];exact d⟩]
theorem bal_ok (h:V5 i.po M) (a:∀x∈M,x.2=0):(0:Int)=La i:=by grind [La,Ic,V5]
theorem R7 (h:∀p∈d,-Mx<=p.d/\p.d<=Mx):∀p∈d.take k,-Mx<=p.d/\p.d<=Mx:=λp a=>h p (ωs a)
theorem Ws (i:AJ) (D:i.po.length<=256) (y:∀p∈i.po,-Mx<=p.d/\p.d<=Mx):AM prog 171 [.d (Af i)] (AF (La i)):=by
 refine Ax func171 Z Z ntmps171 Z Z Z λF s=>(AD (AE ?_));refine V (Bi 1 Z Z Z Z Z Z Z) (AB Z Z (AC (AD (AE (V (Ps 2 Z Z Z Z) (AB Z Z (AC (AD ?_))))))));refine AD (AE (J (AL Z E1 Z Z Z) (J (AQ Z Z Z QE Z) (J (BU Z underlying52 Z) (goMv Z Z (AC (A2 (BO (α:=Nat×List (List UInt8×Int)) (λq=>⟨33,[(3,(.map 2 0)),(10,(.d (.sl none (i.po.map BV)))),(11,(.d (AF (i.po.length:Int)))),(12,(.d (AF (q.1:Int))))],[(2,[B1 Aq AF q.2])]⟩) (λq=>q.1<=i.po.length/\V5 (i.po.take q.1) q.2) (λq=>i.po.length - q.1) ((0,[])) (⟨ζ _,⟨by simp,by simp [Bq,Ad],by simp,by simp⟩⟩) (AU s [2] Z Z ⟨Z,Z,Z,Z,trivial⟩) ?_))))))));rintro ⟨k,M⟩ ⟨u,o⟩;dsimp only at u o⊢;refine AD (AE (J (Az Z Z Z) (AC (AD (A7 Z (λg=>?_) (λg=>?_))))))
 .have c:k<i.po.length:=BR g;refine AX (AD (A2 (AD (AE ?_))));have w:=y _ (ϑ c);have v:=Ix (i.po.take k) i.po[k].acc.a (R7 y);rw [<-o.2.1,ϱ] at v;simp only [Mx] at w;refine J (BC (k) Z Z (Z) (A3 c) underlying52 Z Mv Z) (J (Ca Z Z cH Z) ?_);refine V (CA 3 QV Z Z Z Z) (V (B4 Z Z Z Z Z Z Z Mv) (AC (AE (goMv Z Z (J (AL Z JY Z Z Z) (J (AL Z PW Z Z Z) (J (AQ Z Z Z CL Z) (J (IR (M) (i.po[k].acc.a) (0) _ Z Z Z dU kt9 Pp Z Z) ?_))))))));refine J (AL Z Nw Z Z Z) (J (AQ Z Z Z Fn Z) (J (Ah Z Z (Θ _ (by omega)) Z) (V (VZ (M) (i.po[k].acc.a) (Ad M i.po[k].acc.a 0+i.po[k].d) Z Z Z dU kt9 Z Z) (AC (AE (J (Ah Z Z (AK (k+1) (by omega)) Z) (goMv Z Z (AC ?_))))))));exact ⟨(k+1,_),⟨by show k+1<=_;omega,by have:=o.snoc i.po[k];rwa [<-ψ c] at this⟩,by show i.po.length - (k+1)<i.po.length - k;omega,AU s [2] Z (Z) ⟨Z,Z,Z,Z,trivial⟩⟩
 .refine Ar (AD (AD ?_));have n:V5 i.po M:=by rw [θ (by have h:=g;omega)] at o;exact o
  refine AE (goMv Z Z (V (Gs 4 Z Z Z dU Z Z Z Z) (AC (A2 (BO (α:=List Nat) (λseen=>⟨33,[(26,(.ptr 4 0 0))],[(4,[.iter 2 0 M.length seen]),(2,[B1 Aq AF M])]⟩) (λseen=>∀x∈M,x∈CE M (List.range M.length) seen\/x.2=0) (λseen=>(CE M (List.range M.length) seen).length) ([]) (λx j=> .inl (by rw [ZcM (by simp)];exact j)) (AU s [4,2] Z Z ⟨Z,trivial⟩) ?_)))));intro seen z;refine AD (AE (MM (M) Z Z Z Z (λl=>?_) (λt r C B b m A a=>⟨_,Z,?_⟩)))
  .refine J (DG Z Z Z) ?_;refine AC (AD (Cu Z Z (Ar (AD (AE (AB Z Z (AC (AZ ?_))))))));exact ⟨_,[],[],AY Z,Z,Z,A0 (bal_ok n λx j=>(z x j).elim (λh=>by rw [l] at h;cases h) id),Z⟩
  .refine J (DG Z Z Z) (AC (AD (Bz Z Z (AX (A2 (AD (AE (J (Gt (M) t r Z Z Z b m Z) ?_))))))));refine J (DG Z Z Z) (AB Z Z (AC (AD (AE (goMv Z Z (J (C7 Z Z Z) (AC (A7 Z (λf=>?_) (λf=>?_)))))))))
   .refine AD (AE (AB Z Z (AC (AZ ?_))));exact ⟨_,[],[],AY Z,Z,Z,A0 (bal_bad n b f),Z⟩
   .refine AX ?_;exact ⟨seen++ [r],λx j=>(z x j).elim (λh=>(Υ.1 (a.mem_iff.1 h)).elim (λe=> .inr (by rw [e];simpa using f)) .inl) .inr,by rw [a.length_eq];exact ψp _,AU s [4,2] Z (Z) ⟨Z,trivial⟩⟩
abbrev acc0:Sl:=⟨[],0,[]⟩
abbrev Gx (p:EC):AW:=⟨0,p.acc,[],[]⟩
abbrev CK (f t:List UInt8):AW:=⟨1,acc0,f,t⟩
abbrev DL (f:List UInt8):AW:=⟨2,acc0,f,[]⟩
def fu (M:List (AW×Int)) (x:AW×Int):List (AW×Int):=BZ M x.1 (Ad M x.1 0+x.2)
def EB (l:List EC):List (AW×Int):=l.map λp=>(Gx p,p.d)
def Mg (p:Jl):List (AW×Int):=[(CK p.f p.t,-p.n),(CK p.t p.f,p.n),(DL p.f,-p.n),(DL p.t,p.n)]
def HS (l:List Jl):List (AW×Int):=l.flatMap Mg
def ctr (i:AJ):List (AW×Int):=EB i.po++HS i.pa
def sumL (l:List (AW×Int)):List (AW×Int):=l.foldl fu []
def An (l:List (AW×Int)) (r:AW):Int:=(l.map λx=>if x.1=r then x.2 else 0).sum
theorem Yf (l:List (AW×Int)) (x:AW×Int):sumL (l++ [x])=fu (sumL l) x:=by simp [sumL]
theorem Gf (l m:List (AW×Int)) (r:AW):An (l++m) r=An l r+An m r:=by simp [An]
theorem Wl (x:AW×Int) (r:AW):An [x] r=if x.1=r then x.2 else 0:=by simp [An]
theorem ac {α:Type} {p:List α ->Prop} (h0:p []) (h1:∀l x,p l ->p (l++ [x])) (l:List α):p l:=by
 have:∀m:List α,p m.reverse:=λm=>by
  induction m with
  | nil=>exact h0
  | cons x r ih=>rw [List.reverse_cons];exact h1 _ _ ih
 have:=this l.reverse
 grind
theorem K4 (l:List (AW×Int)) (r:AW):Ad (sumL l) r 0=An l r:=by
 revert r
 refine ac (p:=λl=>∀r,Ad (sumL l) r 0=An l r) (λr=>rfl) (λl x a r=>?_) l;rw [Yf,fu,HF,Gf,Wl]
 grind
theorem Fb (l:List (AW×Int)):((sumL l).map Prod.fst).Nodup:=
 ac (p:=λl=>((sumL l).map Prod.fst).Nodup) (by simp [sumL]) (λl x a=>by rw [Yf];exact Or a) l
theorem JJ (l:List (AW×Int)) (r:AW):r∈(sumL l).map Prod.fst↔r∈l.map Prod.fst:=by
 refine ac (p:=λl=>r∈(sumL l).map Prod.fst↔r∈l.map Prod.fst) (by simp [sumL]) (λl x a=>?_) l;rw [Yf,fu,mem_put,a]
 simp [or_comm]
def Px (l:List (AW×Int)):Prop:=∀x∈l,-1000000000000000<=x.2/\x.2<=1000000000000000
theorem Hy {l:List (AW×Int)} (h:Px l) (r:AW): -(l.length*1000000000000000)<=An l r/\An l r<=l.length*1000000000000000:=by
 induction l with
 | nil=>simp [An]
 | cons x l a=>
  grind [An,Px]
structure ItmB (i:AJ):Prop where
 po:i.po.length<=256
 pa:i.pa.length<=256
 af:i.af.length<=256
 d:∀p∈i.po,-Mx<=p.d/\p.d<=Mx
 n:∀p∈i.pa,0<=p.n/\p.n<=Mx
theorem Iq (l:List Jl):(HS l).length=4*l.length:=by
 induction l with
 | nil=>rfl
 | cons p r a=>simp only [HS,List.flatMap_cons,Δ,χq] at a⊢;rw [a];simp [Mg];omega
theorem bnd_P (h:∀p∈d,-Mx<=p.d/\p.d<=Mx):Px (EB d):=by grind [Px,EB]
variable {p:Jl}
theorem bnd_1 (h:0<=p.n/\p.n<=Mx):Px (Mg p):=by grind [Mg,Px]
variable {h:List Jl}
theorem bnd_Y (a:∀p∈h,0<=p.n/\p.n<=Mx):Px (HS h):=λx b=>by
 obtain ⟨p,c,b⟩:=χl.1 b;exact bnd_1 (a p c) x b
variable {a:List (AW×Int)}
theorem Px.append {m:List (AW×Int)} (h:Px a) (c:Px m):Px (a++m):=λx b=>(ϖ.1 b).elim (h x) (c x)
theorem Px.take (h:Px a) (k:Nat):Px (a.take k):=λx b=>h x (ωs b)
theorem Fa {l:List (AW×Int)} (h:Px l) (a:l.length<=2000) (r:AW): -2000000000000000000<=Ad (sumL l) r 0/\Ad (sumL l) r 0<=2000000000000000000:=by
 have:=Hy h r;rw [K4];omega
theorem RO (a:k<d.length):EB (d.take (k+1))=EB (d.take k)++ [(Gx d[k],d[k].d)]:=by
 simp only [EB];rw [ψ a,Ω];rfl
theorem RN (a:k<h.length):HS (h.take (k+1))=HS (h.take k)++Mg h[k]:=by
 simp only [HS];rw [ψ a,List.flatMap_append];simp
def st1 (M:List (AW×Int)) (p:Jl):List (AW×Int):=BZ M (CK p.f p.t) (Ad M (CK p.f p.t) 0 - p.n)
def st2 (M:List (AW×Int)) (p:Jl):List (AW×Int):=BZ M (CK p.t p.f) (Ad M (CK p.t p.f) 0+p.n)
def st3 (M:List (AW×Int)) (p:Jl):List (AW×Int):=BZ M (DL p.f) (Ad M (DL p.f) 0 - p.n)
def st4 (M:List (AW×Int)) (p:Jl):List (AW×Int):=BZ M (DL p.t) (Ad M (DL p.t) 0+p.n)
variable {g:List (AW×Int)}
theorem bk {p:Jl} (h:g=sumL a):st1 g p=sumL (a++ [(CK p.f p.t,-p.n)])/\st2 (st1 g p) p=sumL (a++ [(CK p.f p.t,-p.n),(CK p.t p.f,p.n)])/\st3 (st2 (st1 g p) p) p=sumL (a++ [(CK p.f p.t,-p.n),(CK p.t p.f,p.n),(DL p.f,-p.n)])/\st4 (st3 (st2 (st1 g p) p) p) p=sumL (a++Mg p):=by
 subst h;have e:∀(a:List (AW×Int)) (x:AW×Int) (r:List (AW×Int)),a++x::r=(a++ [x])++r:=by simp
 refine ⟨?_,?_,?_,?_⟩
 .rw [Yf];rfl
 .rw [e,Yf,Yf];rfl
 .rw [e,e,Yf,Yf,Yf];rfl
 .rw [Mg,e,e,e,Yf,Yf,Yf,Yf];rfl
theorem bh {l:List (AW×Int)} {p:Jl} {M:List (AW×Int)} (h:M=sumL l) (b:Px l) (i:l.length<=1900) (d:0<=p.n/\p.n<=Mx) (r:AW):(-2000000000000000000<=Ad M r 0/\Ad M r 0<=2000000000000000000)/\(-2000000000000000000<=Ad (st1 M p) r 0/\Ad (st1 M p) r 0<=2000000000000000000)/\(-2000000000000000000<=Ad (st2 (st1 M p) p) r 0/\Ad (st2 (st1 M p) p) r 0<=2000000000000000000)/\(-2000000000000000000<=Ad (st3 (st2 (st1 M p) p) p) r 0/\Ad (st3 (st2 (st1 M p) p) p) r 0<=2000000000000000000):=by
 obtain ⟨g,f,e,_⟩:=bk (p:=p) h;have a:=bnd_1 d;rw [e,f,g,h];refine ⟨Fa b (by omega) r,Fa (b.append λx c=>a x ?_) (by simp;omega) r,Fa (b.append λx c=>a x ?_) (by simp;omega) r,Fa (b.append λx c=>a x ?_) (by simp;omega) r⟩
 all_goals (grind [Mg])
set_option maxHeartbeats 1000000 in
theorem R8 (i:AJ) (e:ItmB i):AT prog 125 [.d (Af i)] [] λr E=>r= .map 2 0/\E=[(2,[B1 Bd AF (sumL (ctr i))])]:=by
 have C:=e.po;have D:=e.pa;refine Ax func125 Z Z ntmps125 Z Z Z λF v=>(AD (AE ?_));refine V (Bi 1 Z Z Z Z Z Z Z) (AB Z Z (AC (AD (AE (V (Ps 2 Z Z Z Z) (AB Z Z (AC (AD ?_))))))));refine AD (AE (J (AL Z E1 Z Z Z) (J (AQ Z Z Z QE Z) (J (BU Z underlying52 Z) (goMv Z Z (AC (A2 (BO (α:=Nat×List (AW×Int)) (λq=>⟨80,[(1,(.ptr 1 0 0)),(3,(.map 2 0)),(10,(.d (.sl none (i.po.map BV)))),(11,(.d (AF (i.po.length:Int)))),(12,(.d (AF (q.1:Int))))],[(2,[B1 Bd AF q.2]),(1,[.blk 55 [.d (AF i.id),.d (AF i.pr),.d (AF i.sq),.d (.sl none (i.po.map BV)),.d (.sl none (i.pa.map C8)),.d (.sl none (i.af.map AF))]])]⟩) (λq=>q.1<=i.po.length/\q.2=sumL (EB (i.po.take q.1))) (λq=>i.po.length - q.1) ((0,[])) (⟨ζ _,Z⟩) (AU v [2,1] Z Z ⟨Z,Z,Z,Z,Z,trivial⟩) ?_))))))));rintro ⟨k,M⟩ ⟨x,u⟩;dsimp only at x u⊢;refine AD (AE (J (Az Z Z Z) (AC (AD (A7 Z (λo=>?_) (λo=>?_))))))
 .have c:k<i.po.length:=BR o;refine AX (AD (A2 (AD (AE ?_))));have z:=e.d _ (ϑ c);simp only [Mx] at z;have y:=Fa (l:=EB (i.po.take k)) (bnd_P (R7 e.d)) (by simp [EB];omega) (Gx i.po[k]);rw [<-u] at y;refine J (BC (k) Z Z (Z) (A3 c) underlying52 Z Mv Z) (J (Ca Z Z cH Z) (V (CA 3 QV Z Z Z Z) (V (B4 Z Z Z Z Z Z Z Mv) (AC (CD [[],[],[1],[1,2],[0,1,2,3],[],[5],rg 7,[0,1,2,3,5,6],[0,1,2,3,5,6,8],rg 10] mixed Z (aK 2 ([B1 Bd AF (Be M (Gx i.po[k]) 0)]) Z ?_))))));refine Ak 3 Z Z (AP [5] Z (AL Z JY Z Z Z) (Aj [17] Z Z (λ_=>A8 (BA Z Z cC Z Z Z)) (AP [18] Z (EI KQ Tk Z Z Z) (J2 [16,19] [] Z Z Z (λ_=>A8 (IR (M) (Gx i.po[k]) (0) _ Z Z Z CQ C4 Pp Z Z)) (λ_=>A8 (IR (Be (M) (Gx i.po[k]) (0)) (Gx i.po[k]) (0) _ Z Z Z CQ C4 Pp (EW _ _ _ _) Z)) (AP [5] Z (AL Z Nw Z Z Z) (Aj [21] Z Z (λ_=>A8 (AQ Z Z Z Fn Z)) (AP [20,22] Z (Ah Z Z (Θ _ (by omega)) Z) (F5 [16,19] [2] [(24,_)] Z Z (λ_=>F6 (HZ (M) (Gx i.po[k]) (0) Z Z Z CQ C4 Pp Z Z)) (.inr ⟨24,_,Z,Z,Z,Z,Z⟩) Z Z Z Z Z ?_ (hCn:=RW Z)))))))));refine AP [24] Z (DG Z Z Z) (Bk 10 Z Z Z (Ab 11 Z Z (V (H3 (M) (Gx i.po[k]) (0) (Ad M (Gx i.po[k]) 0+i.po[k].d) Z Z Z C4 Z Z) (AC ⟨Z,?_⟩))));refine Bx (AE (J (Ah Z Z (AK (k+1) (by omega)) Z) (goMv Z Z (AC ?_))));exact ⟨(k+1,_),⟨by show k+1<=_;omega,by show _=sumL (EB (i.po.take (k+1)));rw [RO c,Yf,<-u];rfl⟩,by show i.po.length - (k+1)<i.po.length - k;omega,AU v [2,1] Z (Z) ⟨Z,Z,Z,Z,Z,trivial⟩⟩
 .refine Ar (AD (AD ?_));have A:M=sumL (EB i.po++HS (i.pa.take 0)):=by rw [u,θ (by have h:=o;omega)];simp [HS]
  refine AE (J (AL Z Fw Z Z Z) (J (AQ Z Z Z To Z) (J (BU Z underlying53 Z) (goMv Z Z (AC (A2 (BO (α:=Nat×List (AW×Int)) (λq=>⟨80,[(3,(.map 2 0)),(28,(.d (.sl none (i.pa.map C8)))),(29,(.d (AF (i.pa.length:Int)))),(30,(.d (AF (q.1:Int))))],[(2,[B1 Bd AF q.2])]⟩) (λq=>q.1<=i.pa.length/\q.2=sumL (EB i.po++HS (i.pa.take q.1))) (λq=>i.pa.length - q.1) ((0,M)) (⟨ζ _,A⟩) (AU v [2] Z Z ⟨Z,Z,Z,Z,trivial⟩) ?_)))))));rintro ⟨m,N⟩ ⟨w,s⟩;dsimp only at w s⊢;refine AD (AE (J (Az Z Z Z) (AC (AD (A7 Z (λj=>?_) (λj=>?_))))))
  .have b:m<i.pa.length:=BR j;refine AX (AD (A2 (AD (AE ?_))));have p:=e.n _ (ϑ b);have a:=bh s ((bnd_P e.d).append (bnd_Y λq B=>e.n q (ωs B))) (by rw [Δ,Iq];simp [EB];omega) p;simp only [Mx] at p;refine J (BC (m) Z Z (Z) (A3 b) underlying53 Z TG Z) (J (Ca Z Z cG Z) (V (CA 4 zl161 Z Z Z Z) (V (B4 Z Z Z Z Z Z Z TG) (AC (AD (CD [[],[],[1],[],[3],[1,2,3,4],rg 6,[],[7],rg 9,[0,1,2,3,4,5,7,8],[0,1,2,3,4,5,7,8,10],rg 12] mixed Z (aK 2 ([B1 Bd AF (Be N (CK i.pa[m].f i.pa[m].t) 0)]) Z ?_)))))));refine Ak 3 Z Z (AP [7] Z (AL Z LX Z Z Z) (Aj [35] Z Z (λ_=>A8 (AQ Z Z Z CL Z)) (AP [7] Z (AL Z LW Z Z Z) (Aj [37] Z Z (λ_=>A8 (AQ Z Z Z CL Z)) (AP [36,38] Z (EI KQ Tk Z Z Z) (J2 [34,39] [] Z Z Z (λ_=>A8 (IR (N) (CK i.pa[m].f i.pa[m].t) (0) _ Z Z Z CQ C4 Pp Z Z)) (λ_=>A8 (IR (Be (N) (CK i.pa[m].f i.pa[m].t) (0)) (CK i.pa[m].f i.pa[m].t) (0) _ Z Z Z CQ C4 Pp (EW _ _ _ _) Z)) (AP [7] Z (AL Z LV Z Z Z) (Aj [41] Z Z (λ_=>A8 (AQ Z Z Z Fn Z)) ?_))))))));have g:=(a (CK i.pa[m].f i.pa[m].t)).1;refine AP [40,42] Z (KL Z Z (Θ _ (by omega)) Z) (F5 [34,39] [2] [(44,_)] Z Z (λ_=>F6 (HZ (N) (CK i.pa[m].f i.pa[m].t) (0) Z Z Z CQ C4 Pp Z Z)) (.inr ⟨44,_,Z,Z,Z,Z,Z⟩) Z Z Z Z Z ?_ (hCn:=RW Z));refine AP [44] Z (DG Z Z Z) (Bk 12 Z Z Z (Ab 13 Z Z (V (H3 (N) (CK i.pa[m].f i.pa[m].t) (0) (Ad N (CK i.pa[m].f i.pa[m].t) 0 - i.pa[m].n) Z Z Z C4 Z Z) (AC ⟨Z,?_⟩))));refine Bx (AD (CD [[],[],[1],[],[3],[1,2,3,4],rg 6,[],[7],rg 9,[0,1,2,3,4,5,7,8],[0,1,2,3,4,5,7,8,10],rg 12] mixed Z (aK 2 ([B1 Bd AF (Be (st1 N i.pa[m]) (CK i.pa[m].t i.pa[m].f) 0)]) Z ?_)));refine Ak 3 Z Z (AP [7] Z (AL Z LW Z Z Z) (Aj [47] Z Z (λ_=>A8 (AQ Z Z Z CL Z)) (AP [7] Z (AL Z LX Z Z Z) (Aj [49] Z Z (λ_=>A8 (AQ Z Z Z CL Z)) (AP [48,50] Z (EI KQ Tk Z Z Z) (J2 [46,51] [] Z Z Z (λ_=>A8 (IR (st1 N i.pa[m]) (CK i.pa[m].t i.pa[m].f) (0) _ Z Z Z CQ C4 Pp Z Z)) (λ_=>A8 (IR (Be (st1 N i.pa[m]) (CK i.pa[m].t i.pa[m].f) (0)) (CK i.pa[m].t i.pa[m].f) (0) _ Z Z Z CQ C4 Pp (EW _ _ _ _) Z)) (AP [7] Z (AL Z LV Z Z Z) (Aj [53] Z Z (λ_=>A8 (AQ Z Z Z Fn Z)) ?_))))))));have g:=(a (CK i.pa[m].t i.pa[m].f)).2.1;refine AP [52,54] Z (Ah Z Z (Θ _ (by omega)) Z) (F5 [46,51] [2] [(56,_)] Z Z (λ_=>F6 (HZ (st1 N i.pa[m]) (CK i.pa[m].t i.pa[m].f) (0) Z Z Z CQ C4 Pp Z Z)) (.inr ⟨56,_,Z,Z,Z,Z,Z⟩) Z Z Z Z Z ?_ (hCn:=RW Z));refine AP [56] Z (DG Z Z Z) (Bk 12 Z Z Z (Ab 13 Z Z (V (H3 (st1 N i.pa[m]) (CK i.pa[m].t i.pa[m].f) (0) (Ad (st1 N i.pa[m]) (CK i.pa[m].t i.pa[m].f) 0+i.pa[m].n) Z Z Z C4 Z Z) (AC ⟨Z,?_⟩))));refine Bx (AD ?_);refine CD [[],[],[1],[1,2],[0,1,2,3],[],[5],rg 7,[0,1,2,3,5,6],[0,1,2,3,5,6,8],rg 10] mixed Z (aK 2 ([B1 Bd AF (Be (st2 (st1 N i.pa[m]) i.pa[m]) (DL i.pa[m].f) 0)]) Z (Ak 3 Z Z (AP [7] Z (AL Z LX Z Z Z) (Aj [59] Z Z (λ_=>A8 (AQ Z Z Z CL Z)) (AP [60] Z (EI KQ Tk Z Z Z) (J2 [58,61] [] Z Z Z (λ_=>A8 (IR (st2 (st1 N i.pa[m]) i.pa[m]) (DL i.pa[m].f) (0) _ Z Z Z CQ C4 Pp Z Z)) (λ_=>A8 (IR (Be (st2 (st1 N i.pa[m]) i.pa[m]) (DL i.pa[m].f) (0)) (DL i.pa[m].f) (0) _ Z Z Z CQ C4 Pp (EW _ _ _ _) Z)) (AP [7] Z (AL Z LV Z Z Z) (Aj [63] Z Z (λ_=>A8 (AQ Z Z Z Fn Z)) ?_))))))));have g:=(a (DL i.pa[m].f)).2.2.1;refine AP [62,64] Z (KL Z Z (Θ _ (by omega)) Z) (F5 [58,61] [2] [(66,_)] Z Z (λ_=>F6 (HZ (st2 (st1 N i.pa[m]) i.pa[m]) (DL i.pa[m].f) (0) Z Z Z CQ C4 Pp Z Z)) (.inr ⟨66,_,Z,Z,Z,Z,Z⟩) Z Z Z Z Z ?_ (hCn:=RW Z));refine AP [66] Z (DG Z Z Z) (Bk 10 Z Z Z (Ab 11 Z Z (V (H3 (st2 (st1 N i.pa[m]) i.pa[m]) (DL i.pa[m].f) (0) (Ad (st2 (st1 N i.pa[m]) i.pa[m]) (DL i.pa[m].f) 0 - i.pa[m].n) Z Z Z C4 Z Z) (AC ⟨Z,?_⟩))));refine Bx ?_;refine CD [[],[],[1],[1,2],[0,1,2,3],[],[5],rg 7,[0,1,2,3,5,6],[0,1,2,3,5,6,8],rg 10] mixed Z (aK 2 ([B1 Bd AF (Be (st3 (st2 (st1 N i.pa[m]) i.pa[m]) i.pa[m]) (DL i.pa[m].t) 0)]) Z (Ak 3 Z Z (AP [7] Z (AL Z LW Z Z Z) (Aj [69] Z Z (λ_=>A8 (AQ Z Z Z CL Z)) (AP [70] Z (EI KQ Tk Z Z Z) (J2 [68,71] [] Z Z Z (λ_=>A8 (IR (st3 (st2 (st1 N i.pa[m]) i.pa[m]) i.pa[m]) (DL i.pa[m].t) (0) _ Z Z Z CQ C4 Pp Z Z)) (λ_=>A8 (IR (Be (st3 (st2 (st1 N i.pa[m]) i.pa[m]) i.pa[m]) (DL i.pa[m].t) (0)) (DL i.pa[m].t) (0) _ Z Z Z CQ C4 Pp (EW _ _ _ _) Z)) (AP [7] Z (AL Z LV Z Z Z) (Aj [73] Z Z (λ_=>A8 (AQ Z Z Z Fn Z)) ?_))))))));have g:=(a (DL i.pa[m].t)).2.2.2;refine AP [72,74] Z (Ah Z Z (Θ _ (by omega)) Z) (F5 [68,71] [2] [(76,_)] Z Z (λ_=>F6 (HZ (st3 (st2 (st1 N i.pa[m]) i.pa[m]) i.pa[m]) (DL i.pa[m].t) (0) Z Z Z CQ C4 Pp Z Z)) (.inr ⟨76,_,Z,Z,Z,Z,Z⟩) Z Z Z Z Z ?_ (hCn:=RW Z));refine AP [76] Z (DG Z Z Z) (Bk 10 Z Z Z (Ab 11 Z Z (V (H3 (st3 (st2 (st1 N i.pa[m]) i.pa[m]) i.pa[m]) (DL i.pa[m].t) (0) (Ad (st3 (st2 (st1 N i.pa[m]) i.pa[m]) i.pa[m]) (DL i.pa[m].t) 0+i.pa[m].n) Z Z Z C4 Z Z) (AC ⟨Z,?_⟩))));refine Bx (AE (J (Ah Z Z (AK (m+1) (by omega)) Z) (goMv Z Z (AC ?_))));exact ⟨(m+1,_),⟨by show m+1<=_;omega,by show _=sumL (EB i.po++HS (i.pa.take (m+1)));rw [RN b,<-ψi];exact (bk s).2.2.2⟩,by show i.pa.length - (m+1)<i.pa.length - m;omega,AU v [2] Z (Z) ⟨Z,Z,Z,Z,trivial⟩⟩
  .refine Ar (AD (AE (goMv Z Z (AB Z Z (AC (AZ ?_))))));exact ⟨_,[2],_,AY Z,Z,Z,Z,by rw [s,θ (by have h:=j;omega)]<;>rfl⟩
end Go.Proofs.YteifpcnphnhaoaaGreat
