import Derived.Test.YteifpcnphnhaoaaGreatMg15
import Derived.SizedLaws
open Go.Proofs.Tryz
namespace Go.Proofs.YteifpcnphnhaoaaGreat
open Go.ChangeShapes Go.WideShapes Go.ChangeAt Go.RowKit Go.Deep
variable {w:World}
abbrev nF:Nat ->Prop:=λ_=>False
def Vl (w:World) (d:D) (cs:List Value):Prop:=cs.length=d.cells.length/\(∀c∈d.cells,c.one=true)/\∀(j:Nat) c u,d.cells[j]? =some c ->cs[j]? =some u ->AN w nF c u
theorem JZ {d:D} {u:Value} (a:d.one=true) (h:AN w nF d u):Vl w d [u]:=by grind [Vl,D.cells_one]
theorem Vl.argS {w:World} {b:Nat ->Nat ->Value} {O:Nat ->Prop} {a:List D} {cs:Array Value} (c:O=nF) (h:Vl w (.agg a) (Value.agg cs).cells.toList):AR w O b (.d (.agg a)) (.agg cs):=by
 subst c;obtain ⟨i,g,f⟩:=h;have:=AN.agg (w:=w) (O:=nF) (cs:=a) (vs:=cs.toList) i g f;exact .d (by simpa using this)
section
variable {H:Type} {enc:TypeId×Value ->H} {P:Program} {w:World}
variable {a:Type} {Q:a ->Prop} {t:TypeId} {c:a ->D} {k f:Nat} {g:TypeId} {h:Type}
def Bw {α:Type} (enc:TypeId×Value ->H) (P:Program) (w:World) (t:TypeId) (k:Nat) (emb:α ->D) (Q:α ->Prop):Prop:=
 ∀fuel cs x,DataW.trod enc P w 0 (λ_=>true) true fuel t cs=some x ->(∀p∈x.2,p.block<w.heap.size) ->(∀n∈x.1.weights P t,n<=reachBytes) ->∃a,Q a/\(emb a).cells.length=k/\Vl w (emb a) cs
theorem M0 {l:List (DataW H)} {d:DataW H} (b:d∈l) {n:Nat} (f:n∈d.weights P g):n∈DataW.weightsAll P g l:=by
 induction l with
 | nil=>cases b
 | cons a r c=>
  grind [DataW.weightsAll]
theorem kO {k:IntKind} (c:P.underlying t=some (.int k)):Bw enc P w t 1 (λz:Int=> .raw (.int k z)) (λz=>k.min<=z/\z<=k.max):=λb f x h _ _=>by
 obtain ⟨z,rfl,_,a⟩:=DataW.trod_int c h;simp only [Lit.wf,fV,gR] at a;exact ⟨z,a,Z,JZ Z (.raw Z)⟩
theorem kN (c:P.underlying t=some .string):Bw enc P w t 1 (λs:ByteArray=> .raw (.string s)) (λs=>s.size<=140737488351232):=λa g x h _ b=>by
 obtain ⟨s,rfl,rfl,f⟩:=DataW.trod_string c h;exact ⟨s,by simpa [DataW.weights,reachBytes] using b,Z,JZ Z (.raw Z)⟩
theorem ND {b:Nat} (W:P.underlying t=some (.slice g)) (hk:P.cellsOf g=k) (Y:0<k) (N:P.bytesOf g=b) (hO:Bw enc P w g k c Q):Bw enc P w t 1 (λl:List a=> .sl none (l.map c)) (λl=>(∀r∈l,Q r)/\l.length*b<=140737488351232):=λfuel cs x h K G=>by
 rcases open_slice W h with ⟨rfl,rfl⟩ | ⟨r,u,cap,m,n,Dd,Pl,rfl,_,hl,hm,I,rfl,hi⟩
 .refine ⟨[],⟨by simp,by simp⟩,Z,JZ Z (.sl k (λb N=>by cases N) (λ_=>rfl) Z (ϖ _) (υ _) (by simp) (by simp) (λb o g=>by cases g))⟩
 .simp only [if_true] at I;subst I
  have R:∀i,i<u ->∃y:a,Q y/\(c y).cells.length=k/\∃s:List Value,Vl w (c y) s/\∀j,j<k ->w.cell? ((r.add (i*k)).add j)=s[j]?:=by
   intro i M;obtain ⟨s,E,V⟩:=hi i (by omega)
   obtain ⟨y,hq,U,hr⟩:=hO _ _ _ V (λp hp=>K p (by
    simp only [ν,im,Θ]
    exact .inr ⟨i,by omega,hp⟩)) (λn hn=>G n (by
    simp only [DataW.weights,W,fP,ν]
    exact .inr (.inl (M0 (κ.2 ⟨i,Θ.2 M,Z⟩) hn))))
   obtain ⟨_,B,O⟩:=World.cells?_some E;rw [hk] at O;exact ⟨y,hq,U,s,hr,O⟩
  obtain ⟨l,L,z⟩:=k7 u R;refine ⟨l,⟨λy A=>?_,?_⟩,Z,JZ Z (.sl k (λb N=>by cases N) (λg=>by cases g) (by rw [ψ];exact L) hl hm (λx v=>?_) (λX=>?_) (λb o g i x v=>?_))⟩
  .obtain ⟨i,C,rfl⟩:=gF A;exact (z i _ (ω C)).1
  .have D:=G ((u+(m - u))*P.bytesOf g) (by simp [DataW.weights,W]);rw [N] at D;have F:=gz b (show l.length<=u+(m - u) by omega);have T:reachBytes=140737488351232:=rfl;omega
  .obtain ⟨y,A,rfl⟩:=κ.1 v;obtain ⟨i,C,rfl⟩:=gF A;exact (z i _ (ω C)).2.1
  .have h0:0<l.length:=by
    cases l with
    | nil=>exact absurd Z X
    | cons _ _=>simp
   obtain ⟨_,D,s,F,T⟩:=z 0 _ (ω h0);have h4:=T 0 Y;have B:s.length=k:=by rw [F.1,D]
   rw [ω (by omega)] at h4;have:r.spot=none:=by simpa [Addr.add] using World.cell?_spot h4
   exact ⟨r.block,r.off,by cases r;simp_all⟩
  .rw [η] at v
   cases A:l[i]? with
   | none=>rw [A] at v;cases v
   | some y=>
    rw [A] at v;injection v with v
    subst v;obtain ⟨hq,D,s,F,T⟩:=z i y A;injection g with g
    subst g;have B:s.length=k:=by rw [F.1,D]
    have M:i<u:=by rw [<-L];exact (φ.1 A).1
    have hin:∀j,j<k ->w.cell? ⟨b,o+i*k+j,none⟩=s[j]?:=λj S=>by
     have:=T j S
     rwa [Go.WideShapes.add_plain,Go.WideShapes.add_plain] at this
    refine .ptr (λj=>s.getD j undef) ?_ (λh=>h) F.2.1 (λj f E=>?_) (λj f E=>?_)
    .have J:MemPlace.cell b (o+i*k)∈MemPlace.row ⟨b,o,none⟩ (m*P.cellsOf g):=MemPlace.mem_row.2 ⟨i*k,by
      rw [hk];have:(i+1)*k<=m*k:=gz _ (by omega)
      rw [i4] at this;omega,Z⟩
     exact K _ (iX _ J)
    .have S:j<k:=by rw [<-D];exact (φ.1 E).1
     rw [hin j S,Ψ,ω (by omega)];rfl
    .have S:j<k:=by rw [<-D];exact (φ.1 E).1
     rw [Ψ,ω (by omega)];exact F.2.2 j f _ E (ω (by omega))
def R1 {α:Type} (enc:TypeId×Value ->H) (P:Program) (w:World) (off total:Nat) (fs:List Field) (emb:α ->List D) (Q:α ->Prop):Prop:=
 ∀n (cs:List Value),cs.length=total ->(∀(i:Nat) f,fs[i]? =some f ->∃x,DataW.trod enc P w 0 (λ_=>true) true n f.type ((cs.drop f.offset).take (P.cellsOf f.type))=some x/\(∀p∈x.2,p.block<w.heap.size)/\∀n∈x.1.weights P f.type,n<=reachBytes)→
  ∃a,Q a/\off+(emb a).length=total/\(∀c∈emb a,c.one=true)/\∀(j:Nat) c u,(emb a)[j]? =some c ->cs[off+j]? =some u ->AN w nF c u
theorem Ir:R1 enc P w f f [] (λ_:Unit=> []) (λ_=>True):=λn a _ _=>⟨(),trivial,Z,by simp,by simp⟩
theorem Bj {s:Nat} {l:Field} {G:List Field} {v:h ->List D} {I:h ->Prop} (R:l.offset=s) (S:P.cellsOf l.type=k) (V:Bw enc P w l.type k c Q) (U:R1 enc P w (s+k) f G v I):
  R1 enc P w s f (l::G) (λr:a×h=>(c r.1).cells++v r.2) (λr=>Q r.1/\I r.2):=λn W C F=>by
 obtain ⟨x,N,O,B⟩:=F 0 l rfl;obtain ⟨r,M,y,A⟩:=V _ _ _ N O B;obtain ⟨b,L,X,K,J⟩:=U n W C (λi g T=>F (i+1) g (by simpa using T));rw [R,S] at A;refine ⟨(r,b),⟨M,L⟩,by simp only [Δ,y];omega,λo t=>?_,λj o u t E=>?_⟩
 .rcases ν.1 t with t | t
  .exact A.2.1 o t
  .exact K o t
 .rcases Nat.lt_or_ge j k with z | z
  .rw [m5 (by rw [y];exact z)] at t;exact A.2.2 j o u t (by rw [ia,ϱ z,i9];exact E)
  .rw [m6 (by rw [y];exact z),y] at t;exact J (j - k) o u t (by rw [show s+k+(j - k)=s+j by omega];exact E)
theorem Iq {A:Type} {t:TypeId} {z:Array Field} {k:Nat} {g:A ->List D} {Q:A ->Prop} (B:P.underlying t=some (.struct z)) (E:P.cellsOf t=k) (h:R1 enc P w 0 k z.toList g Q):Bw enc P w t k (λa=> .agg (g a)) Q:=λF G x L y v=>by
 obtain ⟨r,n,_,rfl,C,o,S⟩:=DataW.trod_struct B L
 obtain ⟨a,K,s,J,I⟩:=h n G (by rw [C,E]) (λi f R=>by
  have l:z[i]? =some f:=by simpa using R
  have b:i<r.length:=by rw [o];exact (gr.1 l).1
  refine ⟨r[i],by rw [S i f l];exact ω b,λp N=>y p (im.2 ⟨_,ξ b,N⟩),λn O=>v n ?_⟩;simp only [DataW.weights,B]
  refine DataW.weights_mem_each (j:=i) (t:=f.type) (d:=r[i].1) (by rw [η];simp [l]) (by rw [η,ω b];rfl) n O)
 rw [gf] at s;exact ⟨a,K,s,by show G.length=_;rw [C,E];exact s.symm,J,λj c u T M=>I j c u T (by rw [gf];exact M)⟩
theorem Bw.as {i:h ->D} {j:h ->Prop} (b:Bw enc P w t k c Q) (f:a ->h) (o:∀g,c g=i (f g)) (l:∀g,Q g ->j (f g)):Bw enc P w t k i j:=by grind [Bw]
end
theorem Y4 {P:Program} {f:FuncId} {k:List AV} (h:AK P f k (.raw (.bool true))) {w:World} {vs:List Value} (C:vs.length=k.length) (B:∀(i:Nat) a v,k[i]? =some a ->vs[i]? =some v ->AR w nF (λ_ _=>undef) a v):
  Calls P f vs.toArray w λe y=>e= .returned (.bool true)/\Below w.heap.size w y:=by
 have l:∀c b,¬Am c [] b:=λc b ⟨_,_,_,h,_⟩=>by cases h
 let c:Nat ->Nat ->Value:=λ_ _=>undef
 let F:Fr:=Fr.mk none (.marks w.heap.size) w nF (Am c []) (CS c []) (λb t=>t.elim) [] (λ_ _ _ h=>DF h)
 have E:F.O c []=nF:=funext λb=>propext ⟨λh=>h.elim id λh=>(l c b h).elim,λh=>h.elim⟩
 have s:BP F [] c w:=⟨(λf i o u=>by cases u),(λf i L K o J b u=>by cases u),λb t=>(l c b t).elim,Z,Z,Z,ϖ _,λ_ _ _=>rfl,λf i b t=>mL t,ϖ _⟩
 refine (h.2 F c vs Z Z ⟨Z,Z,Z⟩ s C (λi a v D A=>by rw [E];exact B i a v D A)).mono λe y ⟨v,r,M,z,I,⟨H,G⟩,g,j⟩=>?_;subst I H G;refine ⟨?_,j.os,j.tape,j.output,j.size0,λb x=>j.keep b x (l c b)⟩
 cases g with
 | d g=>
  cases g with
  | raw _=>rfl
end Go.Proofs.YteifpcnphnhaoaaGreat
namespace Go.Proofs.YteifpcnphnhaoaaGreat
open Go.ChangeShapes Go.WideShapes Go.ChangeAt Go.RowKit
section
variable {H:Type} {enc:TypeId×Value ->H} {P:Program} {w:World}
variable {t:TypeId}
theorem Bw.asQ {i g:Type} {k:Nat} {c:i ->D} {Q:i ->Prop} {b:g ->D} {j:g ->Prop} (h:Bw enc P w t k c Q) (f:i ->g) (o:∀a,Q a ->c a=b (f a)) (l:∀a,Q a ->j (f a)):Bw enc P w t k b j:=by grind [Bw]
theorem WV (a:P.underlying t=some (.int .i64)):Bw enc P w t 1 (λn:Int=> .raw (.int .i64 n)) (λn=> -9223372036854775808<=n/\n<=9223372036854775807):=
 (kO a).asQ id (λ_ _=>rfl) (λ_ h=>h)
theorem bR (b:P.underlying t=some .string):Bw enc P w t 1 Aj (λl=>l.length<=140737488351232):=
 (kN b).asQ (λs=>s.data.toList) (λa _=>rfl) (λa h=>by simpa using h)
end
end Go.Proofs.YteifpcnphnhaoaaGreat
namespace Go.Proofs.YteifpcnphnhaoaaGreat
open Go.RowKit
variable {M:List (List UInt8×Int)} {k:Nat} {c:Type} {f:List c} {h:c ->Int} {j:Prop} {E:Int} {x:c}
set_option maxRecDepth 100000
abbrev AF (z:Int):D:= .raw (.int .i64 z)
structure US where
 o:List UInt8
 k:Int
 a:List UInt8
structure AM where
 k:Int
 acc:US
 f:List UInt8
 t:List UInt8
structure FP where
 acc:US
 d:Int
structure O6 where
 f:List UInt8
 t:List UInt8
 n:Int
structure eR where
 id:Int
 pr:Int
 sq:Int
 po:List FP
 pa:List O6
 af:List Int
structure eY where
 r:AM
 n:Int
structure ee where
 ro:List eY
 it:List eR
theorem US.eq_iff {x y:US}:x=y↔x.o=y.o/\x.k=y.k/\x.a=y.a:=by cases x;cases y;simp
instance:DecidableEq US:=λ_ _=>decidable_of_iff _ US.eq_iff.symm
theorem AM.eq_iff {x y:AM}:x=y↔x.k=y.k/\x.acc=y.acc/\x.f=y.f/\x.t=y.t:=by cases x;cases y;simp
instance:DecidableEq AM:=λ_ _=>decidable_of_iff _ AM.eq_iff.symm
abbrev uQ (x:US):D:= .agg [Aj x.o,AF x.k,Aj x.a]
abbrev CC (x:AM):D:= .agg [AF x.k,Aj x.acc.o,AF x.acc.k,Aj x.acc.a,Aj x.f,Aj x.t]
abbrev CF (x:FP):D:= .agg [Aj x.acc.o,AF x.acc.k,Aj x.acc.a,AF x.d]
abbrev Fk (x:O6):D:= .agg [Aj x.f,Aj x.t,AF x.n]
abbrev Af (x:eR):D:= .agg [AF x.id,AF x.pr,AF x.sq,.sl none (x.po.map CF),.sl none (x.pa.map Fk),.sl none (x.af.map AF)]
abbrev Bt (x:eY):D:= .agg [AF x.r.k,Aj x.r.acc.o,AF x.r.acc.k,Aj x.r.acc.a,Aj x.r.f,Aj x.r.t,AF x.n]
abbrev Bf (x:ee):D:= .agg [.sl none (x.ro.map Bt),.sl none (x.it.map Af)]
def Xz (x:AM):List Value:=[.int .i64 x.k,Lp x.acc.o,.int .i64 x.acc.k,Lp x.acc.a,Lp x.f,Lp x.t]
def UJ (x:US):List Value:=[Lp x.o,.int .i64 x.k,Lp x.a]
abbrev r6:List TypeDesc:=[.int .i64,.string,.int .i64,.string,.string,.string]
abbrev qU:List TypeDesc:=[.string,.int .i64,.string]
theorem OA (a b:Int):OB (.int .i64 a) (.int .i64 b)=decide (a=b):=by
 simp only [OB];exact Bool.beq_eq_decide_eq a b
theorem Nz (a b:List UInt8):OB (Lp a) (Lp b)=decide (a=b):=by
 simp only [OB,Lp,<-beq_toListBytes,QA]
theorem jq (a b:AM):Bb (Xz a) (Xz b)=decide (a=b):=by grind [Xz,Bb,OA,Nz,AM.eq_iff,US.eq_iff]
theorem XN (a b:US):Bb (UJ a) (UJ b)=decide (a=b):=by grind [UJ,Bb,OA,Nz,US.eq_iff]
theorem mM {d:TypeDesc} {b:List TypeDesc} {u:Value} {a:List Value} (h:MapKept.IsKey d u) (c:BF b a):BF (d::b) (u::a):=by grind [BF]
theorem PY:BF [] []:=⟨Z,by simp⟩
theorem Xy (a:AM):BF r6 (Xz a):=mM Z (mM trivial (mM Z (mM trivial (mM trivial (mM trivial PY)))))
theorem I4 (a:US):BF qU (UJ a):=mM trivial (mM Z (mM trivial PY))
theorem jo (a:AM):(CC a).val? =some (.agg (Xz a).toArray):=rfl
theorem By:B7 prog 64 CC (λa=> .agg (Xz a).toArray):=B7.flat (ds:=r6) (by kernel_rfl) (by kernel_rfl) jo Xy jq
theorem Pz {a:List (Nat×Option (List AI))} {f:Nat} {i b:List AI} (h:BW a f=some (some b)):∀g c,BW a g=some c ->C2 f i b g c:=by grind
theorem jt {p:Prop} [Decidable p] [Decidable j] (h:p↔j):AV.d (.raw (.bool (decide p)))= .d (.raw (.bool (decide j))):=by rw [decide_eq_decide.2 h]
theorem oG [Decidable j] (h:j):AV.d (.raw (.bool true))= .d (.raw (.bool (decide j))):=by rw [Υ h]
theorem Mp [Decidable j] (h:¬j):AV.d (.raw (.bool false))= .d (.raw (.bool (decide j))):=by rw [fb h]
theorem Ax {a b:Int} (h:a=b):AV.d (.raw (.int .i64 a))= .d (.raw (.int .i64 b)):=by rw [h]
theorem AO (n:Nat) (h:n<=9223372036854775807):IntKind.i64.wrap (n:Int)=(n:Int):=Ω _ (by omega)
theorem H4 (n b c:Int):AK prog 167 [.d (AF n),.d (AF b),.d (AF c)] (.raw (.bool (decide (b<=n/\n<=c)))):=by
 refine As func167 Z Z ntmps167 Z Z Z λF f=>(AC (AE ?_));refine AB Z Z (AD (AC (AE (dd Z Z (dd Z Z (J (ES Z Z Z) (dd Z Z (Ij 10 Z (λa=>?_) (λa=>?_)))))))));refine Ad Z Z Z (dd Z Z (Ad Z Z Z (dd Z Z (Ad Z Z Z (J (aD Z Z Z) (J (Ff Z Z Z Z) ?_))))))
 rotate_left
 refine A9 Z Z Z Z (A9 Z Z Z Z (A9 Z Z Z Z (J (EA Z Z Z Z) ?_)))
 all_goals
  refine AB Z Z (AD (A4 ?_));exact ⟨_,[],[],A3 Z,Z,Z,by first | exact jt (by omega) | exact Mp (by omega),rfl⟩
theorem G0 (n b c:Int):AK prog 178 [.d (AF n),.d (AF b),.d (AF c)] (.raw (.bool (decide (b<=n/\n<=c)))):=by
 refine As func178 Z Z ntmps178 Z Z Z λF f=>(AC (AE ?_));refine AB Z Z (AD (AC (AE (dd Z Z (dd Z Z (J (ES Z Z Z) (dd Z Z (Ij 10 Z (λa=>?_) (λa=>?_)))))))));refine Ad Z Z Z (dd Z Z (Ad Z Z Z (dd Z Z (Ad Z Z Z (J (aD Z Z Z) (J (Ff Z Z Z Z) ?_))))))
 rotate_left
 refine A9 Z Z Z Z (A9 Z Z Z Z (A9 Z Z Z Z (J (EA Z Z Z Z) ?_)))
 all_goals
  refine AB Z Z (AD (A4 ?_));exact ⟨_,[],[],A3 Z,Z,Z,by first | exact jt (by omega) | exact Mp (by omega),rfl⟩
theorem nH (n:Int):AK prog 211 [.d (AF n)] (.raw (.bool false)):=by
 refine As func211 Z Z ntmps211 Z Z Z λF a=>(AC (AE (AB Z Z ?_)));refine AD (AC (AE (dd Z Z (dd Z Z (J (D7 Z Z Z) (AB Z Z (AD (A4 ?_))))))));exact ⟨_,[],[],A3 Z,Z,Z,by simp,Z⟩
theorem bp (l:List UInt8):AK prog 239 [.d (Aj l)] (.raw (.bool false)):=by
 refine As func239 Z Z ntmps239 Z Z Z λF a=>(AC (AE (AB Z Z ?_)));refine AD (AC (AE (dd Z Z (dd Z Z (J (Ew Z Z Z) (AB Z Z (AD (A4 ?_))))))));exact ⟨_,[],[],A3 Z,Z,Z,by simp,Z⟩
def FV (a b:Int):Int:=if a<b then -1 else if b<a then 1 else 0
def Qb (a b:List UInt8):Bool:=Op.bytesLess a b
def HU (a b:List UInt8):Int:=if Qb a b=true then -1 else if Qb b a=true then 1 else 0
theorem F4 (a b:List UInt8):Op.bytesLess (⟨a.toArray⟩:ByteArray).toList (⟨b.toArray⟩:ByteArray).toList=Qb a b:=by rw [Lib.toList_data,Lib.toList_data];rfl
theorem RL (a b:Int):AK prog 166 [.d (AF a),.d (AF b)] (AF (FV a b)):=by
 refine As func166 Z Z ntmps166 Z Z Z λF g=>(AC (AE ?_));refine AB Z Z (AD (AC (AE (dd Z Z (J (BT (nH a) Z Z) (AB Z Z (AD (AC ?_))))))));refine AE (dd Z Z (J (BT (nH b) Z Z) (AB Z Z (AD (AC (AC (AE (dd Z Z ?_))))))));refine AD (D3 Z (Z) (AZ (AC (AC (AE (dd Z Z (AD (D3 Z (Z) ?_))))))));refine AZ (AC (AC (AE (dd Z Z (dd Z Z (J (BN Z Z Z) (AD (Ac Z (λf=>?_) (λf=>?_)))))))))
 rotate_left
 refine AZ (AC (AC (AE (dd Z Z (dd Z Z (J (Ot Z Z Z) (AD (Ac Z (λc=>?_) (λc=>?_)))))))))
 rotate_left
 refine AZ ?_
 all_goals
  refine AC (AE (AB Z Z (AD (A4 ?_))));exact ⟨_,[],[],A3 Z,Z,Z,by first | exact Ax (by unfold FV;rw [ϱ (by assumption)]) | exact Ax (by unfold FV;rw [θ (by assumption),ϱ (by omega)]) | exact Ax (by unfold FV;rw [θ (by assumption),θ (by omega)]),Z⟩
theorem RK (a b:List UInt8):AK prog 196 [.d (Aj a),.d (Aj b)] (AF (HU a b)):=by
 refine As func196 Z Z ntmps196 Z Z Z λF g=>(AC (AE ?_));refine AB Z Z (AD (AC (AE (dd Z Z (J (BT (bp a) Z Z) (AB Z Z (AD (AC ?_))))))));refine AE (dd Z Z (J (BT (bp b) Z Z) (AB Z Z (AD (AC (AC (AE (dd Z Z ?_))))))));refine AD (D3 Z (Z) (AZ (AC (AC (AE (dd Z Z (AD (D3 Z (Z) ?_))))))));refine AZ (AC (AC (AE (dd Z Z (dd Z Z (J (jh Z Z Z) (AD (JJ Z (λc=>?_) (λc=>?_)))))))));rw [F4] at c
 rotate_left
 rw [F4] at c;refine AZ (AC (AC (AE (dd Z Z (dd Z Z (J (ji Z Z Z) (AD (JJ Z (λf=>?_) (λf=>?_)))))))));rw [F4] at f
 rotate_left
 rw [F4] at f;refine AZ ?_
 all_goals
  refine AC (AE (AB Z Z (AD (A4 ?_))));exact ⟨_,[],[],A3 Z,Z,Z,by first | exact Ax (by unfold HU;rw [ϱ c]) | exact Ax (by unfold HU;rw [θ (by rw [c];decide),ϱ f]) | exact Ax (by unfold HU;rw [θ (by rw [c];decide),θ (by rw [f];decide)]),Z⟩
abbrev Mx:Int:=1000000000000000
def Bd:List Int ->Int
 | []=>0
 | e::r=>if e=0 then Bd r else e
theorem Yn (a:k<f.length):Bd ((f.drop k).map h)=if h f[k]=0 then Bd ((f.drop (k+1)).map h) else h f[k]:=by
 rw [m0 a];rfl
theorem GM (a:¬k<f.length):Bd ((f.drop k).map h)=0:=by
 rw [List.drop_of_length_le (by omega)];rfl
theorem Dm {l:List c} {k:Nat} (b:k<l.length) (a:E=Bd ((l.drop k).map h)):(h l[k]=0 ->E=Bd ((l.drop (k+1)).map h))/\∀e,h l[k]=e ->e≠0 ->e=E:=by grind [Yn]
def SW (p:FP):Int:=if p.acc.o=[]\/p.acc.a=[] then 6 else if ¬(0<=p.acc.k/\p.acc.k<=4) then 11 else if ¬(-Mx<=p.d/\p.d<=Mx) then 12 else 0
def Rf (p:O6):Int:=if p.f=[]\/p.t=[] then 6 else if p.f=p.t then 7 else if ¬(0<=p.n/\p.n<=Mx) then 2 else 0
def UM (id:Int) (l:List Int) (k:Nat):Int:=if ¬(0<=l.getD k 0/\l.getD k 0<=1000000000) then 2 else if l.getD k 0=id\/l.getD k 0∈l.take k then 7 else 0
def Mw (i:eR):Int:=Bd (i.po.map SW)
def Uz (i:eR):Int:=Bd (i.pa.map Rf)
def UE (i:eR):Int:=Bd ((List.range i.af.length).map (UM i.id i.af))
def Co (l:List FP) (a:List UInt8):Int:=(l.map λp=>if p.acc.a=a then p.d else 0).sum
def UA (i:eR):Int:=if ∃p∈i.po,Co i.po p.acc.a≠0 then 14 else 0
theorem J8 (b:k<f.length) (h:x∉f.take k) (a:x≠f[k]):x∉f.take (k+1):=by
 rw [χ b,ν]
 simp [h,a]
theorem Sg (a:¬k<f.length) (h:x∉f.take k):x∉f:=by
 rwa [ς (by omega)] at h
def kh (x:Int) (l:List Int):Int:=if x∈l then (l.idxOf x:Int) else -1
theorem ca {l:List Int} {x:Int} (a:k<l.length) (h:x∉l.take k) (b:x=l[k]):kh x l=(k:Int):=by grind [kh,m0,jH]
theorem Wr (l:List Int) (x:Int) (i:l.length<=140737488355328):AK prog 176 [.d (.sl none (l.map AF)),.d (AF x)] (AF (kh x l)):=by
 refine As func176 Z Z ntmps176 Z Z Z λF j=>(AC (AE (AB Z Z (AD ?_))));refine AC (AC (AE (dd Z Z (J (CB Z E0 Z) (dd Z Z (AD (A0 (HD (α:=Nat) (λk=>⟨19,[(0,.d (.sl none (l.map AF))),(1,.d (AF x)),(7,(.d (AF (l.length:Int)))),(8,(.d (AF (k:Int))))],[]⟩) (λk=>k<=l.length/\x∉l.take k) (λk=>l.length - k) (0) (⟨υ _,by simp⟩) (eF ⟨Z,Z,Z,Z,trivial⟩) ?_))))))));rintro k ⟨g,c⟩;refine AC (AE (J (BN Z Z Z) (AD (AC (Ac Z (λf=>?_) (λf=>?_))))))
 .have a:k<l.length:=Ba f;refine AZ (AC (A0 (AC (AE (dd Z Z (AB Z Z (AD (AC ?_))))))));refine AE (dd Z Z (dd Z Z (dd Z Z (J (Bh (k) Z Z (Z) (Ab a) E0 Z BU Z) (J (D2 Z Z Aw Z) (J (Li Z Z Z) (AD (Ac Z (λb=>?_) (λb=>?_)))))))))
  .refine AC (AE (dd Z Z (AB Z Z (AD (A4 ?_)))));exact ⟨_,[],[],A3 Z,Z,Z,Ax (ca a c b).symm,Z⟩
  .refine AZ (AE (J (Ar Z Z (AO (k+1) (by omega)) Z) (dd Z Z (AD ?_))));exact ⟨k+1,⟨by show k+1<=_;omega,J8 a c b⟩,by show l.length - (k+1)<l.length - k;omega,⟨Z,Z,λ_ _=>R8.get (l:=[(0,_),(1,_),(7,_),(8,_)]) ⟨Z,Z,Z,Z,trivial⟩⟩⟩
 .refine BC (AC (AE (AB Z Z (AD (A4 ?_)))));exact ⟨_,[],[],A3 Z,Z,Z,Ax (by unfold kh;rw [θ (Sg (by have h:=f;omega) c)]),Z⟩
theorem OG (l:List Int) (x:Int) (a:l.length<=140737488355328):AK prog 179 [.d (.sl none (l.map AF)),.d (AF x)] (.raw (.bool (decide (x∈l)))):=by
 refine As func179 Z Z ntmps179 Z Z Z λF b=>(AC (AE (AB Z Z (AD ?_))));refine AC (AE (dd Z Z (dd Z Z (J (BT (Wr l x a) Z Z) (J (ES Z Z Z) (AB Z Z (AD (A4 ?_))))))));exact ⟨_,[],[],A3 Z,Z,Z,jt (by unfold kh;split<;>rename_i h<;>simp [h]<;>omega),Z⟩
theorem Uw (i:eR) (t:i.po.length<=140737488355328):AK prog 168 [.d (Af i)] (AF (Mw i)):=by
 refine As func168 Z Z ntmps168 Z Z Z λF r=>(AC (AE (V (Bz 1 Z Z Z Z Z Z Z) (AB Z Z (AD (AC ?_))))));refine AC (AE (J (AU Z Fn Z Z Z) (J (A2 Z Z Z VC Z) (J (CB Z T1 Z) (dd Z Z (AD (A0 (BX (α:=Nat) (λk=>⟨35,[(1,(.ptr 1 0 0)),(6,(.d (.sl none (i.po.map CF)))),(7,(.d (AF (i.po.length:Int)))),(8,(.d (AF (k:Int))))],[(1,[.blk 55 [.d (AF i.id),.d (AF i.pr),.d (AF i.sq),.d (.sl none (i.po.map CF)),.d (.sl none (i.pa.map Fk)),.d (.sl none (i.af.map AF))]])]⟩) (λk=>k<=i.po.length/\Mw i=Bd ((i.po.drop k).map SW)) (λk=>i.po.length - k) (0) (⟨υ _,Z⟩) (AY r [1] Z Z ⟨Z,Z,Z,Z,trivial⟩) ?_))))))));rintro k ⟨s,o⟩;refine AC (AE (J (BN Z Z Z) (AD (AC (Ac Z (λl=>?_) (λl=>?_))))))
 .have g:k<i.po.length:=Ba l;refine AZ (AC (A0 (AC (AE ?_))));have j:=Dm g o;refine J (Bh (k) Z Z (Z) (Ab g) T1 Z PB Z) (J (GW Z Z aZ Z) (V (Bn 2 Ox Z Z Z Z) (V (B1 Z Z Z Z Z Z Z PB) (AD ?_))));refine A0 (AC (AE (J (AU Z KF Z Z Z) (J (AU Z Qq Z Z Z) (J (A2 Z Z Z IN Z) (J (ED Z Z Z) (dd Z Z (Ij 17 Z (λa=>?_) (λa=>?_)))))))))
  .refine A9 Z Z Z Z (A9 Z Z Z Z (A9 Z Z Z Z (A9 Z Z Z Z ?_)));refine J (Ff Z Z Z Z) (AB Z Z (AD (DO Z Z (AC (AE (AB Z Z (AD (A4 ?_))))))));exact ⟨_,[],[],A3 Z,Z,Z,Ax (j.2 6 (by unfold SW;rw [ϱ (.inl a)]) (by decide)),Z⟩
  .refine Ad Z Z Z (J (AU Z KF Z Z Z) (Ad Z Z Z ?_));refine J (AU Z Nt Z Z Z) (Ad Z Z Z (J (A2 Z Z Z IN Z) (Ad Z Z Z (J (ED Z Z Z) (J (EA Z Z Z Z) (AB Z Z (AD (Ac Z (λb=>?_) (λb=>?_)))))))))
   .refine AC (AE (AB Z Z (AD (A4 ?_))));exact ⟨_,[],[],A3 Z,Z,Z,Ax (j.2 6 (by unfold SW;rw [ϱ (.inr b)]) (by decide)),Z⟩
   .refine AC ?_;refine AE (J (AU Z KF Z Z Z) (J (AU Z Nu Z Z Z) (J (A2 Z Z Z Aw Z) (J (BT (H4 _ _ _) Z Z) (J (OX Z Z) (AB Z Z (AD (Ac Z (λc=>?_) (λc=>?_)))))))))
    .refine AC (AE (AB Z Z (AD (A4 ?_))));exact ⟨_,[],[],A3 Z,Z,Z,Ax (j.2 11 (by unfold SW;rw [θ (by simp [a,b]),ϱ c]) (by decide)),Z⟩
    .refine AC (AE (J (AU Z Qx Z Z Z) (J (A2 Z Z Z Km Z) (J (BT (G0 _ _ _) Z Z) (J (OX Z Z) (AB Z Z (AD (Ac Z (λf=>?_) (λf=>?_)))))))))
     .refine AC (AE (AB Z Z (AD (A4 ?_))));exact ⟨_,[],[],A3 Z,Z,Z,Ax (j.2 12 (by unfold SW;rw [θ (by simp [a,b]),θ c,ϱ f]) (by decide)),Z⟩
     .refine AZ (AE (J (Ar Z Z (AO (k+1) (by omega)) Z) (dd Z Z (AD ?_))));exact ⟨k+1,⟨by show k+1<=_;omega,j.1 (by unfold SW;rw [θ (by simp [a,b]),θ c,θ f])⟩,by show i.po.length - (k+1)<i.po.length - k;omega,AY r [1] Z (Z) ⟨Z,Z,Z,Z,trivial⟩⟩
 .refine BC (AC (AE (AB Z Z (AD (A4 ?_)))));exact ⟨_,[],[],A3 Z,Z,Z,Ax (by rw [o,GM (by have h:=l;omega)]),Z⟩
theorem Uy (i:eR) (t:i.pa.length<=140737488355328):AK prog 169 [.d (Af i)] (AF (Uz i)):=by
 refine As func169 Z Z ntmps169 Z Z Z λF r=>(AC (AE (V (Bz 1 Z Z Z Z Z Z Z) (AB Z Z (AD (AC ?_))))));refine AC (AE (J (AU Z Gu Z Z Z) (J (A2 Z Z Z YN Z) (J (CB Z ch Z) (dd Z Z (AD (A0 (BX (α:=Nat) (λk=>⟨33,[(1,(.ptr 1 0 0)),(6,(.d (.sl none (i.pa.map Fk)))),(7,(.d (AF (i.pa.length:Int)))),(8,(.d (AF (k:Int))))],[(1,[.blk 55 [.d (AF i.id),.d (AF i.pr),.d (AF i.sq),.d (.sl none (i.po.map CF)),.d (.sl none (i.pa.map Fk)),.d (.sl none (i.af.map AF))]])]⟩) (λk=>k<=i.pa.length/\Uz i=Bd ((i.pa.drop k).map Rf)) (λk=>i.pa.length - k) (0) (⟨υ _,Z⟩) (AY r [1] Z Z ⟨Z,Z,Z,Z,trivial⟩) ?_))))))));rintro k ⟨s,o⟩;refine AC (AE (J (BN Z Z Z) (AD (AC (Ac Z (λl=>?_) (λl=>?_))))))
 .have g:k<i.pa.length:=Ba l;refine AZ (AC (A0 (AC (AE ?_))));have j:=Dm g o;refine J (Bh (k) Z Z (Z) (Ab g) ch Z WA Z) (J (GW Z Z mx Z) (V (Bn 2 m9 Z Z Z Z) (V (B1 Z Z Z Z Z Z Z WA) ?_)));refine AD (A0 (AC (AE (J (AU Z KE Z Z Z) (J (A2 Z Z Z IN Z) (J (ED Z Z Z) (dd Z Z (Ij 16 Z (λa=>?_) (λa=>?_)))))))))
  .refine A9 Z Z Z Z (A9 Z Z Z Z (A9 Z Z Z Z ?_));refine J (Ff Z Z Z Z) (AB Z Z (AD (DO Z Z (AC (AE (AB Z Z (AD (A4 ?_))))))));exact ⟨_,[],[],A3 Z,Z,Z,Ax (j.2 6 (by unfold Rf;rw [ϱ (.inl a)]) (by decide)),Z⟩
  .refine Ad Z Z Z ?_;refine J (AU Z KD Z Z Z) (Ad Z Z Z (J (A2 Z Z Z IN Z) (Ad Z Z Z (J (ED Z Z Z) (J (EA Z Z Z Z) (AB Z Z (AD (Ac Z (λb=>?_) (λb=>?_)))))))))
   .refine AC (AE (AB Z Z (AD (A4 ?_))));exact ⟨_,[],[],A3 Z,Z,Z,Ax (j.2 6 (by unfold Rf;rw [ϱ (.inr b)]) (by decide)),Z⟩
   .refine AC ?_;refine AE (J (AU Z KE Z Z Z) (J (A2 Z Z Z IN Z) (J (AU Z KD Z Z Z) (J (A2 Z Z Z IN Z) (J (ED Z Z Z) (AB Z Z (AD (Ac Z (λc=>?_) (λc=>?_)))))))))
    .refine AC (AE (AB Z Z (AD (A4 ?_))));exact ⟨_,[],[],A3 Z,Z,Z,Ax (j.2 7 (by unfold Rf;rw [θ (by simp [a,b]),ϱ c]) (by decide)),Z⟩
    .refine AC (AE (J (AU Z KC Z Z Z) (J (A2 Z Z Z Km Z) (J (BT (G0 _ _ _) Z Z) (J (OX Z Z) (AB Z Z (AD (Ac Z (λf=>?_) (λf=>?_)))))))))
     .refine AC (AE (AB Z Z (AD (A4 ?_))));exact ⟨_,[],[],A3 Z,Z,Z,Ax (j.2 2 (by unfold Rf;rw [θ (by simp [a,b]),θ c,ϱ f]) (by decide)),Z⟩
     .refine AZ (AE (J (Ar Z Z (AO (k+1) (by omega)) Z) (dd Z Z (AD ?_))));exact ⟨k+1,⟨by show k+1<=_;omega,j.1 (by unfold Rf;rw [θ (by simp [a,b]),θ c,θ f])⟩,by show i.pa.length - (k+1)<i.pa.length - k;omega,AY r [1] Z (Z) ⟨Z,Z,Z,Z,trivial⟩⟩
 .refine BC (AC (AE (AB Z Z (AD (A4 ?_)))));exact ⟨_,[],[],A3 Z,Z,Z,Ax (by rw [o,GM (by have h:=l;omega)]),Z⟩
theorem EI {n k:Nat} {f:Nat ->Int} {E:Int} (a:k<n) (h:E=Bd (((List.range n).drop k).map f)):(f k=0 ->E=Bd (((List.range n).drop (k+1)).map f))/\∀e,f k=e ->e≠0 ->e=E:=by
 have:=Dm (l:=List.range n) (k:=k) (by simpa using a) h
 grind
theorem ly (i:eR) (t:i.af.length<=140737488355328):AK prog 170 [.d (Af i)] (AF (UE i)):=by
 refine As func170 Z Z ntmps170 Z Z Z λF r=>(AC (AE (V (Bz 1 Z Z Z Z Z Z Z) (AB Z Z (AD (AC ?_))))));refine AC (AE (J (AU Z Do Z Z Z) (J (A2 Z Z Z BG Z) (J (CB Z E0 Z) (dd Z Z (AD (A0 (BX (α:=Nat) (λk=>⟨31,[(1,(.ptr 1 0 0)),(6,(.d (.sl none (i.af.map AF)))),(7,(.d (AF (i.af.length:Int)))),(8,(.d (AF (k:Int))))],[(1,[.blk 55 [.d (AF i.id),.d (AF i.pr),.d (AF i.sq),.d (.sl none (i.po.map CF)),.d (.sl none (i.pa.map Fk)),.d (.sl none (i.af.map AF))]])]⟩) (λk=>k<=i.af.length/\UE i=Bd (((List.range i.af.length).drop k).map (UM i.id i.af))) (λk=>i.af.length - k) (0) (⟨υ _,Z⟩) (AY r [1] Z Z ⟨Z,Z,Z,Z,trivial⟩) ?_))))))));rintro k ⟨s,o⟩;refine AC (AE (J (BN Z Z Z) (AD (AC (Ac Z (λl=>?_) (λl=>?_))))))
 .have b:k<i.af.length:=Ba l;refine AZ (AC (A0 (AC (AE ?_))));have j:=EI b o;have g:i.af.getD k 0=i.af[k]:=by simp [b]
  refine dd Z Z (J (Bh (k) Z Z (Z) (Ab b) E0 Z BU Z) (J (D2 Z Z Aw Z) (AB Z Z (AB Z Z (AD ?_)))));refine A0 (AC (AE (dd Z Z (J (BT (H4 _ _ _) Z Z) (J (OX Z Z) (AB Z Z (AD (Ac Z (λa=>?_) (λa=>?_)))))))))
  .refine AC (AE (AB Z Z (AD (A4 ?_))));exact ⟨_,[],[],A3 Z,Z,Z,Ax (j.2 2 (by unfold UM;rw [g,ϱ a]) (by decide)),Z⟩
  .refine AC (AE (dd Z Z (J (AU Z OY Z Z Z) (J (A2 Z Z Z Aw Z) (J (Li Z Z Z) (dd Z Z (Ij 22 Z (λc=>?_) (λc=>?_))))))))
   .refine A9 Z Z Z Z (A9 Z Z Z Z (A9 Z Z Z Z (A9 Z Z Z Z (A9 Z Z Z Z (A9 Z Z Z Z ?_)))));refine J (Ff Z Z Z Z) (AB Z Z (AD (DO Z Z (AC (AE (AB Z Z (AD (A4 ?_))))))));exact ⟨_,[],[],A3 Z,Z,Z,Ax (j.2 7 (by unfold UM;rw [g,θ a,ϱ (.inl c)]) (by decide)),Z⟩
   .refine Ad Z Z Z (J (AU Z Do Z Z Z) (Ad Z Z Z (J (A2 Z Z Z BG Z) (Ad Z Z Z (dd Z Z (Ad Z Z Z ?_))))));refine J (LW (i.af) (k) Z Z Z (Z) (by omega) E0 BU (λ_=>rfl) Z) (Ad Z Z Z (dd Z Z (Ad Z Z Z (J (BT (OG (i.af.take k) _ (by simp;omega)) Z Z) (J (EA Z Z Z Z) (AB Z Z (AD (Ac Z (λf=>?_) (λf=>?_)))))))))
    .refine AC (AE (AB Z Z (AD (A4 ?_))));exact ⟨_,[],[],A3 Z,Z,Z,Ax (j.2 7 (by unfold UM;rw [g,θ a,ϱ (.inr f)]) (by decide)),Z⟩
    .refine AZ (AE (J (Ar Z Z (AO (k+1) (by omega)) Z) (dd Z Z (AD ?_))));exact ⟨k+1,⟨by show k+1<=_;omega,j.1 (by unfold UM;rw [g,θ a,θ (by simp [c];exact f)])⟩,by show i.af.length - (k+1)<i.af.length - k;omega,AY r [1] Z (Z) ⟨Z,Z,Z,Z,trivial⟩⟩
 .refine BC (AC (AE (AB Z Z (AD (A4 ?_)))));exact ⟨_,[],[],A3 Z,Z,Z,Ax (by rw [o,GM (by simp;have h:=l;omega)]),Z⟩
theorem On (l:List FP) (p:FP) (a:List UInt8):Co (l++ [p]) a=Co l a+if p.acc.a=a then p.d else 0:=by simp [Co]
theorem OP (l:List FP) (a:List UInt8) (h:∀p∈l,-Mx<=p.d/\p.d<=Mx): -(l.length*1000000000000000)<=Co l a/\Co l a<=l.length*1000000000000000:=by
 induction l with
 | nil=>simp [Co]
 | cons p r b=>
  have f:=b λq c=>h q (by simp [c])
  grind [Co]
def UQ (l:List FP) (M:List (List UInt8×Int)):Prop:=(M.map Prod.fst).Nodup/\(∀a,A1 M a 0=Co l a)/\(∀a,a∈M.map Prod.fst ->∃p∈l,p.acc.a=a)/\∀p∈l,p.acc.a∈M.map Prod.fst
theorem gO {g:Type} [DecidableEq c] {M:List (c×g)} {a f:c} {b:g}:f∈(BA M a b).map Prod.fst↔f=a\/f∈M.map Prod.fst:=by grind [Kr]
variable {g:List FP}
theorem UQ.snoc (h:UQ g M) (p:FP):UQ (g++ [p]) (BA M p.acc.a (A1 M p.acc.a 0+p.d)):=by
 obtain ⟨i,k,j,f⟩:=h;refine ⟨NQ i,λa=>?_,λa c=>?_,λq b=>?_⟩
 .grind [GK,On]
 .rcases gO.1 c with e | e
  .grind
  grind
 .rcases ν.1 b with b | b
  .exact gO.2 (.inr (f q b))
  .simp at b;subst b;exact gO.2 (.inl Z)
variable {s:eR}
theorem lr (h:UQ s.po M) {j:Nat} {a:List UInt8} {v:Int} (l:M[j]? =some (a,v)) (g:v≠0):(14:Int)=UA s:=by
 have b:=ϑ l;have c:=mQ (z:=0) h.1 b;rw [h.2.1] at c;obtain ⟨p,k,e⟩:=h.2.2.1 a (ie (f:=Prod.fst) b);unfold UA;rw [ϱ ⟨p,k,by rw [e,c];exact g⟩]
theorem qM (h:UQ s.po M) (a:∀x∈M,x.2=0):(0:Int)=UA s:=by grind [UA,Hh,UQ]
theorem Vv (h:∀p∈g,-Mx<=p.d/\p.d<=Mx):∀p∈g.take k,-Mx<=p.d/\p.d<=Mx:=λp a=>h p (gk a)
theorem Vf (i:eR) (G:i.po.length<=256) (A:∀p∈i.po,-Mx<=p.d/\p.d<=Mx):AK prog 171 [.d (Af i)] (AF (UA i)):=by
 refine As func171 Z Z ntmps171 Z Z Z λF u=>(AC (AE ?_));refine V (Bz 1 Z Z Z Z Z Z Z) (AB Z Z (AD (AC (AE (V (O4 2 Z Z Z Z) (AB Z Z (AD (AC ?_))))))));refine AC (AE (J (AU Z Fn Z Z Z) (J (A2 Z Z Z VC Z) (J (CB Z T1 Z) (dd Z Z (AD (A0 (BX (α:=Nat×List (List UInt8×Int)) (λq=>⟨33,[(3,(.map 2 0)),(10,(.d (.sl none (i.po.map CF)))),(11,(.d (AF (i.po.length:Int)))),(12,(.d (AF (q.1:Int))))],[(2,[BB Aj AF q.2])]⟩) (λq=>q.1<=i.po.length/\UQ (i.po.take q.1) q.2) (λq=>i.po.length - q.1) ((0,[])) (⟨υ _,⟨by simp,by simp [Co,A1],by simp,by simp⟩⟩) (AY u [2] Z Z ⟨Z,Z,Z,Z,trivial⟩) ?_))))))));rintro ⟨k,M⟩ ⟨w,s⟩;dsimp only at w s⊢;refine AC (AE (J (BN Z Z Z) (AD (AC (Ac Z (λg=>?_) (λg=>?_))))))
 .have c:k<i.po.length:=Ba g;refine AZ (AC (A0 (AC (AE ?_))));have z:=A _ (ξ c);have y:=OP (i.po.take k) i.po[k].acc.a (Vv A);rw [<-s.2.1,Ξ] at y;simp only [Mx] at z;refine J (Bh (k) Z Z (Z) (Ab c) T1 Z PB Z) (J (GW Z Z aZ Z) ?_);refine V (Bn 3 Ox Z Z Z Z) (V (B1 Z Z Z Z Z Z Z PB) (AD (AE (dd Z Z (J (AU Z KF Z Z Z) (J (AU Z Nt Z Z Z) (J (A2 Z Z Z IN Z) (J (HY (M) (i.po[k].acc.a) (0) _ Z Z Z bt u4 O1 Z Z) ?_))))))));refine J (AU Z Qx Z Z Z) (J (A2 Z Z Z Km Z) (J (Ar Z Z (Ω _ (by omega)) Z) (V (UO (M) (i.po[k].acc.a) (A1 M i.po[k].acc.a 0+i.po[k].d) Z Z Z bt u4 Z Z) (AD (AE (J (Ar Z Z (AO (k+1) (by omega)) Z) (dd Z Z (AD ?_))))))));exact ⟨(k+1,_),⟨by show k+1<=_;omega,by have:=s.snoc i.po[k];rwa [<-χ c] at this⟩,by show i.po.length - (k+1)<i.po.length - k;omega,AY u [2] Z (Z) ⟨Z,Z,Z,Z,trivial⟩⟩
 .refine BC (AC (AC ?_));have r:UQ i.po M:=by rw [ς (by have h:=g;omega)] at s;exact s
  refine AE (dd Z Z (V (Fy 4 Z Z Z bt Z Z Z Z) (AD (A0 (BX (α:=List Nat) (λseen=>⟨33,[(26,(.ptr 4 0 0))],[(4,[.iter 2 0 M.length seen]),(2,[BB Aj AF M])]⟩) (λseen=>∀x∈M,x∈Bi M (List.range M.length) seen\/x.2=0) (λseen=>(Bi M (List.range M.length) seen).length) ([]) (λx j=> .inl (by rw [mH (by simp)];exact j)) (AY u [4,2] Z Z ⟨Z,trivial⟩) ?_)))));intro seen B;refine AC (AE (Kn (M) Z Z Z Z (λl=>?_) (λv t E D b o C a=>⟨_,Z,?_⟩)))
  .refine J (Cf Z Z Z) ?_;refine AD (AC (D3 Z Z (BC (AC (AE (AB Z Z (AD (A4 ?_))))))));exact ⟨_,[],[],A3 Z,Z,Z,Ax (qM r λx j=>(B x j).elim (λh=>by rw [l] at h;cases h) id),Z⟩
  .refine J (Cf Z Z Z) (AD (AC (DO Z Z (AZ (A0 (AC (AE (J (Fz (M) v t Z Z Z b o Z) ?_))))))));refine J (Cf Z Z Z) (AB Z Z (AD (AC (AE (dd Z Z (J (D7 Z Z Z) (AD (Ac Z (λf=>?_) (λf=>?_)))))))))
   .refine AC (AE (AB Z Z (AD (A4 ?_))));exact ⟨_,[],[],A3 Z,Z,Z,Ax (lr r b f),Z⟩
   .refine AZ ?_;exact ⟨seen++ [t],λx j=>(B x j).elim (λh=>(fP.1 (a.mem_iff.1 h)).elim (λe=> .inr (by rw [e];simpa using f)) .inl) .inr,by rw [a.length_eq];exact iC _,AY u [4,2] Z (Z) ⟨Z,trivial⟩⟩
abbrev tB:US:=⟨[],0,[]⟩
abbrev Ic (p:FP):AM:=⟨0,p.acc,[],[]⟩
abbrev Dg (f t:List UInt8):AM:=⟨1,tB,f,t⟩
abbrev FB (f:List UInt8):AM:=⟨2,tB,f,[]⟩
def dz (M:List (AM×Int)) (x:AM×Int):List (AM×Int):=BA M x.1 (A1 M x.1 0+x.2)
def JH (l:List FP):List (AM×Int):=l.map λp=>(Ic p,p.d)
def Ta (p:O6):List (AM×Int):=[(Dg p.f p.t,-p.n),(Dg p.t p.f,p.n),(FB p.f,-p.n),(FB p.t,p.n)]
def OF (l:List O6):List (AM×Int):=l.flatMap Ta
def fX (i:eR):List (AM×Int):=JH i.po++OF i.pa
def ew (l:List (AM×Int)):List (AM×Int):=l.foldl dz []
def Al (l:List (AM×Int)) (r:AM):Int:=(l.map λx=>if x.1=r then x.2 else 0).sum
theorem XV (l:List (AM×Int)) (x:AM×Int):ew (l++ [x])=dz (ew l) x:=by simp [ew]
theorem Ok (l m:List (AM×Int)) (r:AM):Al (l++m) r=Al l r+Al m r:=by simp [Al]
theorem V7 (x:AM×Int) (r:AM):Al [x] r=if x.1=r then x.2 else 0:=by simp [Al]
theorem ZU {α:Type} {p:List α ->Prop} (h0:p []) (h1:∀l x,p l ->p (l++ [x])) (l:List α):p l:=by
 have:∀m:List α,p m.reverse:=λm=>by
  induction m with
  | nil=>exact h0
  | cons x r ih=>rw [List.reverse_cons];exact h1 _ _ ih
 have:=this l.reverse
 grind
theorem JQ (l:List (AM×Int)) (r:AM):A1 (ew l) r 0=Al l r:=by
 revert r
 refine ZU (p:=λl=>∀r,A1 (ew l) r 0=Al l r) (λr=>rfl) (λl x a r=>?_) l;rw [XV,dz,GK,Ok,V7]
 grind
theorem Et (l:List (AM×Int)):((ew l).map Prod.fst).Nodup:=
 ZU (p:=λl=>((ew l).map Prod.fst).Nodup) (by simp [ew]) (λl x a=>by rw [XV];exact NQ a) l
theorem IE (l:List (AM×Int)) (r:AM):r∈(ew l).map Prod.fst↔r∈l.map Prod.fst:=by
 refine ZU (p:=λl=>r∈(ew l).map Prod.fst↔r∈l.map Prod.fst) (by simp [ew]) (λl x a=>?_) l;rw [XV,dz,gO,a]
 simp [or_comm]
def O7 (l:List (AM×Int)):Prop:=∀x∈l,-1000000000000000<=x.2/\x.2<=1000000000000000
theorem HB {l:List (AM×Int)} (h:O7 l) (r:AM): -(l.length*1000000000000000)<=Al l r/\Al l r<=l.length*1000000000000000:=by
 induction l with
 | nil=>simp [Al]
 | cons x l a=>
  grind [Al,O7]
structure qe (i:eR):Prop where
 po:i.po.length<=256
 pa:i.pa.length<=256
 af:i.af.length<=256
 d:∀p∈i.po,-Mx<=p.d/\p.d<=Mx
 n:∀p∈i.pa,0<=p.n/\p.n<=Mx
theorem Lb (l:List O6):(OF l).length=4*l.length:=by
 induction l with
 | nil=>rfl
 | cons p r a=>simp only [OF,List.flatMap_cons,Δ,i3] at a⊢;rw [a];simp [Ta];omega
theorem nQ (h:∀p∈g,-Mx<=p.d/\p.d<=Mx):O7 (JH g):=by grind [O7,JH]
variable {t:O6}
theorem nS (h:0<=t.n/\t.n<=Mx):O7 (Ta t):=by grind [Ta,O7]
variable {o:List O6}
theorem sw (h:∀p∈o,0<=p.n/\p.n<=Mx):O7 (OF o):=λx a=>by
 obtain ⟨p,b,a⟩:=im.1 a;exact nS (h p b) x a
variable {a:List (AM×Int)}
theorem O7.append {m:List (AM×Int)} (h:O7 a) (c:O7 m):O7 (a++m):=λx b=>(ν.1 b).elim (h x) (c x)
theorem O7.take (h:O7 a) (k:Nat):O7 (a.take k):=λx b=>h x (gk b)
theorem Es {l:List (AM×Int)} (h:O7 l) (a:l.length<=2000) (r:AM): -2000000000000000000<=A1 (ew l) r 0/\A1 (ew l) r 0<=2000000000000000000:=by
 have:=HB h r;rw [JQ];omega
theorem Yu (a:k<g.length):JH (g.take (k+1))=JH (g.take k)++ [(Ic g[k],g[k].d)]:=by
 simp only [JH];rw [χ a,fU];rfl
theorem Yt (a:k<o.length):OF (o.take (k+1))=OF (o.take k)++Ta o[k]:=by
 simp only [OF];rw [χ a,List.flatMap_append];simp
def fI (M:List (AM×Int)) (p:O6):List (AM×Int):=BA M (Dg p.f p.t) (A1 M (Dg p.f p.t) 0 - p.n)
def fH (M:List (AM×Int)) (p:O6):List (AM×Int):=BA M (Dg p.t p.f) (A1 M (Dg p.t p.f) 0+p.n)
def jI (M:List (AM×Int)) (p:O6):List (AM×Int):=BA M (FB p.f) (A1 M (FB p.f) 0 - p.n)
def ue (M:List (AM×Int)) (p:O6):List (AM×Int):=BA M (FB p.t) (A1 M (FB p.t) 0+p.n)
variable {i:List (AM×Int)}
theorem aG {p:O6} (h:i=ew a):fI i p=ew (a++ [(Dg p.f p.t,-p.n)])/\fH (fI i p) p=ew (a++ [(Dg p.f p.t,-p.n),(Dg p.t p.f,p.n)])/\jI (fH (fI i p) p) p=ew (a++ [(Dg p.f p.t,-p.n),(Dg p.t p.f,p.n),(FB p.f,-p.n)])/\ue (jI (fH (fI i p) p) p) p=ew (a++Ta p):=by
 subst h;have e:∀(a:List (AM×Int)) (x:AM×Int) (r:List (AM×Int)),a++x::r=(a++ [x])++r:=by simp
 refine ⟨?_,?_,?_,?_⟩
 .rw [XV];rfl
 .rw [e,XV,XV];rfl
 .rw [e,e,XV,XV,XV];rfl
 .rw [Ta,e,e,e,XV,XV,XV,XV];rfl
theorem aA (h:i=ew a) (c:O7 a) (s:a.length<=1900) (g:0<=t.n/\t.n<=Mx) (r:AM):(-2000000000000000000<=A1 i r 0/\A1 i r 0<=2000000000000000000)/\(-2000000000000000000<=A1 (fI i t) r 0/\A1 (fI i t) r 0<=2000000000000000000)/\(-2000000000000000000<=A1 (fH (fI i t) t) r 0/\A1 (fH (fI i t) t) r 0<=2000000000000000000)/\(-2000000000000000000<=A1 (jI (fH (fI i t) t) t) r 0/\A1 (jI (fH (fI i t) t) t) r 0<=2000000000000000000):=by
 obtain ⟨o,k,j,_⟩:=aG (p:=t) h;have b:=nS g;rw [j,k,o,h];refine ⟨Es c (by omega) r,Es (c.append λx f=>b x ?_) (by simp;omega) r,Es (c.append λx f=>b x ?_) (by simp;omega) r,Es (c.append λx f=>b x ?_) (by simp;omega) r⟩
 all_goals (grind [Ta])
set_option maxHeartbeats 1000000 in
theorem QO (i:eR) (j:qe i):AJ prog 125 [.d (Af i)] [] λr H=>r= .map 2 0/\H=[(2,[BB CC AF (ew (fX i))])]:=by
 have E:=j.po;have G:=j.pa;refine As func125 Z Z ntmps125 Z Z Z λF x=>(AC (AE ?_));refine V (Bz 1 Z Z Z Z Z Z Z) (AB Z Z (AD (AC (AE (V (O4 2 Z Z Z Z) (AB Z Z (AD (AC ?_))))))));refine AC (AE (J (AU Z Fn Z Z Z) (J (A2 Z Z Z VC Z) (J (CB Z T1 Z) (dd Z Z (AD (A0 (BX (α:=Nat×List (AM×Int)) (λq=>⟨80,[(1,(.ptr 1 0 0)),(3,(.map 2 0)),(10,(.d (.sl none (i.po.map CF)))),(11,(.d (AF (i.po.length:Int)))),(12,(.d (AF (q.1:Int))))],[(2,[BB CC AF q.2]),(1,[.blk 55 [.d (AF i.id),.d (AF i.pr),.d (AF i.sq),.d (.sl none (i.po.map CF)),.d (.sl none (i.pa.map Fk)),.d (.sl none (i.af.map AF))]])]⟩) (λq=>q.1<=i.po.length/\q.2=ew (JH (i.po.take q.1))) (λq=>i.po.length - q.1) ((0,[])) (⟨υ _,Z⟩) (AY x [2,1] Z Z ⟨Z,Z,Z,Z,Z,trivial⟩) ?_))))))));rintro ⟨k,M⟩ ⟨z,w⟩;dsimp only at z w⊢;refine AC (AE (J (BN Z Z Z) (AD (AC (Ac Z (λs=>?_) (λs=>?_))))))
 .have c:k<i.po.length:=Ba s;refine AZ (AC (A0 (AC (AE ?_))));have B:=j.d _ (ξ c);simp only [Mx] at B;have A:=Es (l:=JH (i.po.take k)) (nQ (Vv j.d)) (by simp [JH];omega) (Ic i.po[k]);rw [<-w] at A;refine J (Bh (k) Z Z (Z) (Ab c) T1 Z PB Z) (J (GW Z Z aZ Z) (V (Bn 3 Ox Z Z Z Z) (V (B1 Z Z Z Z Z Z Z PB) (AD (DB [[],[],[1],[1,2],[0,1,2,3],[],[5],rg 7,[0,1,2,3,5,6],[0,1,2,3,5,6,8],rg 10] mixed Z (Yq 2 ([BB CC AF (BS M (Ic i.po[k]) 0)]) Z ?_))))));refine Av 3 Z Z (AQ [5] Z (AU Z KF Z Z Z) (Az [17] Z Z (λ_=>A5 (BE Z Z oE Z Z Z)) (AQ [18] Z (Fe JM SU Z Z Z) (I0 [16,19] [] Z Z Z (λ_=>A5 (HY (M) (Ic i.po[k]) (0) _ Z Z Z Bq By O1 Z Z)) (λ_=>A5 (HY (BS (M) (Ic i.po[k]) (0)) (Ic i.po[k]) (0) _ Z Z Z Bq By O1 (Dk _ _ _ _) Z)) (AQ [5] Z (AU Z Qx Z Z Z) (Az [21] Z Z (λ_=>A5 (A2 Z Z Z Km Z)) (AQ [20,22] Z (Ar Z Z (Ω _ (by omega)) Z) (Fp [16,19] [2] [(24,_)] Z Z (λ_=>Fs (G1 (M) (Ic i.po[k]) (0) Z Z Z Bq By O1 Z Z)) (.inr ⟨24,_,Z,Z,Z,Z,Z⟩) Z Z Z Z Z ?_ (hCn:=Pz Z)))))))));refine AQ [24] Z (Cf Z Z Z) (Cg 10 Z Z Z (Ag 11 Z Z (V (G3 (M) (Ic i.po[k]) (0) (A1 M (Ic i.po[k]) 0+i.po[k].d) Z Z Z By Z Z) (AD ⟨Z,?_⟩))));refine Cr (AE (J (Ar Z Z (AO (k+1) (by omega)) Z) (dd Z Z (AD ?_))));exact ⟨(k+1,_),⟨by show k+1<=_;omega,by show _=ew (JH (i.po.take (k+1)));rw [Yu c,XV,<-w];rfl⟩,by show i.po.length - (k+1)<i.po.length - k;omega,AY x [2,1] Z (Z) ⟨Z,Z,Z,Z,Z,trivial⟩⟩
 .refine BC (AC (AC ?_));have C:M=ew (JH i.po++OF (i.pa.take 0)):=by rw [w,ς (by have h:=s;omega)];simp [OF]
  refine AE (J (AU Z Gu Z Z Z) (J (A2 Z Z Z YN Z) (J (CB Z ch Z) (dd Z Z (AD (A0 (BX (α:=Nat×List (AM×Int)) (λq=>⟨80,[(3,(.map 2 0)),(28,(.d (.sl none (i.pa.map Fk)))),(29,(.d (AF (i.pa.length:Int)))),(30,(.d (AF (q.1:Int))))],[(2,[BB CC AF q.2])]⟩) (λq=>q.1<=i.pa.length/\q.2=ew (JH i.po++OF (i.pa.take q.1))) (λq=>i.pa.length - q.1) ((0,M)) (⟨υ _,C⟩) (AY x [2] Z Z ⟨Z,Z,Z,Z,trivial⟩) ?_)))))));rintro ⟨m,N⟩ ⟨y,v⟩;dsimp only at y v⊢;refine AC (AE (J (BN Z Z Z) (AD (AC (Ac Z (λo=>?_) (λo=>?_))))))
  .have b:m<i.pa.length:=Ba o;refine AZ (AC (A0 (AC (AE ?_))));have u:=j.n _ (ξ b);have a:=aA v ((nQ j.d).append (sw λq D=>j.n q (gk D))) (by rw [Δ,Lb];simp [JH];omega) u;simp only [Mx] at u;refine J (Bh (m) Z Z (Z) (Ab b) ch Z WA Z) (J (GW Z Z mx Z) (V (Bn 4 m9 Z Z Z Z) (V (B1 Z Z Z Z Z Z Z WA) (AD (AC (DB [[],[],[1],[],[3],[1,2,3,4],rg 6,[],[7],rg 9,[0,1,2,3,4,5,7,8],[0,1,2,3,4,5,7,8,10],rg 12] mixed Z (Yq 2 ([BB CC AF (BS N (Dg i.pa[m].f i.pa[m].t) 0)]) Z ?_)))))));refine Av 3 Z Z (AQ [7] Z (AU Z KE Z Z Z) (Az [35] Z Z (λ_=>A5 (A2 Z Z Z IN Z)) (AQ [7] Z (AU Z KD Z Z Z) (Az [37] Z Z (λ_=>A5 (A2 Z Z Z IN Z)) (AQ [36,38] Z (Fe JM SU Z Z Z) (I0 [34,39] [] Z Z Z (λ_=>A5 (HY (N) (Dg i.pa[m].f i.pa[m].t) (0) _ Z Z Z Bq By O1 Z Z)) (λ_=>A5 (HY (BS (N) (Dg i.pa[m].f i.pa[m].t) (0)) (Dg i.pa[m].f i.pa[m].t) (0) _ Z Z Z Bq By O1 (Dk _ _ _ _) Z)) (AQ [7] Z (AU Z KC Z Z Z) (Az [41] Z Z (λ_=>A5 (A2 Z Z Z Km Z)) ?_))))))));have g:=(a (Dg i.pa[m].f i.pa[m].t)).1;refine AQ [40,42] Z (RY Z Z (Ω _ (by omega)) Z) (Fp [34,39] [2] [(44,_)] Z Z (λ_=>Fs (G1 (N) (Dg i.pa[m].f i.pa[m].t) (0) Z Z Z Bq By O1 Z Z)) (.inr ⟨44,_,Z,Z,Z,Z,Z⟩) Z Z Z Z Z ?_ (hCn:=Pz Z));refine AQ [44] Z (Cf Z Z Z) (Cg 12 Z Z Z (Ag 13 Z Z (V (G3 (N) (Dg i.pa[m].f i.pa[m].t) (0) (A1 N (Dg i.pa[m].f i.pa[m].t) 0 - i.pa[m].n) Z Z Z By Z Z) (AD ⟨Z,?_⟩))));refine Cr (AC (DB [[],[],[1],[],[3],[1,2,3,4],rg 6,[],[7],rg 9,[0,1,2,3,4,5,7,8],[0,1,2,3,4,5,7,8,10],rg 12] mixed Z (Yq 2 ([BB CC AF (BS (fI N i.pa[m]) (Dg i.pa[m].t i.pa[m].f) 0)]) Z ?_)));refine Av 3 Z Z (AQ [7] Z (AU Z KD Z Z Z) (Az [47] Z Z (λ_=>A5 (A2 Z Z Z IN Z)) (AQ [7] Z (AU Z KE Z Z Z) (Az [49] Z Z (λ_=>A5 (A2 Z Z Z IN Z)) (AQ [48,50] Z (Fe JM SU Z Z Z) (I0 [46,51] [] Z Z Z (λ_=>A5 (HY (fI N i.pa[m]) (Dg i.pa[m].t i.pa[m].f) (0) _ Z Z Z Bq By O1 Z Z)) (λ_=>A5 (HY (BS (fI N i.pa[m]) (Dg i.pa[m].t i.pa[m].f) (0)) (Dg i.pa[m].t i.pa[m].f) (0) _ Z Z Z Bq By O1 (Dk _ _ _ _) Z)) (AQ [7] Z (AU Z KC Z Z Z) (Az [53] Z Z (λ_=>A5 (A2 Z Z Z Km Z)) ?_))))))));have g:=(a (Dg i.pa[m].t i.pa[m].f)).2.1;refine AQ [52,54] Z (Ar Z Z (Ω _ (by omega)) Z) (Fp [46,51] [2] [(56,_)] Z Z (λ_=>Fs (G1 (fI N i.pa[m]) (Dg i.pa[m].t i.pa[m].f) (0) Z Z Z Bq By O1 Z Z)) (.inr ⟨56,_,Z,Z,Z,Z,Z⟩) Z Z Z Z Z ?_ (hCn:=Pz Z));refine AQ [56] Z (Cf Z Z Z) (Cg 12 Z Z Z (Ag 13 Z Z (V (G3 (fI N i.pa[m]) (Dg i.pa[m].t i.pa[m].f) (0) (A1 (fI N i.pa[m]) (Dg i.pa[m].t i.pa[m].f) 0+i.pa[m].n) Z Z Z By Z Z) (AD ⟨Z,?_⟩))));refine Cr (AC ?_);refine DB [[],[],[1],[1,2],[0,1,2,3],[],[5],rg 7,[0,1,2,3,5,6],[0,1,2,3,5,6,8],rg 10] mixed Z (Yq 2 ([BB CC AF (BS (fH (fI N i.pa[m]) i.pa[m]) (FB i.pa[m].f) 0)]) Z (Av 3 Z Z (AQ [7] Z (AU Z KE Z Z Z) (Az [59] Z Z (λ_=>A5 (A2 Z Z Z IN Z)) (AQ [60] Z (Fe JM SU Z Z Z) (I0 [58,61] [] Z Z Z (λ_=>A5 (HY (fH (fI N i.pa[m]) i.pa[m]) (FB i.pa[m].f) (0) _ Z Z Z Bq By O1 Z Z)) (λ_=>A5 (HY (BS (fH (fI N i.pa[m]) i.pa[m]) (FB i.pa[m].f) (0)) (FB i.pa[m].f) (0) _ Z Z Z Bq By O1 (Dk _ _ _ _) Z)) (AQ [7] Z (AU Z KC Z Z Z) (Az [63] Z Z (λ_=>A5 (A2 Z Z Z Km Z)) ?_))))))));have g:=(a (FB i.pa[m].f)).2.2.1;refine AQ [62,64] Z (RY Z Z (Ω _ (by omega)) Z) (Fp [58,61] [2] [(66,_)] Z Z (λ_=>Fs (G1 (fH (fI N i.pa[m]) i.pa[m]) (FB i.pa[m].f) (0) Z Z Z Bq By O1 Z Z)) (.inr ⟨66,_,Z,Z,Z,Z,Z⟩) Z Z Z Z Z ?_ (hCn:=Pz Z));refine AQ [66] Z (Cf Z Z Z) (Cg 10 Z Z Z (Ag 11 Z Z (V (G3 (fH (fI N i.pa[m]) i.pa[m]) (FB i.pa[m].f) (0) (A1 (fH (fI N i.pa[m]) i.pa[m]) (FB i.pa[m].f) 0 - i.pa[m].n) Z Z Z By Z Z) (AD ⟨Z,?_⟩))));refine Cr ?_;refine DB [[],[],[1],[1,2],[0,1,2,3],[],[5],rg 7,[0,1,2,3,5,6],[0,1,2,3,5,6,8],rg 10] mixed Z (Yq 2 ([BB CC AF (BS (jI (fH (fI N i.pa[m]) i.pa[m]) i.pa[m]) (FB i.pa[m].t) 0)]) Z (Av 3 Z Z (AQ [7] Z (AU Z KD Z Z Z) (Az [69] Z Z (λ_=>A5 (A2 Z Z Z IN Z)) (AQ [70] Z (Fe JM SU Z Z Z) (I0 [68,71] [] Z Z Z (λ_=>A5 (HY (jI (fH (fI N i.pa[m]) i.pa[m]) i.pa[m]) (FB i.pa[m].t) (0) _ Z Z Z Bq By O1 Z Z)) (λ_=>A5 (HY (BS (jI (fH (fI N i.pa[m]) i.pa[m]) i.pa[m]) (FB i.pa[m].t) (0)) (FB i.pa[m].t) (0) _ Z Z Z Bq By O1 (Dk _ _ _ _) Z)) (AQ [7] Z (AU Z KC Z Z Z) (Az [73] Z Z (λ_=>A5 (A2 Z Z Z Km Z)) ?_))))))));have g:=(a (FB i.pa[m].t)).2.2.2;refine AQ [72,74] Z (Ar Z Z (Ω _ (by omega)) Z) (Fp [68,71] [2] [(76,_)] Z Z (λ_=>Fs (G1 (jI (fH (fI N i.pa[m]) i.pa[m]) i.pa[m]) (FB i.pa[m].t) (0) Z Z Z Bq By O1 Z Z)) (.inr ⟨76,_,Z,Z,Z,Z,Z⟩) Z Z Z Z Z ?_ (hCn:=Pz Z));refine AQ [76] Z (Cf Z Z Z) (Cg 10 Z Z Z (Ag 11 Z Z (V (G3 (jI (fH (fI N i.pa[m]) i.pa[m]) i.pa[m]) (FB i.pa[m].t) (0) (A1 (jI (fH (fI N i.pa[m]) i.pa[m]) i.pa[m]) (FB i.pa[m].t) 0+i.pa[m].n) Z Z Z By Z Z) (AD ⟨Z,?_⟩))));refine Cr (AE (J (Ar Z Z (AO (m+1) (by omega)) Z) (dd Z Z (AD ?_))));exact ⟨(m+1,_),⟨by show m+1<=_;omega,by show _=ew (JH i.po++OF (i.pa.take (m+1)));rw [Yt b,<-io];exact (aG v).2.2.2⟩,by show i.pa.length - (m+1)<i.pa.length - m;omega,AY x [2] Z (Z) ⟨Z,Z,Z,Z,trivial⟩⟩
  .refine BC (AC (AE (dd Z Z (AB Z Z (AD (A4 ?_))))));exact ⟨_,[2],_,A3 Z,Z,Z,Z,by rw [v,ς (by have h:=o;omega)]<;>rfl⟩
end Go.Proofs.YteifpcnphnhaoaaGreat
