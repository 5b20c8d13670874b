import Derived.Test.YtnkkaeblokdifaaGreatMg15
import Derived.SizedLaws
open Go.Proofs.Tryz
namespace Go.Proofs.YtnkkaeblokdifaaGreat
open Go.ChangeShapes Go.WideShapes Go.ChangeAt Go.RowKit Go.Deep
variable {w:World} {a:D}
abbrev oh:Nat ->Prop:=λ_=>False
def Nr (w:World) (d:D) (cs:List Value):Prop:=cs.length=d.cells.length/\(∀c∈d.cells,c.one=true)/\∀(j:Nat) c u,d.cells[j]? =some c ->cs[j]? =some u ->AN w oh c u
theorem JQ {u:Value} (b:a.one=true) (h:AN w oh a u):Nr w a [u]:=by grind [Nr,D.cells_one]
theorem Nr.arg1 {b:Nat ->Nat ->Value} {O:Nat ->Prop} {v:Value} (i:O=oh) (f:a.one=true) (c:v.oneCell'=true) (h:Nr w a v.cells.toList):AU w O b (.d a) v:=by
 subst i;have g:v.cells.toList=[v]:=by cases v<;>first | rfl | cases c
 rw [g,Nr,D.cells_one f] at h;exact .d (h.2.2 0 a v Z Z)
section
variable {H:Type} {enc:TypeId×Value ->H} {P:Program} {w:World}
variable {t:TypeId} {a:Type} {Q:a ->Prop} {c:a ->D} {f:TypeId} {k:Nat}
def LV {α:Type} (enc:TypeId×Value ->H) (P:Program) (w:World) (t:TypeId) (k:Nat) (emb:α ->D) (Q:α ->Prop):Prop:=
 ∀fuel cs x,DataW.trod enc P w 0 (λ_=>true) true fuel t cs=some x ->(∀p∈x.2,p.block<w.heap.size) ->(∀n∈x.1.weights P t,n<=reachBytes) ->∃a,Q a/\(emb a).cells.length=k/\Nr w (emb a) cs
theorem MH {l:List (DataW H)} {d:DataW H} (b:d∈l) {n:Nat} (g:n∈d.weights P f):n∈DataW.weightsAll P f l:=by
 induction l with
 | nil=>cases b
 | cons a r c=>
  grind [DataW.weightsAll]
theorem V4 {k:IntKind} (c:P.underlying t=some (.int k)):LV enc P w t 1 (λz:Int=> .raw (.int k z)) (λz=>k.min<=z/\z<=k.max):=λb f x h _ _=>by
 obtain ⟨z,rfl,_,a⟩:=DataW.trod_int c h;simp only [Lit.wf,eA,fI] at a;exact ⟨z,a,Z,JQ Z (.raw Z)⟩
theorem Rn (f:P.underlying t=some (.int .u8)):LV enc P w t 1 lq (λ_=>True):=λb g x h c _=>by
 obtain ⟨a,rfl,_⟩:=XO f b g x h c;exact ⟨a,trivial,Z,JQ Z (.raw Z)⟩
theorem mr {b:Nat} (W:P.underlying t=some (.slice f)) (hk:P.cellsOf f=k) (Y:0<k) (N:P.bytesOf f=b) (hO:LV enc P w f k c Q):LV enc P w t 1 (λl:List a=> .sl none (l.map c)) (λl=>(∀r∈l,Q r)/\l.length*b<=140737488351232):=λfuel cs x h K G=>by
 rcases open_slice W h with ⟨rfl,rfl⟩ | ⟨r,u,cap,m,n,Dd,Pl,rfl,_,hl,hm,I,rfl,hi⟩
 .refine ⟨[],⟨by simp,by simp⟩,Z,JQ Z (.sl k (λb N=>by cases N) (λ_=>rfl) Z (κ _) (ϱ _) (by simp) (by simp) (λb o f=>by cases f))⟩
 .simp only [if_true] at I;subst I
  have R:∀i,i<u ->∃y:a,Q y/\(c y).cells.length=k/\∃s:List Value,Nr w (c y) s/\∀j,j<k ->w.cell? ((r.add (i*k)).add j)=s[j]?:=by
   intro i M;obtain ⟨s,E,V⟩:=hi i (by omega)
   obtain ⟨y,hq,U,hr⟩:=hO _ _ _ V (λp hp=>K p (by
    simp only [ν,List.mem_flatMap,Γ]
    exact .inr ⟨i,by omega,hp⟩)) (λn hn=>G n (by
    simp only [DataW.weights,W,di,ν]
    exact .inr (.inl (MH (υ.2 ⟨i,Γ.2 M,Z⟩) hn))))
   obtain ⟨_,B,O⟩:=World.cells?_some E;rw [hk] at O;exact ⟨y,hq,U,s,hr,O⟩
  obtain ⟨l,L,z⟩:=jV u R;refine ⟨l,⟨λy A=>?_,?_⟩,Z,JQ Z (.sl k (λb N=>by cases N) (λf=>by cases f) (by rw [ψ];exact L) hl hm (λx v=>?_) (λX=>?_) (λb o f i x v=>?_))⟩
  .obtain ⟨i,C,rfl⟩:=eQ A;exact (z i _ (ω C)).1
  .have D:=G ((u+(m - u))*P.bytesOf f) (by simp [DataW.weights,W]);rw [N] at D;have F:=fW b (show l.length<=u+(m - u) by omega);have T:reachBytes=140737488351232:=rfl;omega
  .obtain ⟨y,A,rfl⟩:=υ.1 v;obtain ⟨i,C,rfl⟩:=eQ A;exact (z i _ (ω C)).2.1
  .have h0:0<l.length:=by
    cases l with
    | nil=>exact absurd Z X
    | cons _ _=>simp
   obtain ⟨_,D,s,F,T⟩:=z 0 _ (ω h0);have h4:=T 0 Y;have B:s.length=k:=by rw [F.1,D]
   rw [ω (by omega)] at h4;have:r.spot=none:=by simpa [Addr.add] using World.cell?_spot h4
   exact ⟨r.block,r.off,by cases r;simp_all⟩
  .rw [ζ] at v
   cases A:l[i]? with
   | none=>rw [A] at v;cases v
   | some y=>
    rw [A] at v;injection v with v
    subst v;obtain ⟨hq,D,s,F,T⟩:=z i y A;injection f with f
    subst f;have B:s.length=k:=by rw [F.1,D]
    have M:i<u:=by rw [<-L];exact (χ.1 A).1
    have hin:∀j,j<k ->w.cell? ⟨b,o+i*k+j,none⟩=s[j]?:=λj S=>by
     have:=T j S
     rwa [Go.WideShapes.add_plain,Go.WideShapes.add_plain] at this
    refine .ptr (λj=>s.getD j undef) ?_ (λh=>h) F.2.1 (λj g E=>?_) (λj g E=>?_)
    .have J:MemPlace.cell b (o+i*k)∈MemPlace.row ⟨b,o,none⟩ (m*P.cellsOf f):=MemPlace.mem_row.2 ⟨i*k,by
      rw [hk];have:(i+1)*k<=m*k:=fW _ (by omega)
      rw [gI] at this;omega,Z⟩
     exact K _ (gH _ J)
    .have S:j<k:=by rw [<-D];exact (χ.1 E).1
     rw [hin j S,Δ,ω (by omega)];rfl
    .have S:j<k:=by rw [<-D];exact (χ.1 E).1
     rw [Δ,ω (by omega)];exact F.2.2 j g _ E (ω (by omega))
theorem LV.as {i:Type} {g:i ->D} {j:i ->Prop} (h:LV enc P w t k c Q) (f:a ->i) (o:∀b,c b=g (f b)) (l:∀b,Q b ->j (f b)):LV enc P w t k g j:=by grind [LV]
end
theorem X4 {P:Program} {f:FuncId} {k:List AV} (h:AM P f k (.raw (.bool true))) {w:World} {vs:List Value} (C:vs.length=k.length) (B:∀(i:Nat) a v,k[i]? =some a ->vs[i]? =some v ->AU w oh (λ_ _=>undef) a v):
  Calls P f vs.toArray w λe y=>e= .returned (.bool true)/\Below w.heap.size w y:=by
 have l:∀c b,¬Ar c [] b:=λc b ⟨_,_,_,h,_⟩=>by cases h
 let c:Nat ->Nat ->Value:=λ_ _=>undef
 let F:Fr:=Fr.mk none (.marks w.heap.size) w oh (Ar c []) (CU c []) (λb t=>t.elim) [] (λ_ _ _ h=>D5 h)
 have E:F.O c []=oh:=funext λb=>propext ⟨λh=>h.elim id λh=>(l c b h).elim,λh=>h.elim⟩
 have s:BR F [] c w:=⟨(λf i o u=>by cases u),(λf i L K o J b u=>by cases u),λb t=>(l c b t).elim,Z,Z,Z,κ _,λ_ _ _=>rfl,λf i b t=>kn t,κ _⟩
 refine (h.2 F c vs Z Z ⟨Z,Z,Z⟩ s C (λi a v D A=>by rw [E];exact B i a v D A)).mono λe y ⟨v,r,M,z,I,⟨H,G⟩,g,j⟩=>?_;subst I H G;refine ⟨?_,j.os,j.tape,j.output,j.size0,λb x=>j.keep b x (l c b)⟩
 cases g with
 | d g=>
  cases g with
  | raw _=>rfl
end Go.Proofs.YtnkkaeblokdifaaGreat
namespace Go.Proofs.YtnkkaeblokdifaaGreat
open Go.ChangeShapes Go.WideShapes Go.ChangeAt Go.RowKit
section
variable {H:Type} {enc:TypeId×Value ->H} {P:Program} {w:World}
end
end Go.Proofs.YtnkkaeblokdifaaGreat
namespace Go.Proofs.YtnkkaeblokdifaaGreat
open Go.RowKit
variable {M:List (List UInt8×Int)} {k:Nat} {c:Type} {f:List c} {h:c ->Int} {j:Prop} {E:Int} {x:c}
set_option maxRecDepth 100000
abbrev AF (z:Int):D:= .raw (.int .i64 z)
structure Uv where
 o:List UInt8
 k:Int
 a:List UInt8
structure AO where
 k:Int
 acc:Uv
 f:List UInt8
 t:List UInt8
structure FM where
 acc:Uv
 d:Int
structure Ph where
 f:List UInt8
 t:List UInt8
 n:Int
structure AG where
 id:Int
 pr:Int
 sq:Int
 po:List FM
 pa:List Ph
 af:List Int
structure cw where
 r:AO
 n:Int
structure dG where
 ro:List cw
 it:List AG
theorem Uv.eq_iff {x y:Uv}:x=y↔x.o=y.o/\x.k=y.k/\x.a=y.a:=by cases x;cases y;simp
instance:DecidableEq Uv:=λ_ _=>decidable_of_iff _ Uv.eq_iff.symm
theorem AO.eq_iff {x y:AO}:x=y↔x.k=y.k/\x.acc=y.acc/\x.f=y.f/\x.t=y.t:=by cases x;cases y;simp
instance:DecidableEq AO:=λ_ _=>decidable_of_iff _ AO.eq_iff.symm
abbrev C4 (x:AO):D:= .agg [AF x.k,Ae x.acc.o,AF x.acc.k,Ae x.acc.a,Ae x.f,Ae x.t]
abbrev Ck (x:FM):D:= .agg [Ae x.acc.o,AF x.acc.k,Ae x.acc.a,AF x.d]
abbrev I0 (x:Ph):D:= .agg [Ae x.f,Ae x.t,AF x.n]
abbrev Ap (x:AG):D:= .agg [AF x.id,AF x.pr,AF x.sq,.sl none (x.po.map Ck),.sl none (x.pa.map I0),.sl none (x.af.map AF)]
abbrev Cv (x:cw):D:= .agg [AF x.r.k,Ae x.r.acc.o,AF x.r.acc.k,Ae x.r.acc.a,Ae x.r.f,Ae x.r.t,AF x.n]
abbrev CM (x:dG):D:= .agg [.sl none (x.ro.map Cv),.sl none (x.it.map Ap)]
def Wy (x:AO):List Value:=[.int .i64 x.k,L0 x.acc.o,.int .i64 x.acc.k,L0 x.acc.a,L0 x.f,L0 x.t]
def TV (x:Uv):List Value:=[L0 x.o,.int .i64 x.k,L0 x.a]
abbrev pe:List TypeDesc:=[.int .i64,.string,.int .i64,.string,.string,.string]
abbrev oX:List TypeDesc:=[.string,.int .i64,.string]
theorem NT (a b:Int):NU (.int .i64 a) (.int .i64 b)=decide (a=b):=by
 simp only [NU];exact Bool.beq_eq_decide_eq a b
theorem NS (a b:List UInt8):NU (L0 a) (L0 b)=decide (a=b):=by
 simp only [NU,L0,<-beq_toListBytes,P9]
theorem ic (a b:AO):B9 (Wy a) (Wy b)=decide (a=b):=by grind [Wy,B9,NT,NS,AO.eq_iff,Uv.eq_iff]
theorem WT (a b:Uv):B9 (TV a) (TV b)=decide (a=b):=by grind [TV,B9,NT,NS,Uv.eq_iff]
theorem ko {d:TypeDesc} {b:List TypeDesc} {u:Value} {a:List Value} (h:MapKept.IsKey d u) (c:Az b a):Az (d::b) (u::a):=by grind [Az]
theorem Ov:Az [] []:=⟨Z,by simp⟩
theorem Wx (a:AO):Az pe (Wy a):=ko Z (ko trivial (ko Z (ko trivial (ko trivial (ko trivial Ov)))))
theorem IR (a:Uv):Az oX (TV a):=ko trivial (ko Z (ko trivial Ov))
theorem ia (a:AO):(C4 a).val? =some (.agg (Wy a).toArray):=rfl
theorem Bv:B3 prog 53 C4 (λa=> .agg (Wy a).toArray):=B3.flat (ds:=pe) (by kernel_rfl) (by kernel_rfl) ia Wx ic
theorem P8 {a:List (Nat×Option (List AJ))} {f:Nat} {i b:List AJ} (h:BT a f=some (some b)):∀g c,BT a g=some c ->C2 f i b g c:=by grind
theorem ij {p:Prop} [Decidable p] [Decidable j] (h:p↔j):AV.d (.raw (.bool (decide p)))= .d (.raw (.bool (decide j))):=by rw [decide_eq_decide.2 h]
theorem pj [Decidable j] (h:j):AV.d (.raw (.bool true))= .d (.raw (.bool (decide j))):=by rw [dm h]
theorem XE [Decidable j] (h:¬j):AV.d (.raw (.bool false))= .d (.raw (.bool (decide j))):=by rw [dw h]
theorem Ay {a b:Int} (h:a=b):AV.d (.raw (.int .i64 a))= .d (.raw (.int .i64 b)):=by rw [h]
theorem AQ (n:Nat) (h:n<=9223372036854775807):IntKind.i64.wrap (n:Int)=(n:Int):=Ξ _ (by omega)
theorem HQ (n b c:Int):AM prog 65 [.d (AF n),.d (AF b),.d (AF c)] (.raw (.bool (decide (b<=n/\n<=c)))):=by
 refine Av func65 Z Z ntmps65 Z Z Z λF f=>(AC (AE ?_));refine AB Z Z (AD (AC (AE (cl Z Z (cl Z Z (J (D2 Z Z Z) (cl Z Z (Id 10 Z (λa=>?_) (λa=>?_)))))))));refine Aa Z Z Z (cl Z Z (Aa Z Z Z (cl Z Z (Aa Z Z Z (J (ZA Z Z Z) (J (FL Z Z Z Z) ?_))))))
 rotate_left
 refine A8 Z Z Z Z (A8 Z Z Z Z (A8 Z Z Z Z (J (DT Z Z Z Z) ?_)))
 all_goals
  refine AB Z Z (AD (A6 ?_));exact ⟨_,[],[],A4 Z,Z,Z,by first | exact ij (by omega) | exact XE (by omega),rfl⟩
theorem GQ (n b c:Int):AM prog 41 [.d (AF n),.d (AF b),.d (AF c)] (.raw (.bool (decide (b<=n/\n<=c)))):=by
 refine Av func41 Z Z ntmps41 Z Z Z λF f=>(AC (AE ?_));refine AB Z Z (AD (AC (AE (cl Z Z (cl Z Z (J (D2 Z Z Z) (cl Z Z (Id 10 Z (λa=>?_) (λa=>?_)))))))));refine Aa Z Z Z (cl Z Z (Aa Z Z Z (cl Z Z (Aa Z Z Z (J (ZA Z Z Z) (J (FL Z Z Z Z) ?_))))))
 rotate_left
 refine A8 Z Z Z Z (A8 Z Z Z Z (A8 Z Z Z Z (J (DT Z Z Z Z) ?_)))
 all_goals
  refine AB Z Z (AD (A6 ?_));exact ⟨_,[],[],A4 Z,Z,Z,by first | exact ij (by omega) | exact XE (by omega),rfl⟩
theorem ld (n:Int):AM prog 135 [.d (AF n)] (.raw (.bool false)):=by
 refine Av func135 Z Z ntmps135 Z Z Z λF a=>(AC (AE (AB Z Z ?_)));refine AD (AC (AE (cl Z Z (cl Z Z (J (EO Z Z Z) (AB Z Z (AD (A6 ?_))))))));exact ⟨_,[],[],A4 Z,Z,Z,by simp,Z⟩
theorem aV (l:List UInt8):AM prog 136 [.d (Ae l)] (.raw (.bool false)):=by
 refine Av func136 Z Z ntmps136 Z Z Z λF a=>(AC (AE (AB Z Z ?_)));refine AD (AC (AE (cl Z Z (cl Z Z (J (Ep Z Z Z) (AB Z Z (AD (A6 ?_))))))));exact ⟨_,[],[],A4 Z,Z,Z,by simp,Z⟩
def FT (a b:Int):Int:=if a<b then -1 else if b<a then 1 else 0
def QL (a b:List UInt8):Bool:=Op.bytesLess a b
def HH (a b:List UInt8):Int:=if QL a b=true then -1 else if QL b a=true then 1 else 0
theorem F3 (a b:List UInt8):Op.bytesLess (⟨a.toArray⟩:ByteArray).toList (⟨b.toArray⟩:ByteArray).toList=QL a b:=by rw [Lib.toList_data,Lib.toList_data];rfl
theorem Qc (a b:Int):AM prog 74 [.d (AF a),.d (AF b)] (AF (FT a b)):=by
 refine Av func74 Z Z ntmps74 Z Z Z λF g=>(AC (AE ?_));refine AB Z Z (AD (AC (AE (cl Z Z (J (B5 (ld a) Z Z) (AB Z Z (AD (AC ?_))))))));refine AE (cl Z Z (J (B5 (ld b) Z Z) (AB Z Z (AD (AC (AC (AE (cl Z Z ?_))))))));refine AD (EV Z (Z) (AZ (AC (AC (AE (cl Z Z (AD (EV Z (Z) ?_))))))));refine AZ (AC (AC (AE (cl Z Z (cl Z Z (J (BW Z Z Z) (AD (Ah Z (λf=>?_) (λf=>?_)))))))))
 rotate_left
 refine AZ (AC (AC (AE (cl Z Z (cl Z Z (J (Pf Z Z Z) (AD (Ah Z (λc=>?_) (λc=>?_)))))))))
 rotate_left
 refine AZ ?_
 all_goals
  refine AC (AE (AB Z Z (AD (A6 ?_))));exact ⟨_,[],[],A4 Z,Z,Z,by first | exact Ay (by unfold FT;rw [ϖ (by assumption)]) | exact Ay (by unfold FT;rw [η (by assumption),ϖ (by omega)]) | exact Ay (by unfold FT;rw [η (by assumption),η (by omega)]),Z⟩
theorem Qb (a b:List UInt8):AM prog 75 [.d (Ae a),.d (Ae b)] (AF (HH a b)):=by
 refine Av func75 Z Z ntmps75 Z Z Z λF g=>(AC (AE ?_));refine AB Z Z (AD (AC (AE (cl Z Z (J (B5 (aV a) Z Z) (AB Z Z (AD (AC ?_))))))));refine AE (cl Z Z (J (B5 (aV b) Z Z) (AB Z Z (AD (AC (AC (AE (cl Z Z ?_))))))));refine AD (EV Z (Z) (AZ (AC (AC (AE (cl Z Z (AD (EV Z (Z) ?_))))))));refine AZ (AC (AC (AE (cl Z Z (cl Z Z (J (iX Z Z Z) (AD (KH Z (λc=>?_) (λc=>?_)))))))));rw [F3] at c
 rotate_left
 rw [F3] at c;refine AZ (AC (AC (AE (cl Z Z (cl Z Z (J (iY Z Z Z) (AD (KH Z (λf=>?_) (λf=>?_)))))))));rw [F3] at f
 rotate_left
 rw [F3] at f;refine AZ ?_
 all_goals
  refine AC (AE (AB Z Z (AD (A6 ?_))));exact ⟨_,[],[],A4 Z,Z,Z,by first | exact Ay (by unfold HH;rw [ϖ c]) | exact Ay (by unfold HH;rw [η (by rw [c];decide),ϖ f]) | exact Ay (by unfold HH;rw [η (by rw [c];decide),η (by rw [f];decide)]),Z⟩
abbrev Mx:Int:=1000000000000000
def B7:List Int ->Int
 | []=>0
 | e::r=>if e=0 then B7 r else e
theorem Xs (a:k<f.length):B7 ((f.drop k).map h)=if h f[k]=0 then B7 ((f.drop (k+1)).map h) else h f[k]:=by
 rw [lC a];rfl
theorem GE (a:¬k<f.length):B7 ((f.drop k).map h)=0:=by
 rw [List.drop_of_length_le (by omega)];rfl
theorem Dc {l:List c} {k:Nat} (b:k<l.length) (a:E=B7 ((l.drop k).map h)):(h l[k]=0 ->E=B7 ((l.drop (k+1)).map h))/\∀e,h l[k]=e ->e≠0 ->e=E:=by grind [Xs]
def OG (p:FM):Int:=if p.acc.o=[]\/p.acc.a=[] then 6 else if ¬(0<=p.acc.k/\p.acc.k<=4) then 11 else if ¬(-Mx<=p.d/\p.d<=Mx) then 12 else 0
def Qy (p:Ph):Int:=if p.f=[]\/p.t=[] then 6 else if p.f=p.t then 7 else if ¬(0<=p.n/\p.n<=Mx) then 2 else 0
def TY (id:Int) (l:List Int) (k:Nat):Int:=if ¬(0<=l.getD k 0/\l.getD k 0<=1000000000) then 2 else if l.getD k 0=id\/l.getD k 0∈l.take k then 7 else 0
def I7 (i:AG):Int:=B7 (i.po.map OG)
def Rj (i:AG):Int:=B7 (i.pa.map Qy)
def Qk (i:AG):Int:=B7 ((List.range i.af.length).map (TY i.id i.af))
def CK (l:List FM) (a:List UInt8):Int:=(l.map λp=>if p.acc.a=a then p.d else 0).sum
def Nf (i:AG):Int:=if ∃p∈i.po,CK i.po p.acc.a≠0 then 14 else 0
theorem JX (b:k<f.length) (h:x∉f.take k) (a:x≠f[k]):x∉f.take (k+1):=by
 rw [φ b,ν]
 simp [h,a]
theorem SC (a:¬k<f.length) (h:x∉f.take k):x∉f:=by
 rwa [ς (by omega)] at h
def ja (x:Int) (l:List Int):Int:=if x∈l then (l.idxOf x:Int) else -1
theorem bI {l:List Int} {x:Int} (a:k<l.length) (h:x∉l.take k) (b:x=l[k]):ja x l=(k:Int):=by grind [ja,lC,List.take_append_drop]
theorem Vy (l:List Int) (x:Int) (i:l.length<=140737488355328):AM prog 91 [.d (.sl none (l.map AF)),.d (AF x)] (AF (ja x l)):=by
 refine Av func91 Z Z ntmps91 Z Z Z λF j=>(AC (AE (AB Z Z (AD ?_))));refine AC (AC (AE (cl Z Z (J (CV Z E0 Z) (cl Z Z (AD (A2 (Hq (α:=Nat) (λk=>⟨19,[(0,.d (.sl none (l.map AF))),(1,.d (AF x)),(7,(.d (AF (l.length:Int)))),(8,(.d (AF (k:Int))))],[]⟩) (λk=>k<=l.length/\x∉l.take k) (λk=>l.length - k) (0) (⟨ϱ _,by simp⟩) (hG ⟨Z,Z,Z,Z,trivial⟩) ?_))))))));rintro k ⟨g,c⟩;refine AC (AE (J (BW Z Z Z) (AD (AC (Ah Z (λf=>?_) (λf=>?_))))))
 .have a:k<l.length:=Bi f;refine AZ (AC (A2 (AC (AE (cl Z Z (AB Z Z (AD (AC ?_))))))));refine AE (cl Z Z (cl Z Z (cl Z Z (J (Bq (k) Z Z (Z) (Aq a) E0 Z B4 Z) (J (EJ Z Z BE Z) (J (MB Z Z Z) (AD (Ah Z (λb=>?_) (λb=>?_)))))))))
  .refine AC (AE (cl Z Z (AB Z Z (AD (A6 ?_)))));exact ⟨_,[],[],A4 Z,Z,Z,Ay (bI a c b).symm,Z⟩
  .refine AZ (AE (J (Aw Z Z (AQ (k+1) (by omega)) Z) (cl Z Z (AD ?_))));exact ⟨k+1,⟨by show k+1<=_;omega,JX a c b⟩,by show l.length - (k+1)<l.length - k;omega,⟨Z,Z,λ_ _=>Td.get (l:=[(0,_),(1,_),(7,_),(8,_)]) ⟨Z,Z,Z,Z,trivial⟩⟩⟩
 .refine BL (AC (AE (AB Z Z (AD (A6 ?_)))));exact ⟨_,[],[],A4 Z,Z,Z,Ay (by unfold ja;rw [η (SC (by have h:=f;omega) c)]),Z⟩
theorem NZ (l:List Int) (x:Int) (a:l.length<=140737488355328):AM prog 42 [.d (.sl none (l.map AF)),.d (AF x)] (.raw (.bool (decide (x∈l)))):=by
 refine Av func42 Z Z ntmps42 Z Z Z λF b=>(AC (AE (AB Z Z (AD ?_))));refine AC (AE (cl Z Z (cl Z Z (J (B5 (Vy l x a) Z Z) (J (D2 Z Z Z) (AB Z Z (AD (A6 ?_))))))));exact ⟨_,[],[],A4 Z,Z,Z,ij (by unfold ja;split<;>rename_i h<;>simp [h]<;>omega),Z⟩
theorem UL (i:AG) (t:i.po.length<=140737488355328):AM prog 66 [.d (Ap i)] (AF (I7 i)):=by
 refine Av func66 Z Z ntmps66 Z Z Z λF r=>(AC (AE (V (CQ 1 Z Z Z Z Z Z Z) (AB Z Z (AD (AC ?_))))));refine AC (AE (J (A1 Z Kp Z Z Z) (J (A5 Z Z Z Zy Z) (J (CV Z b0 Z) (cl Z Z (AD (A2 (Bb (α:=Nat) (λk=>⟨35,[(1,(.ptr 1 0 0)),(6,(.d (.sl none (i.po.map Ck)))),(7,(.d (AF (i.po.length:Int)))),(8,(.d (AF (k:Int))))],[(1,[.blk 49 [.d (AF i.id),.d (AF i.pr),.d (AF i.sq),.d (.sl none (i.po.map Ck)),.d (.sl none (i.pa.map I0)),.d (.sl none (i.af.map AF))]])]⟩) (λk=>k<=i.po.length/\I7 i=B7 ((i.po.drop k).map OG)) (λk=>i.po.length - k) (0) (⟨ϱ _,Z⟩) (A0 r [1] Z Z ⟨Z,Z,Z,Z,trivial⟩) ?_))))))));rintro k ⟨s,o⟩;refine AC (AE (J (BW Z Z Z) (AD (AC (Ah Z (λl=>?_) (λl=>?_))))))
 .have g:k<i.po.length:=Bi l;refine AZ (AC (A2 (AC (AE ?_))));have j:=Dc g o;refine J (Bq (k) Z Z (Z) (Aq g) b0 Z O8 Z) (J (IX Z Z ZT Z) (V (CE 2 ME Z Z Z Z) (V (Bk Z Z Z Z Z Z Z O8) (AD ?_))));refine A2 (AC (AE (J (A1 Z Jn Z Z Z) (J (A1 Z QX Z Z Z) (J (A5 Z Z Z H1 Z) (J (Dx Z Z Z) (cl Z Z (Id 17 Z (λa=>?_) (λa=>?_)))))))))
  .refine A8 Z Z Z Z (A8 Z Z Z Z (A8 Z Z Z Z (A8 Z Z Z Z ?_)));refine J (FL Z Z Z Z) (AB Z Z (AD (Dt Z Z (AC (AE (AB Z Z (AD (A6 ?_))))))));exact ⟨_,[],[],A4 Z,Z,Z,Ay (j.2 6 (by unfold OG;rw [ϖ (.inl a)]) (by decide)),Z⟩
  .refine Aa Z Z Z (J (A1 Z Jn Z Z Z) (Aa Z Z Z ?_));refine J (A1 Z NL Z Z Z) (Aa Z Z Z (J (A5 Z Z Z H1 Z) (Aa Z Z Z (J (Dx Z Z Z) (J (DT Z Z Z Z) (AB Z Z (AD (Ah Z (λb=>?_) (λb=>?_)))))))))
   .refine AC (AE (AB Z Z (AD (A6 ?_))));exact ⟨_,[],[],A4 Z,Z,Z,Ay (j.2 6 (by unfold OG;rw [ϖ (.inr b)]) (by decide)),Z⟩
   .refine AC ?_;refine AE (J (A1 Z Jn Z Z Z) (J (A1 Z NM Z Z Z) (J (A5 Z Z Z BE Z) (J (B5 (HQ _ _ _) Z Z) (J (O2 Z Z) (AB Z Z (AD (Ah Z (λc=>?_) (λc=>?_)))))))))
    .refine AC (AE (AB Z Z (AD (A6 ?_))));exact ⟨_,[],[],A4 Z,Z,Z,Ay (j.2 11 (by unfold OG;rw [η (by simp [a,b]),ϖ c]) (by decide)),Z⟩
    .refine AC (AE (J (A1 Z QZ Z Z Z) (J (A5 Z Z Z L3 Z) (J (B5 (GQ _ _ _) Z Z) (J (O2 Z Z) (AB Z Z (AD (Ah Z (λf=>?_) (λf=>?_)))))))))
     .refine AC (AE (AB Z Z (AD (A6 ?_))));exact ⟨_,[],[],A4 Z,Z,Z,Ay (j.2 12 (by unfold OG;rw [η (by simp [a,b]),η c,ϖ f]) (by decide)),Z⟩
     .refine AZ (AE (J (Aw Z Z (AQ (k+1) (by omega)) Z) (cl Z Z (AD ?_))));exact ⟨k+1,⟨by show k+1<=_;omega,j.1 (by unfold OG;rw [η (by simp [a,b]),η c,η f])⟩,by show i.po.length - (k+1)<i.po.length - k;omega,A0 r [1] Z (Z) ⟨Z,Z,Z,Z,trivial⟩⟩
 .refine BL (AC (AE (AB Z Z (AD (A6 ?_)))));exact ⟨_,[],[],A4 Z,Z,Z,Ay (by rw [o,GE (by have h:=l;omega)]),Z⟩
theorem UO (i:AG) (t:i.pa.length<=140737488355328):AM prog 67 [.d (Ap i)] (AF (Rj i)):=by
 refine Av func67 Z Z ntmps67 Z Z Z λF r=>(AC (AE (V (CQ 1 Z Z Z Z Z Z Z) (AB Z Z (AD (AC ?_))))));refine AC (AE (J (A1 Z NN Z Z Z) (J (A5 Z Z Z jK Z) (J (CV Z cL Z) (cl Z Z (AD (A2 (Bb (α:=Nat) (λk=>⟨33,[(1,(.ptr 1 0 0)),(6,(.d (.sl none (i.pa.map I0)))),(7,(.d (AF (i.pa.length:Int)))),(8,(.d (AF (k:Int))))],[(1,[.blk 49 [.d (AF i.id),.d (AF i.pr),.d (AF i.sq),.d (.sl none (i.po.map Ck)),.d (.sl none (i.pa.map I0)),.d (.sl none (i.af.map AF))]])]⟩) (λk=>k<=i.pa.length/\Rj i=B7 ((i.pa.drop k).map Qy)) (λk=>i.pa.length - k) (0) (⟨ϱ _,Z⟩) (A0 r [1] Z Z ⟨Z,Z,Z,Z,trivial⟩) ?_))))))));rintro k ⟨s,o⟩;refine AC (AE (J (BW Z Z Z) (AD (AC (Ah Z (λl=>?_) (λl=>?_))))))
 .have g:k<i.pa.length:=Bi l;refine AZ (AC (A2 (AC (AE ?_))));have j:=Dc g o;refine J (Bq (k) Z Z (Z) (Aq g) cL Z VH Z) (J (IX Z Z lY Z) (V (CE 2 lG Z Z Z Z) (V (Bk Z Z Z Z Z Z Z VH) ?_)));refine AD (A2 (AC (AE (J (A1 Z Jm Z Z Z) (J (A5 Z Z Z H1 Z) (J (Dx Z Z Z) (cl Z Z (Id 16 Z (λa=>?_) (λa=>?_)))))))))
  .refine A8 Z Z Z Z (A8 Z Z Z Z (A8 Z Z Z Z ?_));refine J (FL Z Z Z Z) (AB Z Z (AD (Dt Z Z (AC (AE (AB Z Z (AD (A6 ?_))))))));exact ⟨_,[],[],A4 Z,Z,Z,Ay (j.2 6 (by unfold Qy;rw [ϖ (.inl a)]) (by decide)),Z⟩
  .refine Aa Z Z Z ?_;refine J (A1 Z Jl Z Z Z) (Aa Z Z Z (J (A5 Z Z Z H1 Z) (Aa Z Z Z (J (Dx Z Z Z) (J (DT Z Z Z Z) (AB Z Z (AD (Ah Z (λb=>?_) (λb=>?_)))))))))
   .refine AC (AE (AB Z Z (AD (A6 ?_))));exact ⟨_,[],[],A4 Z,Z,Z,Ay (j.2 6 (by unfold Qy;rw [ϖ (.inr b)]) (by decide)),Z⟩
   .refine AC ?_;refine AE (J (A1 Z Jm Z Z Z) (J (A5 Z Z Z H1 Z) (J (A1 Z Jl Z Z Z) (J (A5 Z Z Z H1 Z) (J (Dx Z Z Z) (AB Z Z (AD (Ah Z (λc=>?_) (λc=>?_)))))))))
    .refine AC (AE (AB Z Z (AD (A6 ?_))));exact ⟨_,[],[],A4 Z,Z,Z,Ay (j.2 7 (by unfold Qy;rw [η (by simp [a,b]),ϖ c]) (by decide)),Z⟩
    .refine AC (AE (J (A1 Z Jk Z Z Z) (J (A5 Z Z Z L3 Z) (J (B5 (GQ _ _ _) Z Z) (J (O2 Z Z) (AB Z Z (AD (Ah Z (λf=>?_) (λf=>?_)))))))))
     .refine AC (AE (AB Z Z (AD (A6 ?_))));exact ⟨_,[],[],A4 Z,Z,Z,Ay (j.2 2 (by unfold Qy;rw [η (by simp [a,b]),η c,ϖ f]) (by decide)),Z⟩
     .refine AZ (AE (J (Aw Z Z (AQ (k+1) (by omega)) Z) (cl Z Z (AD ?_))));exact ⟨k+1,⟨by show k+1<=_;omega,j.1 (by unfold Qy;rw [η (by simp [a,b]),η c,η f])⟩,by show i.pa.length - (k+1)<i.pa.length - k;omega,A0 r [1] Z (Z) ⟨Z,Z,Z,Z,trivial⟩⟩
 .refine BL (AC (AE (AB Z Z (AD (A6 ?_)))));exact ⟨_,[],[],A4 Z,Z,Z,Ay (by rw [o,GE (by have h:=l;omega)]),Z⟩
theorem EB {n k:Nat} {f:Nat ->Int} {E:Int} (a:k<n) (h:E=B7 (((List.range n).drop k).map f)):(f k=0 ->E=B7 (((List.range n).drop (k+1)).map f))/\∀e,f k=e ->e≠0 ->e=E:=by
 have:=Dc (l:=List.range n) (k:=k) (by simpa using a) h
 grind
theorem kb (i:AG) (t:i.af.length<=140737488355328):AM prog 68 [.d (Ap i)] (AF (Qk i)):=by
 refine Av func68 Z Z ntmps68 Z Z Z λF r=>(AC (AE (V (CQ 1 Z Z Z Z Z Z Z) (AB Z Z (AD (AC ?_))))));refine AC (AE (J (A1 Z FE Z Z Z) (J (A5 Z Z Z BI Z) (J (CV Z E0 Z) (cl Z Z (AD (A2 (Bb (α:=Nat) (λk=>⟨31,[(1,(.ptr 1 0 0)),(6,(.d (.sl none (i.af.map AF)))),(7,(.d (AF (i.af.length:Int)))),(8,(.d (AF (k:Int))))],[(1,[.blk 49 [.d (AF i.id),.d (AF i.pr),.d (AF i.sq),.d (.sl none (i.po.map Ck)),.d (.sl none (i.pa.map I0)),.d (.sl none (i.af.map AF))]])]⟩) (λk=>k<=i.af.length/\Qk i=B7 (((List.range i.af.length).drop k).map (TY i.id i.af))) (λk=>i.af.length - k) (0) (⟨ϱ _,Z⟩) (A0 r [1] Z Z ⟨Z,Z,Z,Z,trivial⟩) ?_))))))));rintro k ⟨s,o⟩;refine AC (AE (J (BW Z Z Z) (AD (AC (Ah Z (λl=>?_) (λl=>?_))))))
 .have b:k<i.af.length:=Bi l;refine AZ (AC (A2 (AC (AE ?_))));have j:=EB b o;have g:i.af.getD k 0=i.af[k]:=by simp [b]
  refine cl Z Z (J (Bq (k) Z Z (Z) (Aq b) E0 Z B4 Z) (J (EJ Z Z BE Z) (AB Z Z (AB Z Z (AD ?_)))));refine A2 (AC (AE (cl Z Z (J (B5 (HQ _ _ _) Z Z) (J (O2 Z Z) (AB Z Z (AD (Ah Z (λa=>?_) (λa=>?_)))))))))
  .refine AC (AE (AB Z Z (AD (A6 ?_))));exact ⟨_,[],[],A4 Z,Z,Z,Ay (j.2 2 (by unfold TY;rw [g,ϖ a]) (by decide)),Z⟩
  .refine AC (AE (cl Z Z (J (A1 Z Ny Z Z Z) (J (A5 Z Z Z BE Z) (J (MB Z Z Z) (cl Z Z (Id 22 Z (λc=>?_) (λc=>?_))))))))
   .refine A8 Z Z Z Z (A8 Z Z Z Z (A8 Z Z Z Z (A8 Z Z Z Z (A8 Z Z Z Z (A8 Z Z Z Z ?_)))));refine J (FL Z Z Z Z) (AB Z Z (AD (Dt Z Z (AC (AE (AB Z Z (AD (A6 ?_))))))));exact ⟨_,[],[],A4 Z,Z,Z,Ay (j.2 7 (by unfold TY;rw [g,η a,ϖ (.inl c)]) (by decide)),Z⟩
   .refine Aa Z Z Z (J (A1 Z FE Z Z Z) (Aa Z Z Z (J (A5 Z Z Z BI Z) (Aa Z Z Z (cl Z Z (Aa Z Z Z ?_))))));refine J (LA (i.af) (k) Z Z Z (Z) (by omega) E0 B4 (λ_=>rfl) Z) (Aa Z Z Z (cl Z Z (Aa Z Z Z (J (B5 (NZ (i.af.take k) _ (by simp;omega)) Z Z) (J (DT Z Z Z Z) (AB Z Z (AD (Ah Z (λf=>?_) (λf=>?_)))))))))
    .refine AC (AE (AB Z Z (AD (A6 ?_))));exact ⟨_,[],[],A4 Z,Z,Z,Ay (j.2 7 (by unfold TY;rw [g,η a,ϖ (.inr f)]) (by decide)),Z⟩
    .refine AZ (AE (J (Aw Z Z (AQ (k+1) (by omega)) Z) (cl Z Z (AD ?_))));exact ⟨k+1,⟨by show k+1<=_;omega,j.1 (by unfold TY;rw [g,η a,η (by simp [c];exact f)])⟩,by show i.af.length - (k+1)<i.af.length - k;omega,A0 r [1] Z (Z) ⟨Z,Z,Z,Z,trivial⟩⟩
 .refine BL (AC (AE (AB Z Z (AD (A6 ?_)))));exact ⟨_,[],[],A4 Z,Z,Z,Ay (by rw [o,GE (by simp;have h:=l;omega)]),Z⟩
theorem OV (l:List FM) (p:FM) (a:List UInt8):CK (l++ [p]) a=CK l a+if p.acc.a=a then p.d else 0:=by simp [CK]
theorem Ng (l:List FM) (a:List UInt8) (h:∀p∈l,-Mx<=p.d/\p.d<=Mx): -(l.length*1000000000000000)<=CK l a/\CK l a<=l.length*1000000000000000:=by
 induction l with
 | nil=>simp [CK]
 | cons p r b=>
  have f:=b λq c=>h q (by simp [c])
  grind [CK]
def T3 (l:List FM) (M:List (List UInt8×Int)):Prop:=(M.map Prod.fst).Nodup/\(∀a,AY M a 0=CK l a)/\(∀a,a∈M.map Prod.fst ->∃p∈l,p.acc.a=a)/\∀p∈l,p.acc.a∈M.map Prod.fst
theorem et {g:Type} [DecidableEq c] {M:List (c×g)} {a f:c} {b:g}:f∈(BA M a b).map Prod.fst↔f=a\/f∈M.map Prod.fst:=by grind [K9]
variable {g:List FM}
theorem T3.snoc (h:T3 g M) (p:FM):T3 (g++ [p]) (BA M p.acc.a (AY M p.acc.a 0+p.d)):=by
 obtain ⟨i,k,j,f⟩:=h;refine ⟨Mk i,λa=>?_,λa c=>?_,λq b=>?_⟩
 .grind [H5,OV]
 .rcases et.1 c with e | e
  .grind
  grind
 .rcases ν.1 b with b | b
  .exact et.2 (.inr (f q b))
  .simp at b;subst b;exact et.2 (.inl Z)
variable {s:AG}
theorem k7 (h:T3 s.po M) {j:Nat} {a:List UInt8} {v:Int} (l:M[j]? =some (a,v)) (g:v≠0):(14:Int)=Nf s:=by
 have b:=ϑ l;have c:=cc (z:=0) h.1 b;rw [h.2.1] at c;obtain ⟨p,k,e⟩:=h.2.2.1 a (gp (f:=Prod.fst) b);unfold Nf;rw [ϖ ⟨p,k,by rw [e,c];exact g⟩]
theorem oQ (h:T3 s.po M) (a:∀x∈M,x.2=0):(0:Int)=Nf s:=by grind [Nf,H6,T3]
theorem VD (h:∀p∈g,-Mx<=p.d/\p.d<=Mx):∀p∈g.take k,-Mx<=p.d/\p.d<=Mx:=λp a=>h p (fM a)
theorem Uo (i:AG) (G:i.po.length<=256) (A:∀p∈i.po,-Mx<=p.d/\p.d<=Mx):AM prog 69 [.d (Ap i)] (AF (Nf i)):=by
 refine Av func69 Z Z ntmps69 Z Z Z λF u=>(AC (AE ?_));refine V (CQ 1 Z Z Z Z Z Z Z) (AB Z Z (AD (AC (AE (V (Pd 2 Z Z Z Z) (AB Z Z (AD (AC ?_))))))));refine AC (AE (J (A1 Z Kp Z Z Z) (J (A5 Z Z Z Zy Z) (J (CV Z b0 Z) (cl Z Z (AD (A2 (Bb (α:=Nat×List (List UInt8×Int)) (λq=>⟨33,[(3,(.map 2 0)),(10,(.d (.sl none (i.po.map Ck)))),(11,(.d (AF (i.po.length:Int)))),(12,(.d (AF (q.1:Int))))],[(2,[BD Ae AF q.2])]⟩) (λq=>q.1<=i.po.length/\T3 (i.po.take q.1) q.2) (λq=>i.po.length - q.1) ((0,[])) (⟨ϱ _,⟨by simp,by simp [CK,AY],by simp,by simp⟩⟩) (A0 u [2] Z Z ⟨Z,Z,Z,Z,trivial⟩) ?_))))))));rintro ⟨k,M⟩ ⟨w,s⟩;dsimp only at w s⊢;refine AC (AE (J (BW Z Z Z) (AD (AC (Ah Z (λg=>?_) (λg=>?_))))))
 .have c:k<i.po.length:=Bi g;refine AZ (AC (A2 (AC (AE ?_))));have z:=A _ (θ c);have y:=Ng (i.po.take k) i.po[k].acc.a (VD A);rw [<-s.2.1,Θ] at y;simp only [Mx] at z;refine J (Bq (k) Z Z (Z) (Aq c) b0 Z O8 Z) (J (IX Z Z ZT Z) ?_);refine V (CE 3 ME Z Z Z Z) (V (Bk Z Z Z Z Z Z Z O8) (AD (AE (cl Z Z (J (A1 Z Jn Z Z Z) (J (A1 Z NL Z Z Z) (J (A5 Z Z Z H1 Z) (J (HO (M) (i.po[k].acc.a) (0) _ Z Z Z aY s0 Nu Z Z) ?_))))))));refine J (A1 Z QZ Z Z Z) (J (A5 Z Z Z L3 Z) (J (Aw Z Z (Ξ _ (by omega)) Z) (V (Tc (M) (i.po[k].acc.a) (AY M i.po[k].acc.a 0+i.po[k].d) Z Z Z aY s0 Z Z) (AD (AE (J (Aw Z Z (AQ (k+1) (by omega)) Z) (cl Z Z (AD ?_))))))));exact ⟨(k+1,_),⟨by show k+1<=_;omega,by have:=s.snoc i.po[k];rwa [<-φ c] at this⟩,by show i.po.length - (k+1)<i.po.length - k;omega,A0 u [2] Z (Z) ⟨Z,Z,Z,Z,trivial⟩⟩
 .refine BL (AC (AC ?_));have r:T3 i.po M:=by rw [ς (by have h:=g;omega)] at s;exact s
  refine AE (cl Z Z (V (Fs 4 Z Z Z aY Z Z Z Z) (AD (A2 (Bb (α:=List Nat) (λseen=>⟨33,[(26,(.ptr 4 0 0))],[(4,[.iter 2 0 M.length seen]),(2,[BD Ae AF M])]⟩) (λseen=>∀x∈M,x∈Bh M (List.range M.length) seen\/x.2=0) (λseen=>(Bh M (List.range M.length) seen).length) ([]) (λx j=> .inl (by rw [Co (by simp)];exact j)) (A0 u [4,2] Z Z ⟨Z,trivial⟩) ?_)))));intro seen B;refine AC (AE (K7 (M) Z Z Z Z (λl=>?_) (λv t E D b o C a=>⟨_,Z,?_⟩)))
  .refine J (C8 Z Z Z) ?_;refine AD (AC (EV Z Z (BL (AC (AE (AB Z Z (AD (A6 ?_))))))));exact ⟨_,[],[],A4 Z,Z,Z,Ay (oQ r λx j=>(B x j).elim (λh=>by rw [l] at h;cases h) id),Z⟩
  .refine J (C8 Z Z Z) (AD (AC (Dt Z Z (AZ (A2 (AC (AE (J (Ft (M) v t Z Z Z b o Z) ?_))))))));refine J (C8 Z Z Z) (AB Z Z (AD (AC (AE (cl Z Z (J (EO Z Z Z) (AD (Ah Z (λf=>?_) (λf=>?_)))))))))
   .refine AC (AE (AB Z Z (AD (A6 ?_))));exact ⟨_,[],[],A4 Z,Z,Z,Ay (k7 r b f),Z⟩
   .refine AZ ?_;exact ⟨seen++ [t],λx j=>(B x j).elim (λh=>(di.1 (a.mem_iff.1 h)).elim (λe=> .inr (by rw [e];simpa using f)) .inl) .inr,by rw [a.length_eq];exact gA _,A0 u [4,2] Z (Z) ⟨Z,trivial⟩⟩
abbrev rB:Uv:=⟨[],0,[]⟩
abbrev I6 (p:FM):AO:=⟨0,p.acc,[],[]⟩
abbrev D4 (f t:List UInt8):AO:=⟨1,rB,f,t⟩
abbrev Eu (f:List UInt8):AO:=⟨2,rB,f,[]⟩
def c6 (M:List (AO×Int)) (x:AO×Int):List (AO×Int):=BA M x.1 (AY M x.1 0+x.2)
def Iy (l:List FM):List (AO×Int):=l.map λp=>(I6 p,p.d)
def St (p:Ph):List (AO×Int):=[(D4 p.f p.t,-p.n),(D4 p.t p.f,p.n),(Eu p.f,-p.n),(Eu p.t,p.n)]
def NY (l:List Ph):List (AO×Int):=l.flatMap St
def dq (i:AG):List (AO×Int):=Iy i.po++NY i.pa
def dN (l:List (AO×Int)):List (AO×Int):=l.foldl c6 []
def Ab (l:List (AO×Int)) (r:AO):Int:=(l.map λx=>if x.1=r then x.2 else 0).sum
theorem W0 (l:List (AO×Int)) (x:AO×Int):dN (l++ [x])=c6 (dN l) x:=by simp [dN]
theorem OS (l m:List (AO×Int)) (r:AO):Ab (l++m) r=Ab l r+Ab m r:=by simp [Ab]
theorem Ug (x:AO×Int) (r:AO):Ab [x] r=if x.1=r then x.2 else 0:=by simp [Ab]
theorem YV {α:Type} {p:List α ->Prop} (h0:p []) (h1:∀l x,p l ->p (l++ [x])) (l:List α):p l:=by
 have:∀m:List α,p m.reverse:=λm=>by
  induction m with
  | nil=>exact h0
  | cons x r ih=>rw [List.reverse_cons];exact h1 _ _ ih
 have:=this l.reverse
 grind
theorem JG (l:List (AO×Int)) (r:AO):AY (dN l) r 0=Ab l r:=by
 revert r
 refine YV (p:=λl=>∀r,AY (dN l) r 0=Ab l r) (λr=>rfl) (λl x a r=>?_) l;rw [W0,c6,H5,OS,Ug]
 grind
theorem En (l:List (AO×Int)):((dN l).map Prod.fst).Nodup:=
 YV (p:=λl=>((dN l).map Prod.fst).Nodup) (by simp [dN]) (λl x a=>by rw [W0];exact Mk a) l
theorem Hv (l:List (AO×Int)) (r:AO):r∈(dN l).map Prod.fst↔r∈l.map Prod.fst:=by
 refine YV (p:=λl=>r∈(dN l).map Prod.fst↔r∈l.map Prod.fst) (by simp [dN]) (λl x a=>?_) l;rw [W0,c6,et,a]
 simp [or_comm]
def Nz (l:List (AO×Int)):Prop:=∀x∈l,-1000000000000000<=x.2/\x.2<=1000000000000000
theorem Gq {l:List (AO×Int)} (h:Nz l) (r:AO): -(l.length*1000000000000000)<=Ab l r/\Ab l r<=l.length*1000000000000000:=by
 induction l with
 | nil=>simp [Ab]
 | cons x l a=>
  grind [Ab,Nz]
structure oc (i:AG):Prop where
 po:i.po.length<=256
 pa:i.pa.length<=256
 af:i.af.length<=256
 d:∀p∈i.po,-Mx<=p.d/\p.d<=Mx
 n:∀p∈i.pa,0<=p.n/\p.n<=Mx
theorem LQ (l:List Ph):(NY l).length=4*l.length:=by
 induction l with
 | nil=>rfl
 | cons p r a=>simp only [NY,List.flatMap_cons,Ω,gm] at a⊢;rw [a];simp [St];omega
theorem lr (h:∀p∈g,-Mx<=p.d/\p.d<=Mx):Nz (Iy g):=by grind [Nz,Iy]
variable {t:Ph}
theorem lv (h:0<=t.n/\t.n<=Mx):Nz (St t):=by grind [St,Nz]
variable {o:List Ph}
theorem qx (h:∀p∈o,0<=p.n/\p.n<=Mx):Nz (NY o):=λx a=>by
 obtain ⟨p,b,a⟩:=List.mem_flatMap.1 a;exact lv (h p b) x a
variable {a:List (AO×Int)}
theorem Nz.append {m:List (AO×Int)} (h:Nz a) (c:Nz m):Nz (a++m):=λx b=>(ν.1 b).elim (h x) (c x)
theorem Nz.take (h:Nz a) (k:Nat):Nz (a.take k):=λx b=>h x (fM b)
theorem Em {l:List (AO×Int)} (h:Nz l) (a:l.length<=2000) (r:AO): -2000000000000000000<=AY (dN l) r 0/\AY (dN l) r 0<=2000000000000000000:=by
 have:=Gq h r;rw [JG];omega
theorem Xz (a:k<g.length):Iy (g.take (k+1))=Iy (g.take k)++ [(I6 g[k],g[k].d)]:=by
 simp only [Iy];rw [φ a,du];rfl
theorem Xy (a:k<o.length):NY (o.take (k+1))=NY (o.take k)++St o[k]:=by
 simp only [NY];rw [φ a,List.flatMap_append];simp
def da (M:List (AO×Int)) (p:Ph):List (AO×Int):=BA M (D4 p.f p.t) (AY M (D4 p.f p.t) 0 - p.n)
def dZ (M:List (AO×Int)) (p:Ph):List (AO×Int):=BA M (D4 p.t p.f) (AY M (D4 p.t p.f) 0+p.n)
def gw (M:List (AO×Int)) (p:Ph):List (AO×Int):=BA M (Eu p.f) (AY M (Eu p.f) 0 - p.n)
def sa (M:List (AO×Int)) (p:Ph):List (AO×Int):=BA M (Eu p.t) (AY M (Eu p.t) 0+p.n)
variable {i:List (AO×Int)}
theorem ZC {p:Ph} (h:i=dN a):da i p=dN (a++ [(D4 p.f p.t,-p.n)])/\dZ (da i p) p=dN (a++ [(D4 p.f p.t,-p.n),(D4 p.t p.f,p.n)])/\gw (dZ (da i p) p) p=dN (a++ [(D4 p.f p.t,-p.n),(D4 p.t p.f,p.n),(Eu p.f,-p.n)])/\sa (gw (dZ (da i p) p) p) p=dN (a++St p):=by
 subst h;have e:∀(a:List (AO×Int)) (x:AO×Int) (r:List (AO×Int)),a++x::r=(a++ [x])++r:=by simp
 refine ⟨?_,?_,?_,?_⟩
 .rw [W0];rfl
 .rw [e,W0,W0];rfl
 .rw [e,e,W0,W0,W0];rfl
 .rw [St,e,e,e,W0,W0,W0,W0];rfl
theorem Yx (h:i=dN a) (c:Nz a) (s:a.length<=1900) (g:0<=t.n/\t.n<=Mx) (r:AO):(-2000000000000000000<=AY i r 0/\AY i r 0<=2000000000000000000)/\(-2000000000000000000<=AY (da i t) r 0/\AY (da i t) r 0<=2000000000000000000)/\(-2000000000000000000<=AY (dZ (da i t) t) r 0/\AY (dZ (da i t) t) r 0<=2000000000000000000)/\(-2000000000000000000<=AY (gw (dZ (da i t) t) t) r 0/\AY (gw (dZ (da i t) t) t) r 0<=2000000000000000000):=by
 obtain ⟨o,k,j,_⟩:=ZC (p:=t) h;have b:=lv g;rw [j,k,o,h];refine ⟨Em c (by omega) r,Em (c.append λx f=>b x ?_) (by simp;omega) r,Em (c.append λx f=>b x ?_) (by simp;omega) r,Em (c.append λx f=>b x ?_) (by simp;omega) r⟩
 all_goals (grind [St])
set_option maxHeartbeats 1000000 in
theorem Pn (i:AG) (j:oc i):AK prog 30 [.d (Ap i)] [] λr H=>r= .map 2 0/\H=[(2,[BD C4 AF (dN (dq i))])]:=by
 have E:=j.po;have G:=j.pa;refine Av func30 Z Z ntmps30 Z Z Z λF x=>(AC (AE ?_));refine V (CQ 1 Z Z Z Z Z Z Z) (AB Z Z (AD (AC (AE (V (Pd 2 Z Z Z Z) (AB Z Z (AD (AC ?_))))))));refine AC (AE (J (A1 Z Kp Z Z Z) (J (A5 Z Z Z Zy Z) (J (CV Z b0 Z) (cl Z Z (AD (A2 (Bb (α:=Nat×List (AO×Int)) (λq=>⟨80,[(1,(.ptr 1 0 0)),(3,(.map 2 0)),(10,(.d (.sl none (i.po.map Ck)))),(11,(.d (AF (i.po.length:Int)))),(12,(.d (AF (q.1:Int))))],[(2,[BD C4 AF q.2]),(1,[.blk 49 [.d (AF i.id),.d (AF i.pr),.d (AF i.sq),.d (.sl none (i.po.map Ck)),.d (.sl none (i.pa.map I0)),.d (.sl none (i.af.map AF))]])]⟩) (λq=>q.1<=i.po.length/\q.2=dN (Iy (i.po.take q.1))) (λq=>i.po.length - q.1) ((0,[])) (⟨ϱ _,Z⟩) (A0 x [2,1] Z Z ⟨Z,Z,Z,Z,Z,trivial⟩) ?_))))))));rintro ⟨k,M⟩ ⟨z,w⟩;dsimp only at z w⊢;refine AC (AE (J (BW Z Z Z) (AD (AC (Ah Z (λs=>?_) (λs=>?_))))))
 .have c:k<i.po.length:=Bi s;refine AZ (AC (A2 (AC (AE ?_))));have B:=j.d _ (θ c);simp only [Mx] at B;have A:=Em (l:=Iy (i.po.take k)) (lr (VD j.d)) (by simp [Iy];omega) (I6 i.po[k]);rw [<-w] at A;refine J (Bq (k) Z Z (Z) (Aq c) b0 Z O8 Z) (J (IX Z Z ZT Z) (V (CE 3 ME Z Z Z Z) (V (Bk Z Z Z Z Z Z Z O8) (AD (Dr [[],[],[1],[1,2],[0,1,2,3],[],[5],rg 7,[0,1,2,3,5,6],[0,1,2,3,5,6,8],rg 10] mixed Z (Xv 2 ([BD C4 AF (BP M (I6 i.po[k]) 0)]) Z ?_))))));refine At 3 Z Z (AX [5] Z (A1 Z Jn Z Z Z) (BQ [17] Z Z (λ_=>A9 (B1 Z Z md Z Z Z)) (AX [18] Z (FU LY Rf Z Z Z) (ch [16,19] [] Z Z Z (λ_=>A9 (HO (M) (I6 i.po[k]) (0) _ Z Z Z D8 Bv Nu Z Z)) (λ_=>A9 (HO (BP (M) (I6 i.po[k]) (0)) (I6 i.po[k]) (0) _ Z Z Z D8 Bv Nu (Da _ _ _ _) Z)) (AX [5] Z (A1 Z QZ Z Z Z) (BQ [21] Z Z (λ_=>A9 (A5 Z Z Z L3 Z)) (AX [20,22] Z (Aw Z Z (Ξ _ (by omega)) Z) (IU [16,19] [2] [(24,_)] Z Z (λ_=>IV (GS (M) (I6 i.po[k]) (0) Z Z Z D8 Bv Nu Z Z)) (.inr ⟨24,_,Z,Z,Z,Z,Z⟩) Z Z Z Z Z ?_ (hCn:=P8 Z)))))))));refine AX [24] Z (C8 Z Z Z) (Dh 10 Z Z Z (An 11 Z Z (V (GX (M) (I6 i.po[k]) (0) (AY M (I6 i.po[k]) 0+i.po[k].d) Z Z Z Bv Z Z) (AD ⟨Z,?_⟩))));refine Dg (AE (J (Aw Z Z (AQ (k+1) (by omega)) Z) (cl Z Z (AD ?_))));exact ⟨(k+1,_),⟨by show k+1<=_;omega,by show _=dN (Iy (i.po.take (k+1)));rw [Xz c,W0,<-w];rfl⟩,by show i.po.length - (k+1)<i.po.length - k;omega,A0 x [2,1] Z (Z) ⟨Z,Z,Z,Z,Z,trivial⟩⟩
 .refine BL (AC (AC ?_));have C:M=dN (Iy i.po++NY (i.pa.take 0)):=by rw [w,ς (by have h:=s;omega)];simp [NY]
  refine AE (J (A1 Z NN Z Z Z) (J (A5 Z Z Z jK Z) (J (CV Z cL Z) (cl Z Z (AD (A2 (Bb (α:=Nat×List (AO×Int)) (λq=>⟨80,[(3,(.map 2 0)),(28,(.d (.sl none (i.pa.map I0)))),(29,(.d (AF (i.pa.length:Int)))),(30,(.d (AF (q.1:Int))))],[(2,[BD C4 AF q.2])]⟩) (λq=>q.1<=i.pa.length/\q.2=dN (Iy i.po++NY (i.pa.take q.1))) (λq=>i.pa.length - q.1) ((0,M)) (⟨ϱ _,C⟩) (A0 x [2] Z Z ⟨Z,Z,Z,Z,trivial⟩) ?_)))))));rintro ⟨m,N⟩ ⟨y,v⟩;dsimp only at y v⊢;refine AC (AE (J (BW Z Z Z) (AD (AC (Ah Z (λo=>?_) (λo=>?_))))))
  .have b:m<i.pa.length:=Bi o;refine AZ (AC (A2 (AC (AE ?_))));have u:=j.n _ (θ b);have a:=Yx v ((lr j.d).append (qx λq D=>j.n q (fM D))) (by rw [Ω,LQ];simp [Iy];omega) u;simp only [Mx] at u;refine J (Bq (m) Z Z (Z) (Aq b) cL Z VH Z) (J (IX Z Z lY Z) (V (CE 4 lG Z Z Z Z) (V (Bk Z Z Z Z Z Z Z VH) (AD (AC (Dr [[],[],[1],[],[3],[1,2,3,4],rg 6,[],[7],rg 9,[0,1,2,3,4,5,7,8],[0,1,2,3,4,5,7,8,10],rg 12] mixed Z (Xv 2 ([BD C4 AF (BP N (D4 i.pa[m].f i.pa[m].t) 0)]) Z ?_)))))));refine At 3 Z Z (AX [7] Z (A1 Z Jm Z Z Z) (BQ [35] Z Z (λ_=>A9 (A5 Z Z Z H1 Z)) (AX [7] Z (A1 Z Jl Z Z Z) (BQ [37] Z Z (λ_=>A9 (A5 Z Z Z H1 Z)) (AX [36,38] Z (FU LY Rf Z Z Z) (ch [34,39] [] Z Z Z (λ_=>A9 (HO (N) (D4 i.pa[m].f i.pa[m].t) (0) _ Z Z Z D8 Bv Nu Z Z)) (λ_=>A9 (HO (BP (N) (D4 i.pa[m].f i.pa[m].t) (0)) (D4 i.pa[m].f i.pa[m].t) (0) _ Z Z Z D8 Bv Nu (Da _ _ _ _) Z)) (AX [7] Z (A1 Z Jk Z Z Z) (BQ [41] Z Z (λ_=>A9 (A5 Z Z Z L3 Z)) ?_))))))));have g:=(a (D4 i.pa[m].f i.pa[m].t)).1;refine AX [40,42] Z (Pg Z Z (Ξ _ (by omega)) Z) (IU [34,39] [2] [(44,_)] Z Z (λ_=>IV (GS (N) (D4 i.pa[m].f i.pa[m].t) (0) Z Z Z D8 Bv Nu Z Z)) (.inr ⟨44,_,Z,Z,Z,Z,Z⟩) Z Z Z Z Z ?_ (hCn:=P8 Z));refine AX [44] Z (C8 Z Z Z) (Dh 12 Z Z Z (An 13 Z Z (V (GX (N) (D4 i.pa[m].f i.pa[m].t) (0) (AY N (D4 i.pa[m].f i.pa[m].t) 0 - i.pa[m].n) Z Z Z Bv Z Z) (AD ⟨Z,?_⟩))));refine Dg (AC (Dr [[],[],[1],[],[3],[1,2,3,4],rg 6,[],[7],rg 9,[0,1,2,3,4,5,7,8],[0,1,2,3,4,5,7,8,10],rg 12] mixed Z (Xv 2 ([BD C4 AF (BP (da N i.pa[m]) (D4 i.pa[m].t i.pa[m].f) 0)]) Z ?_)));refine At 3 Z Z (AX [7] Z (A1 Z Jl Z Z Z) (BQ [47] Z Z (λ_=>A9 (A5 Z Z Z H1 Z)) (AX [7] Z (A1 Z Jm Z Z Z) (BQ [49] Z Z (λ_=>A9 (A5 Z Z Z H1 Z)) (AX [48,50] Z (FU LY Rf Z Z Z) (ch [46,51] [] Z Z Z (λ_=>A9 (HO (da N i.pa[m]) (D4 i.pa[m].t i.pa[m].f) (0) _ Z Z Z D8 Bv Nu Z Z)) (λ_=>A9 (HO (BP (da N i.pa[m]) (D4 i.pa[m].t i.pa[m].f) (0)) (D4 i.pa[m].t i.pa[m].f) (0) _ Z Z Z D8 Bv Nu (Da _ _ _ _) Z)) (AX [7] Z (A1 Z Jk Z Z Z) (BQ [53] Z Z (λ_=>A9 (A5 Z Z Z L3 Z)) ?_))))))));have g:=(a (D4 i.pa[m].t i.pa[m].f)).2.1;refine AX [52,54] Z (Aw Z Z (Ξ _ (by omega)) Z) (IU [46,51] [2] [(56,_)] Z Z (λ_=>IV (GS (da N i.pa[m]) (D4 i.pa[m].t i.pa[m].f) (0) Z Z Z D8 Bv Nu Z Z)) (.inr ⟨56,_,Z,Z,Z,Z,Z⟩) Z Z Z Z Z ?_ (hCn:=P8 Z));refine AX [56] Z (C8 Z Z Z) (Dh 12 Z Z Z (An 13 Z Z (V (GX (da N i.pa[m]) (D4 i.pa[m].t i.pa[m].f) (0) (AY (da N i.pa[m]) (D4 i.pa[m].t i.pa[m].f) 0+i.pa[m].n) Z Z Z Bv Z Z) (AD ⟨Z,?_⟩))));refine Dg (AC ?_);refine Dr [[],[],[1],[1,2],[0,1,2,3],[],[5],rg 7,[0,1,2,3,5,6],[0,1,2,3,5,6,8],rg 10] mixed Z (Xv 2 ([BD C4 AF (BP (dZ (da N i.pa[m]) i.pa[m]) (Eu i.pa[m].f) 0)]) Z (At 3 Z Z (AX [7] Z (A1 Z Jm Z Z Z) (BQ [59] Z Z (λ_=>A9 (A5 Z Z Z H1 Z)) (AX [60] Z (FU LY Rf Z Z Z) (ch [58,61] [] Z Z Z (λ_=>A9 (HO (dZ (da N i.pa[m]) i.pa[m]) (Eu i.pa[m].f) (0) _ Z Z Z D8 Bv Nu Z Z)) (λ_=>A9 (HO (BP (dZ (da N i.pa[m]) i.pa[m]) (Eu i.pa[m].f) (0)) (Eu i.pa[m].f) (0) _ Z Z Z D8 Bv Nu (Da _ _ _ _) Z)) (AX [7] Z (A1 Z Jk Z Z Z) (BQ [63] Z Z (λ_=>A9 (A5 Z Z Z L3 Z)) ?_))))))));have g:=(a (Eu i.pa[m].f)).2.2.1;refine AX [62,64] Z (Pg Z Z (Ξ _ (by omega)) Z) (IU [58,61] [2] [(66,_)] Z Z (λ_=>IV (GS (dZ (da N i.pa[m]) i.pa[m]) (Eu i.pa[m].f) (0) Z Z Z D8 Bv Nu Z Z)) (.inr ⟨66,_,Z,Z,Z,Z,Z⟩) Z Z Z Z Z ?_ (hCn:=P8 Z));refine AX [66] Z (C8 Z Z Z) (Dh 10 Z Z Z (An 11 Z Z (V (GX (dZ (da N i.pa[m]) i.pa[m]) (Eu i.pa[m].f) (0) (AY (dZ (da N i.pa[m]) i.pa[m]) (Eu i.pa[m].f) 0 - i.pa[m].n) Z Z Z Bv Z Z) (AD ⟨Z,?_⟩))));refine Dg ?_;refine Dr [[],[],[1],[1,2],[0,1,2,3],[],[5],rg 7,[0,1,2,3,5,6],[0,1,2,3,5,6,8],rg 10] mixed Z (Xv 2 ([BD C4 AF (BP (gw (dZ (da N i.pa[m]) i.pa[m]) i.pa[m]) (Eu i.pa[m].t) 0)]) Z (At 3 Z Z (AX [7] Z (A1 Z Jl Z Z Z) (BQ [69] Z Z (λ_=>A9 (A5 Z Z Z H1 Z)) (AX [70] Z (FU LY Rf Z Z Z) (ch [68,71] [] Z Z Z (λ_=>A9 (HO (gw (dZ (da N i.pa[m]) i.pa[m]) i.pa[m]) (Eu i.pa[m].t) (0) _ Z Z Z D8 Bv Nu Z Z)) (λ_=>A9 (HO (BP (gw (dZ (da N i.pa[m]) i.pa[m]) i.pa[m]) (Eu i.pa[m].t) (0)) (Eu i.pa[m].t) (0) _ Z Z Z D8 Bv Nu (Da _ _ _ _) Z)) (AX [7] Z (A1 Z Jk Z Z Z) (BQ [73] Z Z (λ_=>A9 (A5 Z Z Z L3 Z)) ?_))))))));have g:=(a (Eu i.pa[m].t)).2.2.2;refine AX [72,74] Z (Aw Z Z (Ξ _ (by omega)) Z) (IU [68,71] [2] [(76,_)] Z Z (λ_=>IV (GS (gw (dZ (da N i.pa[m]) i.pa[m]) i.pa[m]) (Eu i.pa[m].t) (0) Z Z Z D8 Bv Nu Z Z)) (.inr ⟨76,_,Z,Z,Z,Z,Z⟩) Z Z Z Z Z ?_ (hCn:=P8 Z));refine AX [76] Z (C8 Z Z Z) (Dh 10 Z Z Z (An 11 Z Z (V (GX (gw (dZ (da N i.pa[m]) i.pa[m]) i.pa[m]) (Eu i.pa[m].t) (0) (AY (gw (dZ (da N i.pa[m]) i.pa[m]) i.pa[m]) (Eu i.pa[m].t) 0+i.pa[m].n) Z Z Z Bv Z Z) (AD ⟨Z,?_⟩))));refine Dg (AE (J (Aw Z Z (AQ (m+1) (by omega)) Z) (cl Z Z (AD ?_))));exact ⟨(m+1,_),⟨by show m+1<=_;omega,by show _=dN (Iy i.po++NY (i.pa.take (m+1)));rw [Xy b,<-gn];exact (ZC v).2.2.2⟩,by show i.pa.length - (m+1)<i.pa.length - m;omega,A0 x [2] Z (Z) ⟨Z,Z,Z,Z,trivial⟩⟩
  .refine BL (AC (AE (cl Z Z (AB Z Z (AD (A6 ?_))))));exact ⟨_,[2],_,A4 Z,Z,Z,Z,by rw [v,ς (by have h:=o;omega)]<;>rfl⟩
end Go.Proofs.YtnkkaeblokdifaaGreat
