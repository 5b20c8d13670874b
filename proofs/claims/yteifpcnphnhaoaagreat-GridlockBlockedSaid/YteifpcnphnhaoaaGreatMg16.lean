import Derived.Test.YteifpcnphnhaoaaGreatMg15
import Derived.SizedLaws
namespace Go.Proofs.YteifpcnphnhaoaaGreat
open Go.ChangeShapes Go.WideShapes Go.ChangeAt Go.RowKit Go.Deep
abbrev noB:Nat ->Prop:=fun _=>False
def VG (w:World) (d:D) (cs:List Value):Prop:=cs.length=d.cells.length∧(∀c∈d.cells,c.one=true)∧∀(j:Nat) c u,d.cells[j]? =some c ->cs[j]? =some u ->AQ w noB c u
theorem JR {w:World} {d:D} {u:Value} (hd:d.one=true) (h:AQ w noB d u):VG w d [u]:=by
 rw [VG,D.cells_one hd];refine ⟨Z,by simp [hd],fun j c u' hc hu=>?_⟩
 cases j with
 | zero=>simp at hc hu;subst hc hu;exact h
 | succ j=>simp at hc
theorem VG.argS {w:World} {ρ:Nat ->Nat ->Value} {O:Nat ->Prop} {ds:List D} {cs:Array Value} (hO:O=noB) (h:VG w (.agg ds) (Value.agg cs).cells.toList):AU w O ρ (.d (.agg ds)) (.agg cs):=by
 subst hO;obtain ⟨h1,h2,h3⟩:=h;have:=AQ.agg (w:=w) (O:=noB) (cs:=ds) (vs:=cs.toList) h1 h2 h3;exact .d (by simpa using this)
section
variable {H:Type} {enc:TypeId×Value ->H} {P:Program} {w:World}
def CK {α:Type} (enc:TypeId×Value ->H) (P:Program) (w:World) (t:TypeId) (k:Nat) (emb:α ->D) (Q:α ->Prop):Prop:=
 ∀fuel cs x,DataW.trod enc P w 0 (fun _=>true) true fuel t cs=some x ->(∀p∈x.2,p.block<w.heap.size) ->(∀n∈x.1.weights P t,n≤reachBytes) ->∃a,Q a∧(emb a).cells.length=k∧VG w (emb a) cs
theorem MP {e:TypeId} {l:List (DataW H)} {d:DataW H} (hd:d∈l) {n:Nat} (hn:n∈d.weights P e):n∈DataW.weightsAll P e l:=by
 induction l with
 | nil=>cases hd
 | cons a r ih=>
  simp only [DataW.weightsAll,υ];rcases Φ.1 hd with rfl | hd
  ·exact .inl hn
  ·exact .inr (ih hd)
theorem openInt {t:TypeId} {k:IntKind} (ht:P.underlying t=some (.int k)):CK enc P w t 1 (fun z:Int=> .raw (.int k z)) (fun z=>k.min≤z∧z≤k.max):=fun fuel cs x h _ _=>by
 obtain ⟨z,rfl,_,hw⟩:=DataW.trod_int ht h;simp only [Lit.wf,ωd,ωs] at hw;exact ⟨z,hw,Z,JR Z (.raw Z)⟩
theorem openStr {t:TypeId} (ht:P.underlying t=some .string):CK enc P w t 1 (fun s:ByteArray=> .raw (.string s)) (fun s=>s.size≤140737488351232):=fun fuel cs x h _ hw=>by
 obtain ⟨s,rfl,rfl,hs⟩:=DataW.trod_string ht h;exact ⟨s,by simpa [DataW.weights,reachBytes] using hw,Z,JR Z (.raw Z)⟩
theorem Mn {α:Type} {t e:TypeId} {k b:Nat} {emb:α ->D} {Q:α ->Prop} (ht:P.underlying t=some (.slice e)) (hk:P.cellsOf e=k) (hk0:0<k) (hb:P.bytesOf e=b) (hO:CK enc P w e k emb Q):CK enc P w t 1 (fun l:List α=> .sl none (l.map emb)) (fun l=>(∀a∈l,Q a)∧l.length*b≤140737488351232):=fun fuel cs x h hlt hwt=>by
 rcases open_slice ht h with ⟨rfl,rfl⟩ | ⟨a,len,cap,m,n,Dd,Pl,rfl,_,hl,hm,hmm,rfl,hi⟩
 ·refine ⟨[],⟨by simp,by simp⟩,Z,JR Z (.sl k (fun b hb=>by cases hb) (fun _=>rfl) Z (ϖ _) (Δ _) (by simp) (by simp) (fun b o e=>by cases e))⟩
 ·simp only [if_true] at hmm;subst hmm
  have hall:∀i,i<len ->∃y:α,Q y∧(emb y).cells.length=k∧∃cs':List Value,VG w (emb y) cs'∧∀j,j<k ->w.cell? ((a.add (i*k)).add j)=cs'[j]?:=by
   intro i hil;obtain ⟨cs',hc,ht'⟩:=hi i (by omega)
   obtain ⟨y,hq,hyk,hr⟩:=hO _ _ _ ht' (fun p hp=>hlt p (by
    simp only [υ,χk,Θ]
    exact .inr ⟨i,by omega,hp⟩)) (fun n hn=>hwt n (by
    simp only [DataW.weights,ht,Φ,υ]
    exact .inr (.inl (MP (ν.2 ⟨i,Θ.2 hil,Z⟩) hn))))
   obtain ⟨_,hlen,hat⟩:=World.cells?_some hc;rw [hk] at hat;exact ⟨y,hq,hyk,cs',hr,hat⟩
  obtain ⟨l,hln,hlq⟩:=list_of len hall;refine ⟨l,⟨fun y hy=>?_,?_⟩,Z,JR Z (.sl k (fun b hb=>by cases hb) (fun e=>by cases e) (by rw [ψ];exact hln) hl hm (fun x hx=>?_) (fun hne=>?_) (fun b o e i x hx=>?_))⟩
  ·obtain ⟨i,hi',rfl⟩:=ωt hy;exact (hlq i _ (ω hi')).1
  ·have h1:=hwt ((len+(m - len))*P.bytesOf e) (by simp [DataW.weights,ht]);rw [hb] at h1;have h2:=ψd b (show l.length≤len+(m - len) by omega);have h3:reachBytes=140737488351232:=rfl;omega
  ·obtain ⟨y,hy,rfl⟩:=ν.1 hx;obtain ⟨i,hi',rfl⟩:=ωt hy;exact (hlq i _ (ω hi')).2.1
  ·have h0:0<l.length:=by
    cases l with
    | nil=>exact absurd Z hne
    | cons _ _=>simp
   obtain ⟨_,h1,cs',h2,h3⟩:=hlq 0 _ (ω h0);have h4:=h3 0 hk0;have hlen:cs'.length=k:=by rw [h2.1,h1]
   rw [ω (by omega)] at h4;have:a.spot=none:=by simpa [Addr.add] using World.cell?_spot h4
   exact ⟨a.block,a.off,by cases a;simp_all⟩
  ·rw [η] at hx
   cases hy:l[i]? with
   | none=>rw [hy] at hx;cases hx
   | some y=>
    rw [hy] at hx;injection hx with hx
    subst hx;obtain ⟨hq,h1,cs',h2,h3⟩:=hlq i y hy;injection e with e
    subst e;have hlen:cs'.length=k:=by rw [h2.1,h1]
    have hil:i<len:=by rw [←hln];exact (χ.1 hy).1
    have hin:∀j,j<k ->w.cell? ⟨b,o+i*k+j,none⟩=cs'[j]?:=fun j hj=>by
     have:=h3 j hj
     rwa [Go.WideShapes.add_plain,Go.WideShapes.add_plain] at this
    refine .ptr (fun j=>cs'.getD j undef) ?_ (fun h=>h) h2.2.1 (fun j c hc=>?_) (fun j c hc=>?_)
    ·have hmem:MemPlace.cell b (o+i*k)∈MemPlace.row ⟨b,o,none⟩ (m*P.cellsOf e):=MemPlace.mem_row.2 ⟨i*k,by
      rw [hk];have:(i+1)*k≤m*k:=ψd _ (by omega)
      rw [φj] at this;omega,Z⟩
     exact hlt _ (ψr _ hmem)
    ·have hj:j<k:=by rw [←h1];exact (χ.1 hc).1
     rw [hin j hj,ϱ,ω (by omega)];rfl
    ·have hj:j<k:=by rw [←h1];exact (χ.1 hc).1
     rw [ϱ,ω (by omega)];exact h2.2.2 j c _ hc (ω (by omega))
def Qi {α:Type} (enc:TypeId×Value ->H) (P:Program) (w:World) (off total:Nat) (fs:List Field) (emb:α ->List D) (Q:α ->Prop):Prop:=
 ∀n (cs:List Value),cs.length=total ->(∀(i:Nat) f,fs[i]? =some f ->∃x,DataW.trod enc P w 0 (fun _=>true) true n f.type ((cs.drop f.offset).take (P.cellsOf f.type))=some x∧(∀p∈x.2,p.block<w.heap.size)∧∀n∈x.1.weights P f.type,n≤reachBytes)→
  ∃a,Q a∧off+(emb a).length=total∧(∀c∈emb a,c.one=true)∧∀(j:Nat) c u,(emb a)[j]? =some c ->cs[off+j]? =some u ->AQ w noB c u
theorem In {total:Nat}:Qi enc P w total total [] (fun _:Unit=> []) (fun _=>True):=fun n cs _ _=>⟨(),trivial,Z,by simp,by simp⟩
theorem Bl {α β:Type} {off k total:Nat} {f:Field} {fs:List Field} {emb:α ->D} {embs:β ->List D} {Q:α ->Prop} {Qs:β ->Prop} (ho:f.offset=off) (hk:P.cellsOf f.type=k) (h1:CK enc P w f.type k emb Q) (h2:Qi enc P w (off+k) total fs embs Qs):
  Qi enc P w off total (f::fs) (fun a:α×β=>(emb a.1).cells++embs a.2) (fun a=>Q a.1∧Qs a.2):=fun n cs hcs hf=>by
 obtain ⟨x,hx,hp,hwt⟩:=hf 0 f rfl;obtain ⟨a,q1,q2,q3⟩:=h1 _ _ _ hx hp hwt;obtain ⟨b,r1,r2,r3,r4⟩:=h2 n cs hcs (fun i g hg=>hf (i+1) g (by simpa using hg));rw [ho,hk] at q3;refine ⟨(a,b),⟨q1,r1⟩,by simp only [ς,q2];omega,fun c hc=>?_,fun j c u hc hu=>?_⟩
 ·rcases υ.1 hc with hc | hc
  ·exact q3.2.1 c hc
  ·exact r3 c hc
 ·rcases χm j k with hj | hj
  ·rw [ψa (by rw [q2];exact hj)] at hc;exact q3.2.2 j c u hc (by rw [ψj,θ hj,χe];exact hu)
  ·rw [ωq (by rw [q2];exact hj),q2] at hc;exact r4 (j - k) c u hc (by rw [show off+k+(j - k)=off+j by omega];exact hu)
theorem Im {α:Type} {t:TypeId} {fs:Array Field} {k:Nat} {embs:α ->List D} {Q:α ->Prop} (ht:P.underlying t=some (.struct fs)) (hk:P.cellsOf t=k) (h:Qi enc P w 0 k fs.toList embs Q):CK enc P w t k (fun a=> .agg (embs a)) Q:=fun fuel cs x hx hlt hwt=>by
 obtain ⟨xs,n,_,rfl,hl,hlen,hf⟩:=DataW.trod_struct ht hx
 obtain ⟨a,q1,q2,q3,q4⟩:=h n cs (by rw [hl,hk]) (fun i f hi=>by
  have hi':fs[i]? =some f:=by simpa using hi
  have hlt':i<xs.length:=by rw [hlen];exact (ωu.1 hi').1
  refine ⟨xs[i],by rw [hf i f hi'];exact ω hlt',fun p hp=>hlt p (χk.2 ⟨_,κ hlt',hp⟩),fun n hn=>hwt n ?_⟩;simp only [DataW.weights,ht]
  refine DataW.weights_mem_each (j:=i) (t:=f.type) (d:=xs[i].1) (by rw [η];simp [hi']) (by rw [η,ω hlt'];rfl) n hn)
 rw [ψs] at q2;exact ⟨a,q1,q2,by show cs.length=_;rw [hl,hk];exact q2.symm,q3,fun j c u hc hu=>q4 j c u hc (by rw [ψs];exact hu)⟩
theorem CK.as {α β:Type} {t:TypeId} {k:Nat} {emb:α ->D} {Q:α ->Prop} {emb':β ->D} {Q':β ->Prop} (h:CK enc P w t k emb Q) (f:α ->β) (he:∀a,emb a=emb' (f a)) (hq:∀a,Q a ->Q' (f a)):CK enc P w t k emb' Q':=fun fuel cs x hx hlt hwt=>by
 obtain ⟨a,h1,h2,h3⟩:=h fuel cs x hx hlt hwt;exact ⟨f a,hq a h1,by rw [←he];exact h2,by rw [←he];exact h3⟩
end
theorem Xm {P:Program} {f:FuncId} {args:List AV} (h:AO P f args (.raw (.bool true))) {w:World} {vs:List Value} (hl:vs.length=args.length) (hr:∀(i:Nat) a v,args[i]? =some a ->vs[i]? =some v ->AU w noB (fun _ _=>undef) a v):
  Calls P f vs.toArray w fun e w'=>e= .returned (.bool true)∧Below w.heap.size w w':=by
 have hno:∀ρ b,¬Aw ρ [] b:=fun ρ b ⟨_,_,_,h,_⟩=>by cases h
 let ρ:Nat ->Nat ->Value:=fun _ _=>undef
 let F:Fr:=Fr.mk none (.marks w.heap.size) w noB (Aw ρ []) (C5 ρ []) (fun b hb=>hb.elim) [] (fun _ _ _ h=>D8 h)
 have hO:F.O ρ []=noB:=funext fun b=>propext ⟨fun h=>h.elim id fun h=>(hno ρ b h).elim,fun h=>h.elim⟩
 have hheap:BZ F [] ρ w:=⟨(fun f i o ho=>by cases ho),(fun f i f' i' o o' b ho=>by cases ho),fun b hb=>(hno ρ b hb).elim,Z,Z,Z,ϖ _,fun _ _ _=>rfl,fun f i b hb=>Zcl hb,ϖ _⟩
 refine (h.2 F ρ vs Z Z ⟨Z,Z,Z⟩ hheap hl (fun i a v ha hv=>by rw [hO];exact hr i a v ha hv)).mono fun e w' ⟨v,r,H',ρ',e1,⟨e2,e3⟩,hrep,hh'⟩=>?_;subst e1 e2 e3;refine ⟨?_,hh'.os,hh'.tape,hh'.output,hh'.size0,fun b hlt=>hh'.keep b hlt (hno ρ b)⟩
 cases hrep with
 | d hrep=>
  cases hrep with
  | raw _=>rfl
end Go.Proofs.YteifpcnphnhaoaaGreat
namespace Go.Proofs.YteifpcnphnhaoaaGreat
open Go.ChangeShapes Go.WideShapes Go.ChangeAt Go.RowKit
section
variable {H:Type} {enc:TypeId×Value ->H} {P:Program} {w:World}
theorem CK.asQ {α β:Type} {t:TypeId} {k:Nat} {emb:α ->D} {Q:α ->Prop} {emb':β ->D} {Q':β ->Prop} (h:CK enc P w t k emb Q) (f:α ->β) (he:∀a,Q a ->emb a=emb' (f a)) (hq:∀a,Q a ->Q' (f a)):CK enc P w t k emb' Q':=fun fuel cs x hx hlt hwt=>by
 obtain ⟨a,h1,h2,h3⟩:=h fuel cs x hx hlt hwt;exact ⟨f a,hq a h1,by rw [←he a h1];exact h2,by rw [←he a h1];exact h3⟩
theorem Vj {t:TypeId} (ht:P.underlying t=some (.int .i64)):CK enc P w t 1 (fun n:Int=> .raw (.int .i64 n)) (fun n=> -9223372036854775808≤n∧n≤9223372036854775807):=
 (openInt ht).asQ id (fun _ _=>rfl) (fun _ h=>h)
theorem aR {t:TypeId} (ht:P.underlying t=some .string):CK enc P w t 1 Am (fun l=>l.length≤140737488351232):=
 (openStr ht).asQ (fun s=>s.data.toList) (fun a _=>rfl) (fun a h=>by simpa using h)
end
end Go.Proofs.YteifpcnphnhaoaaGreat
namespace Go.Proofs.YteifpcnphnhaoaaGreat
open Go.RowKit
set_option maxRecDepth 100000
abbrev AF (z:Int):D:= .raw (.int .i64 z)
structure Td where
 o:List UInt8
 k:Int
 a:List UInt8
structure AP where
 k:Int
 acc:Td
 f:List UInt8
 t:List UInt8
structure FO where
 acc:Td
 d:Int
structure OE where
 f:List UInt8
 t:List UInt8
 n:Int
structure AK where
 id:Int
 pr:Int
 sq:Int
 po:List FO
 pa:List OE
 af:List Int
structure Roo where
 r:AP
 n:Int
structure Prb where
 ro:List Roo
 it:List AK
theorem Td.eq_iff {x y:Td}:x=y↔x.o=y.o∧x.k=y.k∧x.a=y.a:=by cases x;cases y;simp
instance:DecidableEq Td:=fun _ _=>decidable_of_iff _ Td.eq_iff.symm
theorem AP.eq_iff {x y:AP}:x=y↔x.k=y.k∧x.acc=y.acc∧x.f=y.f∧x.t=y.t:=by cases x;cases y;simp
instance:DecidableEq AP:=fun _ _=>decidable_of_iff _ AP.eq_iff.symm
abbrev accD (x:Td):D:= .agg [Am x.o,AF x.k,Am x.a]
abbrev CV (x:AP):D:= .agg [AF x.k,Am x.acc.o,AF x.acc.k,Am x.acc.a,Am x.f,Am x.t]
abbrev CF (x:FO):D:= .agg [Am x.acc.o,AF x.acc.k,Am x.acc.a,AF x.d]
abbrev Ff (x:OE):D:= .agg [Am x.f,Am x.t,AF x.n]
abbrev Ao (x:AK):D:= .agg [AF x.id,AF x.pr,AF x.sq,.sl none (x.po.map CF),.sl none (x.pa.map Ff),.sl none (x.af.map AF)]
abbrev CX (x:Roo):D:= .agg [AF x.r.k,Am x.r.acc.o,AF x.r.acc.k,Am x.r.acc.a,Am x.r.f,Am x.r.t,AF x.n]
abbrev Bq (x:Prb):D:= .agg [.sl none (x.ro.map CX),.sl none (x.it.map Ao)]
def R0 (x:AP):List Value:=[.int .i64 x.k,L8 x.acc.o,.int .i64 x.acc.k,L8 x.acc.a,L8 x.f,L8 x.t]
def T5 (x:Td):List Value:=[L8 x.o,.int .i64 x.k,L8 x.a]
abbrev rscT:List TypeDesc:=[.int .i64,.string,.int .i64,.string,.string,.string]
abbrev accT:List TypeDesc:=[.string,.int .i64,.string]
theorem N9 (a b:Int):Na (.int .i64 a) (.int .i64 b)=decide (a=b):=by
 simp only [Na];exact Bool.beq_eq_decide_eq a b
theorem N8 (a b:List UInt8):Na (L8 a) (L8 b)=decide (a=b):=by
 simp only [Na,L8,←beq_toListBytes,P8]
theorem Va (a b:AP):B6 (R0 a) (R0 b)=decide (a=b):=by
 simp only [R0,B6,N9,N8,AP.eq_iff,Td.eq_iff,Bool.and_true,Bool.decide_and,Bool.and_assoc]
theorem Wg (a b:Td):B6 (T5 a) (T5 b)=decide (a=b):=by
 simp only [T5,B6,N9,N8,Td.eq_iff,Bool.and_true,Bool.decide_and]
theorem Zck {d:TypeDesc} {ds:List TypeDesc} {u:Value} {us:List Value} (h:MapKept.IsKey d u) (hr:BE ds us):BE (d::ds) (u::us):=
 ⟨by simp [hr.1],fun i d' u' hd hu=>by
  cases i with
  | zero=>simp at hd hu;subst hd hu;exact h
  | succ i=>exact hr.2 i d' u' (by simpa using hd) (by simpa using hu)⟩
theorem Oy:BE [] []:=⟨Z,by simp⟩
theorem KZ (a:AP):BE rscT (R0 a):=Zck Z (Zck trivial (Zck Z (Zck trivial (Zck trivial (Zck trivial Oy)))))
theorem IZ (a:Td):BE accT (T5 a):=Zck trivial (Zck Z (Zck trivial Oy))
theorem rsc_val (a:AP):(CV a).val? =some (.agg (R0 a).toArray):=rfl
theorem CI:B8 Tryz.prog 64 CV (fun a=> .agg (R0 a).toArray):=B8.flat (ds:=rscT) (by kernel_rfl) (by kernel_rfl) rsc_val KZ Va
theorem P7 {fs:List (Nat×Option (List AL))} {f:Nat} {c1 c2:List AL} (h:BU fs f=some (some c2)):∀g c,BU fs g=some c ->C2 f c1 c2 g c:=fun g c hg e=>by
 subst e;rw [h] at hg;injection hg with hg;exact .inr hg.symm
theorem XU {p q:Prop} [Decidable p] [Decidable q] (h:p↔q):AV.d (.raw (.bool (decide p)))= .d (.raw (.bool (decide q))):=by rw [decide_eq_decide.2 h]
theorem retT {q:Prop} [Decidable q] (h:q):AV.d (.raw (.bool true))= .d (.raw (.bool (decide q))):=by rw [ωc h]
theorem K4 {q:Prop} [Decidable q] (h:¬q):AV.d (.raw (.bool false))= .d (.raw (.bool (decide q))):=by rw [ωp h]
theorem Ac {a b:Int} (h:a=b):AV.d (.raw (.int .i64 a))= .d (.raw (.int .i64 b)):=by rw [h]
theorem AT (n:Nat) (h:n≤9223372036854775807):IntKind.i64.wrap (n:Int)=(n:Int):=ωa _ (by omega)
theorem HI (n lo hi:Int):AO Tryz.prog 167 [.d (AF n),.d (AF lo),.d (AF hi)] (.raw (.bool (decide (lo≤n∧n≤hi)))):=by
 refine Az Tryz.func167 Z Z Tryz.ntmps167 Z Z Z fun F hF=>(AC (AE ?_));refine AB Z Z (AD (AC (AE (goMv Z Z (goMv Z Z (J (EO Z Z Z) (goMv Z Z (Id 10 Z (fun h10=>?_) (fun h10=>?_)))))))))
 ·refine Af Z Z Z ?_;refine goMv Z Z (Af Z Z Z (goMv Z Z (Af Z Z Z (J (ZV Z Z Z) (J (Fb Z Z Z Z) (AB Z Z (AD (A5 ?_))))))));exact ⟨_,[],[],A3 Z,Z,Z,by first | exact XU (by omega) | exact K4 (by omega),rfl⟩
 ·refine A9 Z Z Z Z (A9 Z Z Z Z (A9 Z Z Z Z (J (DZ Z Z Z Z) (AB Z Z (AD (A5 ?_))))));exact ⟨_,[],[],A3 Z,Z,Z,by first | exact XU (by omega) | exact K4 (by omega),rfl⟩
theorem GP (n lo hi:Int):AO Tryz.prog 178 [.d (AF n),.d (AF lo),.d (AF hi)] (.raw (.bool (decide (lo≤n∧n≤hi)))):=by
 refine Az Tryz.func178 Z Z Tryz.ntmps178 Z Z Z fun F hF=>(AC (AE ?_));refine AB Z Z (AD (AC (AE (goMv Z Z (goMv Z Z (J (EO Z Z Z) (goMv Z Z (Id 10 Z (fun h10=>?_) (fun h10=>?_)))))))))
 ·refine Af Z Z Z ?_;refine goMv Z Z (Af Z Z Z (goMv Z Z (Af Z Z Z (J (ZV Z Z Z) (J (Fb Z Z Z Z) (AB Z Z (AD (A5 ?_))))))));exact ⟨_,[],[],A3 Z,Z,Z,by first | exact XU (by omega) | exact K4 (by omega),rfl⟩
 ·refine A9 Z Z Z Z (A9 Z Z Z Z (A9 Z Z Z Z (J (DZ Z Z Z Z) (AB Z Z (AD (A5 ?_))))));exact ⟨_,[],[],A3 Z,Z,Z,by first | exact XU (by omega) | exact K4 (by omega),rfl⟩
theorem nan_p (n:Int):AO Tryz.prog 211 [.d (AF n)] (.raw (.bool false)):=by
 refine Az Tryz.func211 Z Z Tryz.ntmps211 Z Z Z fun F hF=>(AC (AE (AB Z Z ?_)));refine AD (AC (AE (goMv Z Z (goMv Z Z (J (DX Z Z Z) (AB Z Z (AD (A5 ?_))))))));exact ⟨_,[],[],A3 Z,Z,Z,by simp,Z⟩
theorem aq (l:List UInt8):AO Tryz.prog 239 [.d (Am l)] (.raw (.bool false)):=by
 refine Az Tryz.func239 Z Z Tryz.ntmps239 Z Z Z fun F hF=>(AC (AE (AB Z Z ?_)));refine AD (AC (AE (goMv Z Z (goMv Z Z (J (Eu Z Z Z) (AB Z Z (AD (A5 ?_))))))));exact ⟨_,[],[],A3 Z,Z,Z,by simp,Z⟩
def Dk (a b:Int):Int:=if a<b then -1 else if b<a then 1 else 0
def PO (a b:List UInt8):Bool:=Op.bytesLess a b
def E7 (a b:List UInt8):Int:=if PO a b=true then -1 else if PO b a=true then 1 else 0
theorem F4 (a b:List UInt8):Op.bytesLess (⟨a.toArray⟩:ByteArray).toList (⟨b.toArray⟩:ByteArray).toList=PO a b:=by rw [Lib.toList_data,Lib.toList_data];rfl
theorem Q5 (a b:Int):AO Tryz.prog 166 [.d (AF a),.d (AF b)] (AF (Dk a b)):=by
 refine Az Tryz.func166 Z Z Tryz.ntmps166 Z Z Z fun F hF=>(AC (AE ?_));refine AB Z Z (AD (AC (AE (goMv Z Z (J (B4 (nan_p a) Z Z) (AB Z Z (AD (AC ?_))))))));refine AE (goMv Z Z (J (B4 (nan_p b) Z Z) (AB Z Z (AD (AC (AC (AE (goMv Z Z ?_))))))));refine AD (EN Z (Z) (A1 (AC (AC (AE (goMv Z Z (AD (EN Z (Z) ?_))))))));refine A1 (AC (AC (AE (goMv Z Z (goMv Z Z (J (BV Z Z Z) (AD (Ae Z (fun h16=>?_) (fun h16=>?_)))))))))
 ·refine AC (AE (AB Z Z (AD (A5 ?_))));exact ⟨_,[],[],A3 Z,Z,Z,by first | exact Ac (by unfold Dk;rw [θ (by assumption)]) | exact Ac (by unfold Dk;rw [ϑ (by assumption),θ (by omega)]) | exact Ac (by unfold Dk;rw [ϑ (by assumption),ϑ (by omega)]),Z⟩
 ·refine A1 (AC (AC (AE (goMv Z Z (goMv Z Z (J (ML Z Z Z) (AD (Ae Z (fun h19=>?_) (fun h19=>?_)))))))))
  ·refine AC (AE (AB Z Z (AD (A5 ?_))));exact ⟨_,[],[],A3 Z,Z,Z,by first | exact Ac (by unfold Dk;rw [θ (by assumption)]) | exact Ac (by unfold Dk;rw [ϑ (by assumption),θ (by omega)]) | exact Ac (by unfold Dk;rw [ϑ (by assumption),ϑ (by omega)]),Z⟩
  ·refine A1 (AC (AE (AB Z Z (AD (A5 ?_)))));exact ⟨_,[],[],A3 Z,Z,Z,by first | exact Ac (by unfold Dk;rw [θ (by assumption)]) | exact Ac (by unfold Dk;rw [ϑ (by assumption),θ (by omega)]) | exact Ac (by unfold Dk;rw [ϑ (by assumption),ϑ (by omega)]),Z⟩
theorem Q4 (a b:List UInt8):AO Tryz.prog 196 [.d (Am a),.d (Am b)] (AF (E7 a b)):=by
 refine Az Tryz.func196 Z Z Tryz.ntmps196 Z Z Z fun F hF=>(AC (AE ?_));refine AB Z Z (AD (AC (AE (goMv Z Z (J (B4 (aq a) Z Z) (AB Z Z (AD (AC ?_))))))));refine AE (goMv Z Z (J (B4 (aq b) Z Z) (AB Z Z (AD (AC (AC (AE (goMv Z Z ?_))))))));refine AD (EN Z (Z) (A1 (AC (AC (AE (goMv Z Z (AD (EN Z (Z) ?_))))))));refine A1 (AC (AC (AE (goMv Z Z (goMv Z Z (J (st_lssS Z Z Z) (AD (KK Z (fun h16=>?_) (fun h16=>?_)))))))))
 ·rw [F4] at h16;refine AC (AE (AB Z Z (AD (A5 ?_))));exact ⟨_,[],[],A3 Z,Z,Z,by first | exact Ac (by unfold E7;rw [θ h16]) | exact Ac (by unfold E7;rw [ϑ (by rw [h16];decide),θ h19]) | exact Ac (by unfold E7;rw [ϑ (by rw [h16];decide),ϑ (by rw [h19];decide)]),Z⟩
 ·rw [F4] at h16;refine A1 (AC (AC (AE (goMv Z Z (goMv Z Z (J (st_gtrS Z Z Z) (AD (KK Z (fun h19=>?_) (fun h19=>?_)))))))))
  ·rw [F4] at h19;refine AC (AE (AB Z Z (AD (A5 ?_))));exact ⟨_,[],[],A3 Z,Z,Z,by first | exact Ac (by unfold E7;rw [θ h16]) | exact Ac (by unfold E7;rw [ϑ (by rw [h16];decide),θ h19]) | exact Ac (by unfold E7;rw [ϑ (by rw [h16];decide),ϑ (by rw [h19];decide)]),Z⟩
  ·rw [F4] at h19;refine A1 (AC (AE (AB Z Z (AD (A5 ?_)))));exact ⟨_,[],[],A3 Z,Z,Z,by first | exact Ac (by unfold E7;rw [θ h16]) | exact Ac (by unfold E7;rw [ϑ (by rw [h16];decide),θ h19]) | exact Ac (by unfold E7;rw [ϑ (by rw [h16];decide),ϑ (by rw [h19];decide)]),Z⟩
abbrev Mx:Int:=1000000000000000
def Bd:List Int ->Int
 | []=>0
 | e::r=>if e=0 then Bd r else e
theorem YD {α:Type} {l:List α} {f:α ->Int} {k:Nat} (hk:k<l.length):Bd ((l.drop k).map f)=if f l[k]=0 then Bd ((l.drop (k+1)).map f) else f l[k]:=by
 rw [χg hk];rfl
theorem GE {α:Type} {l:List α} {f:α ->Int} {k:Nat} (hk:¬k<l.length):Bd ((l.drop k).map f)=0:=by
 rw [List.drop_of_length_le (by omega)];rfl
theorem Dh {α:Type} {l:List α} {f:α ->Int} {k:Nat} {E:Int} (hk:k<l.length) (h:E=Bd ((l.drop k).map f)):(f l[k]=0 ->E=Bd ((l.drop (k+1)).map f))∧∀e,f l[k]=e ->e≠0 ->e=E:=by
 rw [YD hk] at h;exact ⟨fun h0=>by rw [h,θ h0],fun e h1 h2=>by rw [h,ϑ (by rw [h1];exact h2),h1]⟩
def Rl (p:FO):Int:=if p.acc.o=[]∨p.acc.a=[] then 6 else if ¬(0≤p.acc.k∧p.acc.k≤4) then 11 else if ¬(-Mx≤p.d∧p.d≤Mx) then 12 else 0
def Qu (p:OE):Int:=if p.f=[]∨p.t=[] then 6 else if p.f=p.t then 7 else if ¬(0≤p.n∧p.n≤Mx) then 2 else 0
def Y2 (id:Int) (l:List Int) (k:Nat):Int:=if ¬(0≤l.getD k 0∧l.getD k 0≤1000000000) then 2 else if l.getD k 0=id∨l.getD k 0∈l.take k then 7 else 0
def Ox (i:AK):Int:=Bd (i.po.map Rl)
def XZ (i:AK):Int:=Bd (i.pa.map Qu)
def aftE (i:AK):Int:=Bd ((List.range i.af.length).map (Y2 i.id i.af))
def CJ (l:List FO) (a:List UInt8):Int:=(l.map fun p=>if p.acc.a=a then p.d else 0).sum
def Uw (i:AK):Int:=if ∃p∈i.po,CJ i.po p.acc.a≠0 then 14 else 0
theorem J0 {α:Type} {l:List α} {x:α} {k:Nat} (hk:k<l.length) (h:x∉l.take k) (hne:x≠l[k]):x∉l.take (k+1):=by
 rw [φ hk,υ]
 simp [h,hne]
theorem SG {α:Type} {l:List α} {x:α} {k:Nat} (hk:¬k<l.length) (h:x∉l.take k):x∉l:=by
 rwa [Ξ (by omega)] at h
def bW (x:Int) (l:List Int):Int:=if x∈l then (l.idxOf x:Int) else -1
theorem bc {l:List Int} {x:Int} {k:Nat} (hk:k<l.length) (h:x∉l.take k) (he:x=l[k]):bW x l=(k:Int):=by
 unfold bW;rw [θ (by rw [he];exact κ hk)];have h1:l=l.take k++l[k]::l.drop (k+1):=by rw [←χg hk,φf]
 rw [h1,List.idxOf_append,ϑ h,he,List.idxOf_cons_self]
 simp;omega
theorem WQ (l:List Int) (x:Int) (hn:l.length≤140737488355328):AO Tryz.prog 176 [.d (.sl none (l.map AF)),.d (AF x)] (AF (bW x l)):=by
 refine Az Tryz.func176 Z Z Tryz.ntmps176 Z Z Z fun F hF=>(AC (AE (AB Z Z (AD ?_))));refine AC (AC (AE (goMv Z Z (J (CM Z Tryz.underlying28 Z) (goMv Z Z (AD (A4 (Gm (α:=Nat) (fun k=>⟨19,[(0,.d (.sl none (l.map AF))),(1,.d (AF x)),(7,(.d (AF (l.length:Int)))),(8,(.d (AF (k:Int))))],[]⟩) (fun k=>k≤l.length∧x∉l.take k) (fun k=>l.length - k) (0) (⟨Δ _,by simp⟩) (dJ ⟨Z,Z,Z,Z,trivial⟩) ?_))))))));rintro k ⟨hk0,hk⟩;refine AC (AE (J (BV Z Z Z) (AD (AC (Ae Z (fun h9=>?_) (fun h9=>?_))))))
 ·have hk1:k<l.length:=Bf h9;refine A1 (AC (A4 (AC (AE (goMv Z Z (AB Z Z (AD (AC ?_))))))));refine AE (goMv Z Z (goMv Z Z (goMv Z Z (J (Bk (k) Z Z (Z) (Ah hk1) Tryz.underlying28 Z BA Z) (J (D0 Z Z Aq Z) (J (KL Z Z Z) (AD (Ae Z (fun h16=>?_) (fun h16=>?_)))))))))
  ·refine AC (AE (goMv Z Z (AB Z Z (AD (A5 ?_)))));exact ⟨_,[],[],A3 Z,Z,Z,Ac (bc hk1 hk h16).symm,Z⟩
  ·refine A1 (AE (J (Ay Z Z (AT (k+1) (by omega)) Z) (goMv Z Z (AD ?_))));exact ⟨k+1,⟨by show k+1≤_;omega,J0 hk1 hk h16⟩,by show l.length - (k+1)<l.length - k;omega,⟨Z,Z,fun _ _=>Tm.get (l:=[(0,_),(1,_),(7,_),(8,_)]) ⟨Z,Z,Z,Z,trivial⟩⟩⟩
 ·refine BC (AC (AE (AB Z Z (AD (A5 ?_)))));exact ⟨_,[],[],A3 Z,Z,Z,Ac (by unfold bW;rw [ϑ (SG (by have h:=h9;omega) hk)]),Z⟩
theorem Ng (l:List Int) (x:Int) (hn:l.length≤140737488355328):AO Tryz.prog 179 [.d (.sl none (l.map AF)),.d (AF x)] (.raw (.bool (decide (x∈l)))):=by
 refine Az Tryz.func179 Z Z Tryz.ntmps179 Z Z Z fun F hF=>(AC (AE (AB Z Z (AD ?_))));refine AC (AE (goMv Z Z (goMv Z Z (J (B4 (WQ l x hn) Z Z) (J (EO Z Z Z) (AB Z Z (AD (A5 ?_))))))));exact ⟨_,[],[],A3 Z,Z,Z,XU (by unfold bW;split<;>rename_i h<;>simp [h]<;>omega),Z⟩
theorem UQ (i:AK) (hn:i.po.length≤140737488355328):AO Tryz.prog 168 [.d (Ao i)] (AF (Ox i)):=by
 refine Az Tryz.func168 Z Z Tryz.ntmps168 Z Z Z fun F hF=>(AC (AE (V (CC 1 Z Z Z Z Z Z Z) (AB Z Z (AD (AC ?_))))));refine AC (AE (J (AZ Z Hi Z Z Z) (J (A6 Z Z Z X5 Z) (J (CM Z Tryz.underlying52 Z) (goMv Z Z (AD (A4 (B5 (α:=Nat) (fun k=>⟨35,[(1,(.ptr 1 0 0)),(6,(.d (.sl none (i.po.map CF)))),(7,(.d (AF (i.po.length:Int)))),(8,(.d (AF (k:Int))))],[(1,[.blk 55 [.d (AF i.id),.d (AF i.pr),.d (AF i.sq),.d (.sl none (i.po.map CF)),.d (.sl none (i.pa.map Ff)),.d (.sl none (i.af.map AF))]])]⟩) (fun k=>k≤i.po.length∧Ox i=Bd ((i.po.drop k).map Rl)) (fun k=>i.po.length - k) (0) (⟨Δ _,Z⟩) (A0 hF [1] Z Z ⟨Z,Z,Z,Z,trivial⟩) ?_))))))));rintro k ⟨hk0,hk⟩;refine AC (AE (J (BV Z Z Z) (AD (AC (Ae Z (fun h9=>?_) (fun h9=>?_))))))
 ·have hk1:k<i.po.length:=Bf h9;refine A1 (AC (A4 (AC (AE ?_))));have hE:=Dh hk1 hk;refine J (Bk (k) Z Z (Z) (Ah hk1) Tryz.underlying52 Z Oa Z) (J (GN Z Z Zg Z) (V (CD 2 O6 Z Z Z Z) (V (Be Z Z Z Z Z Z Z Oa) (AD ?_))));refine A4 (AC (AE (J (AZ Z Jr Z Z Z) (J (AZ Z QQ Z Z Z) (J (A6 Z Z Z IG Z) (J (Dz Z Z Z) (goMv Z Z (Id 17 Z (fun h17=>?_) (fun h17=>?_)))))))))
  ·refine A9 Z Z Z Z (A9 Z Z Z Z (A9 Z Z Z Z (A9 Z Z Z Z ?_)));refine J (Fb Z Z Z Z) (AB Z Z (AD (DV Z Z (AC (AE (AB Z Z (AD (A5 ?_))))))));exact ⟨_,[],[],A3 Z,Z,Z,Ac (hE.2 6 (by unfold Rl;rw [θ (.inl h17)]) (by decide)),Z⟩
  ·refine Af Z Z Z (J (AZ Z Jr Z Z Z) (Af Z Z Z ?_));refine J (AZ Z NX Z Z Z) (Af Z Z Z (J (A6 Z Z Z IG Z) (Af Z Z Z (J (Dz Z Z Z) (J (DZ Z Z Z Z) (AB Z Z (AD (Ae Z (fun h12=>?_) (fun h12=>?_)))))))))
   ·refine AC (AE (AB Z Z (AD (A5 ?_))));exact ⟨_,[],[],A3 Z,Z,Z,Ac (hE.2 6 (by unfold Rl;rw [θ (.inr h12)]) (by decide)),Z⟩
   ·refine AC ?_;refine AE (J (AZ Z Jr Z Z Z) (J (AZ Z NY Z Z Z) (J (A6 Z Z Z Aq Z) (J (B4 (HI _ _ _) Z Z) (J (Nx Z Z) (AB Z Z (AD (Ae Z (fun h23=>?_) (fun h23=>?_)))))))))
    ·refine AC (AE (AB Z Z (AD (A5 ?_))));exact ⟨_,[],[],A3 Z,Z,Z,Ac (hE.2 11 (by unfold Rl;rw [ϑ (by simp [h17,h12]),θ h23]) (by decide)),Z⟩
    ·refine AC (AE (J (AZ Z QW Z Z Z) (J (A6 Z Z Z JG Z) (J (B4 (GP _ _ _) Z Z) (J (Nx Z Z) (AB Z Z (AD (Ae Z (fun h29=>?_) (fun h29=>?_)))))))))
     ·refine AC (AE (AB Z Z (AD (A5 ?_))));exact ⟨_,[],[],A3 Z,Z,Z,Ac (hE.2 12 (by unfold Rl;rw [ϑ (by simp [h17,h12]),ϑ h23,θ h29]) (by decide)),Z⟩
     ·refine A1 (AE (J (Ay Z Z (AT (k+1) (by omega)) Z) (goMv Z Z (AD ?_))));exact ⟨k+1,⟨by show k+1≤_;omega,hE.1 (by unfold Rl;rw [ϑ (by simp [h17,h12]),ϑ h23,ϑ h29])⟩,by show i.po.length - (k+1)<i.po.length - k;omega,A0 hF [1] Z (Z) ⟨Z,Z,Z,Z,trivial⟩⟩
 ·refine BC (AC (AE (AB Z Z (AD (A5 ?_)))));exact ⟨_,[],[],A3 Z,Z,Z,Ac (by rw [hk,GE (by have h:=h9;omega)]),Z⟩
theorem UT (i:AK) (hn:i.pa.length≤140737488355328):AO Tryz.prog 169 [.d (Ao i)] (AF (XZ i)):=by
 refine Az Tryz.func169 Z Z Tryz.ntmps169 Z Z Z fun F hF=>(AC (AE (V (CC 1 Z Z Z Z Z Z Z) (AB Z Z (AD (AC ?_))))));refine AC (AE (J (AZ Z JA Z Z Z) (J (A6 Z Z Z aT Z) (J (CM Z Tryz.underlying53 Z) (goMv Z Z (AD (A4 (B5 (α:=Nat) (fun k=>⟨33,[(1,(.ptr 1 0 0)),(6,(.d (.sl none (i.pa.map Ff)))),(7,(.d (AF (i.pa.length:Int)))),(8,(.d (AF (k:Int))))],[(1,[.blk 55 [.d (AF i.id),.d (AF i.pr),.d (AF i.sq),.d (.sl none (i.po.map CF)),.d (.sl none (i.pa.map Ff)),.d (.sl none (i.af.map AF))]])]⟩) (fun k=>k≤i.pa.length∧XZ i=Bd ((i.pa.drop k).map Qu)) (fun k=>i.pa.length - k) (0) (⟨Δ _,Z⟩) (A0 hF [1] Z Z ⟨Z,Z,Z,Z,trivial⟩) ?_))))))));rintro k ⟨hk0,hk⟩;refine AC (AE (J (BV Z Z Z) (AD (AC (Ae Z (fun h9=>?_) (fun h9=>?_))))))
 ·have hk1:k<i.pa.length:=Bf h9;refine A1 (AC (A4 (AC (AE ?_))));have hE:=Dh hk1 hk;refine J (Bk (k) Z Z (Z) (Ah hk1) Tryz.underlying53 Z VX Z) (J (GN Z Z rw161 Z) (V (CD 2 zl161 Z Z Z Z) (V (Be Z Z Z Z Z Z Z VX) ?_)));refine AD (A4 (AC (AE (J (AZ Z Jq Z Z Z) (J (A6 Z Z Z IG Z) (J (Dz Z Z Z) (goMv Z Z (Id 16 Z (fun h16=>?_) (fun h16=>?_)))))))))
  ·refine A9 Z Z Z Z (A9 Z Z Z Z (A9 Z Z Z Z ?_));refine J (Fb Z Z Z Z) (AB Z Z (AD (DV Z Z (AC (AE (AB Z Z (AD (A5 ?_))))))));exact ⟨_,[],[],A3 Z,Z,Z,Ac (hE.2 6 (by unfold Qu;rw [θ (.inl h16)]) (by decide)),Z⟩
  ·refine Af Z Z Z ?_;refine J (AZ Z Jp Z Z Z) (Af Z Z Z (J (A6 Z Z Z IG Z) (Af Z Z Z (J (Dz Z Z Z) (J (DZ Z Z Z Z) (AB Z Z (AD (Ae Z (fun h12=>?_) (fun h12=>?_)))))))))
   ·refine AC (AE (AB Z Z (AD (A5 ?_))));exact ⟨_,[],[],A3 Z,Z,Z,Ac (hE.2 6 (by unfold Qu;rw [θ (.inr h12)]) (by decide)),Z⟩
   ·refine AC ?_;refine AE (J (AZ Z Jq Z Z Z) (J (A6 Z Z Z IG Z) (J (AZ Z Jp Z Z Z) (J (A6 Z Z Z IG Z) (J (Dz Z Z Z) (AB Z Z (AD (Ae Z (fun h21=>?_) (fun h21=>?_)))))))))
    ·refine AC (AE (AB Z Z (AD (A5 ?_))));exact ⟨_,[],[],A3 Z,Z,Z,Ac (hE.2 7 (by unfold Qu;rw [ϑ (by simp [h16,h12]),θ h21]) (by decide)),Z⟩
    ·refine AC (AE (J (AZ Z Jo Z Z Z) (J (A6 Z Z Z JG Z) (J (B4 (GP _ _ _) Z Z) (J (Nx Z Z) (AB Z Z (AD (Ae Z (fun h27=>?_) (fun h27=>?_)))))))))
     ·refine AC (AE (AB Z Z (AD (A5 ?_))));exact ⟨_,[],[],A3 Z,Z,Z,Ac (hE.2 2 (by unfold Qu;rw [ϑ (by simp [h16,h12]),ϑ h21,θ h27]) (by decide)),Z⟩
     ·refine A1 (AE (J (Ay Z Z (AT (k+1) (by omega)) Z) (goMv Z Z (AD ?_))));exact ⟨k+1,⟨by show k+1≤_;omega,hE.1 (by unfold Qu;rw [ϑ (by simp [h16,h12]),ϑ h21,ϑ h27])⟩,by show i.pa.length - (k+1)<i.pa.length - k;omega,A0 hF [1] Z (Z) ⟨Z,Z,Z,Z,trivial⟩⟩
 ·refine BC (AC (AE (AB Z Z (AD (A5 ?_)))));exact ⟨_,[],[],A3 Z,Z,Z,Ac (by rw [hk,GE (by have h:=h9;omega)]),Z⟩
theorem ED {n k:Nat} {f:Nat ->Int} {E:Int} (hk:k<n) (h:E=Bd (((List.range n).drop k).map f)):(f k=0 ->E=Bd (((List.range n).drop (k+1)).map f))∧∀e,f k=e ->e≠0 ->e=E:=by
 have:=Dh (l:=List.range n) (k:=k) (by simpa using hk) h
 simpa using this
theorem after_p (i:AK) (hn:i.af.length≤140737488355328):AO Tryz.prog 170 [.d (Ao i)] (AF (aftE i)):=by
 refine Az Tryz.func170 Z Z Tryz.ntmps170 Z Z Z fun F hF=>(AC (AE (V (CC 1 Z Z Z Z Z Z Z) (AB Z Z (AD (AC ?_))))));refine AC (AE (J (AZ Z FH Z Z Z) (J (A6 Z Z Z BI Z) (J (CM Z Tryz.underlying28 Z) (goMv Z Z (AD (A4 (B5 (α:=Nat) (fun k=>⟨31,[(1,(.ptr 1 0 0)),(6,(.d (.sl none (i.af.map AF)))),(7,(.d (AF (i.af.length:Int)))),(8,(.d (AF (k:Int))))],[(1,[.blk 55 [.d (AF i.id),.d (AF i.pr),.d (AF i.sq),.d (.sl none (i.po.map CF)),.d (.sl none (i.pa.map Ff)),.d (.sl none (i.af.map AF))]])]⟩) (fun k=>k≤i.af.length∧aftE i=Bd (((List.range i.af.length).drop k).map (Y2 i.id i.af))) (fun k=>i.af.length - k) (0) (⟨Δ _,Z⟩) (A0 hF [1] Z Z ⟨Z,Z,Z,Z,trivial⟩) ?_))))))));rintro k ⟨hk0,hk⟩;refine AC (AE (J (BV Z Z Z) (AD (AC (Ae Z (fun h9=>?_) (fun h9=>?_))))))
 ·have hk1:k<i.af.length:=Bf h9;refine A1 (AC (A4 (AC (AE ?_))));have hE:=ED hk1 hk;have hg:i.af.getD k 0=i.af[k]:=by simp [hk1]
  refine goMv Z Z (J (Bk (k) Z Z (Z) (Ah hk1) Tryz.underlying28 Z BA Z) (J (D0 Z Z Aq Z) (AB Z Z (AB Z Z (AD ?_)))));refine A4 (AC (AE (goMv Z Z (J (B4 (HI _ _ _) Z Z) (J (Nx Z Z) (AB Z Z (AD (Ae Z (fun h13=>?_) (fun h13=>?_)))))))))
  ·refine AC (AE (AB Z Z (AD (A5 ?_))));exact ⟨_,[],[],A3 Z,Z,Z,Ac (hE.2 2 (by unfold Y2;rw [hg,θ h13]) (by decide)),Z⟩
  ·refine AC (AE (goMv Z Z (J (AZ Z OC Z Z Z) (J (A6 Z Z Z Aq Z) (J (KL Z Z Z) (goMv Z Z (Id 22 Z (fun h22=>?_) (fun h22=>?_))))))))
   ·refine A9 Z Z Z Z (A9 Z Z Z Z (A9 Z Z Z Z (A9 Z Z Z Z (A9 Z Z Z Z (A9 Z Z Z Z ?_)))));refine J (Fb Z Z Z Z) (AB Z Z (AD (DV Z Z (AC (AE (AB Z Z (AD (A5 ?_))))))));exact ⟨_,[],[],A3 Z,Z,Z,Ac (hE.2 7 (by unfold Y2;rw [hg,ϑ h13,θ (.inl h22)]) (by decide)),Z⟩
   ·refine Af Z Z Z (J (AZ Z FH Z Z Z) (Af Z Z Z (J (A6 Z Z Z BI Z) (Af Z Z Z (goMv Z Z (Af Z Z Z ?_))))));refine J (LJ (i.af) (k) Z Z Z (Z) (by omega) Tryz.underlying28 BA (fun _=>rfl) Z) (Af Z Z Z (goMv Z Z (Af Z Z Z (J (B4 (Ng (i.af.take k) _ (by simp;omega)) Z Z) (J (DZ Z Z Z Z) (AB Z Z (AD (Ae Z (fun h17=>?_) (fun h17=>?_)))))))))
    ·refine AC (AE (AB Z Z (AD (A5 ?_))));exact ⟨_,[],[],A3 Z,Z,Z,Ac (hE.2 7 (by unfold Y2;rw [hg,ϑ h13,θ (.inr h17)]) (by decide)),Z⟩
    ·refine A1 (AE (J (Ay Z Z (AT (k+1) (by omega)) Z) (goMv Z Z (AD ?_))));exact ⟨k+1,⟨by show k+1≤_;omega,hE.1 (by unfold Y2;rw [hg,ϑ h13,ϑ (by simp [h22];exact h17)])⟩,by show i.af.length - (k+1)<i.af.length - k;omega,A0 hF [1] Z (Z) ⟨Z,Z,Z,Z,trivial⟩⟩
 ·refine BC (AC (AE (AB Z Z (AD (A5 ?_)))));exact ⟨_,[],[],A3 Z,Z,Z,Ac (by rw [hk,GE (by simp;have h:=h9;omega)]),Z⟩
theorem OZ (l:List FO) (p:FO) (a:List UInt8):CJ (l++ [p]) a=CJ l a+if p.acc.a=a then p.d else 0:=by simp [CJ]
theorem Nm (l:List FO) (a:List UInt8) (h:∀p∈l,-Mx≤p.d∧p.d≤Mx): -(l.length*1000000000000000)≤CJ l a∧CJ l a≤l.length*1000000000000000:=by
 induction l with
 | nil=>simp [CJ]
 | cons p r ih=>
  have h1:=ih fun q hq=>h q (by simp [hq]);have h2:=h p (by simp);have e:CJ (p::r) a=(if p.acc.a=a then p.d else 0)+CJ r a:=by simp [CJ]
  rw [e];simp only [Mx] at h2;have e2:((p::r).length:Int)=r.length+1:=by simp
  rw [e2]
  split<;>omega
def VH (l:List FO) (M:List (List UInt8×Int)):Prop:=(M.map Prod.fst).Nodup∧(∀a,A2 M a 0=CJ l a)∧(∀a,a∈M.map Prod.fst ->∃p∈l,p.acc.a=a)∧∀p∈l,p.acc.a∈M.map Prod.fst
theorem mem_put {α β:Type} [DecidableEq α] {M:List (α×β)} {a a':α} {b:β}:a'∈(Au M a b).map Prod.fst↔a'=a∨a'∈M.map Prod.fst:=by
 rw [Kg]
 split
 ·rename_i h
  exact ⟨.inr,fun h'=>h'.elim (fun e=>by rw [e];exact h) id⟩
 ·simp [or_comm]
theorem VH.snoc {l:List FO} {M:List (List UInt8×Int)} (h:VH l M) (p:FO):VH (l++ [p]) (Au M p.acc.a (A2 M p.acc.a 0+p.d)):=by
 obtain ⟨h1,h2,h3,h4⟩:=h;refine ⟨Mz h1,fun a=>?_,fun a ha=>?_,fun q hq=>?_⟩
 ·rw [H7,OZ]
  split
  ·rename_i e;rw [e,h2,θ rfl]
  ·rename_i e;rw [h2,ϑ (fun e'=>e e'.symm)];omega
 ·rcases mem_put.1 ha with e | e
  ·exact ⟨p,by simp,e.symm⟩
  ·obtain ⟨q,hq,e2⟩:=h3 a e;exact ⟨q,by simp [hq],e2⟩
 ·rcases υ.1 hq with hq | hq
  ·exact mem_put.2 (.inr (h4 q hq))
  ·simp at hq;subst hq;exact mem_put.2 (.inl Z)
theorem bal_bad {i:AK} {M:List (List UInt8×Int)} (h:VH i.po M) {j:Nat} {a:List UInt8} {v:Int} (hm:M[j]? =some (a,v)) (hv:v≠0):(14:Int)=Uw i:=by
 have hmem:=ζ hm;have h1:=Zcb (z:=0) h.1 hmem;rw [h.2.1] at h1;obtain ⟨p,hp,e⟩:=h.2.2.1 a (χv (f:=Prod.fst) hmem);unfold Uw;rw [θ ⟨p,hp,by rw [e,h1];exact hv⟩]
theorem bal_ok {i:AK} {M:List (List UInt8×Int)} (h:VH i.po M) (h0:∀x∈M,x.2=0):(0:Int)=Uw i:=by
 unfold Uw;rw [ϑ];rintro ⟨p,hp,hne⟩;refine hne ?_;rw [←h.2.1];exact h0 _ (H8 (z:=0) (h.2.2.2 p hp))
theorem VS {l:List FO} {k:Nat} (h:∀p∈l,-Mx≤p.d∧p.d≤Mx):∀p∈l.take k,-Mx≤p.d∧p.d≤Mx:=fun p hp=>h p (ψe hp)
theorem Uv (i:AK) (hn:i.po.length≤256) (hb:∀p∈i.po,-Mx≤p.d∧p.d≤Mx):AO Tryz.prog 171 [.d (Ao i)] (AF (Uw i)):=by
 refine Az Tryz.func171 Z Z Tryz.ntmps171 Z Z Z fun F hF=>(AC (AE ?_));refine V (CC 1 Z Z Z Z Z Z Z) (AB Z Z (AD (AC (AE (V (Pb 2 Z Z Z Z) (AB Z Z (AD (AC ?_))))))));refine AC (AE (J (AZ Z Hi Z Z Z) (J (A6 Z Z Z X5 Z) (J (CM Z Tryz.underlying52 Z) (goMv Z Z (AD (A4 (B5 (α:=Nat×List (List UInt8×Int)) (fun q=>⟨33,[(3,(.map 2 0)),(10,(.d (.sl none (i.po.map CF)))),(11,(.d (AF (i.po.length:Int)))),(12,(.d (AF (q.1:Int))))],[(2,[BH Am AF q.2])]⟩) (fun q=>q.1≤i.po.length∧VH (i.po.take q.1) q.2) (fun q=>i.po.length - q.1) ((0,[])) (⟨Δ _,⟨by simp,by simp [CJ,A2],by simp,by simp⟩⟩) (A0 hF [2] Z Z ⟨Z,Z,Z,Z,trivial⟩) ?_))))))));rintro ⟨k,M⟩ ⟨hk0,hM⟩;dsimp only at hk0 hM⊢;refine AC (AE (J (BV Z Z Z) (AD (AC (Ae Z (fun h13=>?_) (fun h13=>?_))))))
 ·have hk1:k<i.po.length:=Bf h13;refine A1 (AC (A4 (AC (AE ?_))));have hbk:=hb _ (κ hk1);have hgb:=Nm (i.po.take k) i.po[k].acc.a (VS hb);rw [←hM.2.1,Υ] at hgb;simp only [Mx] at hbk;refine J (Bk (k) Z Z (Z) (Ah hk1) Tryz.underlying52 Z Oa Z) (J (GN Z Z Zg Z) ?_);refine V (CD 3 O6 Z Z Z Z) (V (Be Z Z Z Z Z Z Z Oa) (AD (AE (goMv Z Z (J (AZ Z Jr Z Z Z) (J (AZ Z NX Z Z Z) (J (A6 Z Z Z IG Z) (J (HF (M) (i.po[k].acc.a) (0) _ Z Z Z au kt9 Nz Z Z) ?_))))))));refine J (AZ Z QW Z Z Z) (J (A6 Z Z Z JG Z) (J (Ay Z Z (ωa _ (by omega)) Z) (V (Tk (M) (i.po[k].acc.a) (A2 M i.po[k].acc.a 0+i.po[k].d) Z Z Z au kt9 Z Z) (AD (AE (J (Ay Z Z (AT (k+1) (by omega)) Z) (goMv Z Z (AD ?_))))))));exact ⟨(k+1,_),⟨by show k+1≤_;omega,by have:=hM.snoc i.po[k];rwa [←φ hk1] at this⟩,by show i.po.length - (k+1)<i.po.length - k;omega,A0 hF [2] Z (Z) ⟨Z,Z,Z,Z,trivial⟩⟩
 ·refine BC (AC (AC ?_));have hM':VH i.po M:=by rw [Ξ (by have h:=h13;omega)] at hM;exact hM
  refine AE (goMv Z Z (V (Fs 4 Z Z Z au Z Z Z Z) (AD (A4 (B5 (α:=List Nat) (fun seen=>⟨33,[(26,(.ptr 4 0 0))],[(4,[.iter 2 0 M.length seen]),(2,[BH Am AF M])]⟩) (fun seen=>∀x∈M,x∈Bo M (List.range M.length) seen∨x.2=0) (fun seen=>(Bo M (List.range M.length) seen).length) ([]) (fun x hx=> .inl (by rw [Cy (by simp)];exact hx)) (A0 hF [4,2] Z Z ⟨Z,trivial⟩) ?_)))));intro seen hI;refine AC (AE (Kc (M) Z Z Z Z (fun hl27=>?_) (fun j27 b27 k27 v27 hm27 hb27 hB27 hp27=>⟨_,Z,?_⟩)))
  ·refine J (Cc Z Z Z) ?_;refine AD (AC (EN Z Z (BC (AC (AE (AB Z Z (AD (A5 ?_))))))));exact ⟨_,[],[],A3 Z,Z,Z,Ac (bal_ok hM' fun x hx=>(hI x hx).elim (fun h=>by rw [hl27] at h;cases h) id),Z⟩
  ·refine J (Cc Z Z Z) (AD (AC (DV Z Z (A1 (A4 (AC (AE (J (Ft (M) j27 b27 Z Z Z hm27 hb27 Z) ?_))))))));refine J (Cc Z Z Z) (AB Z Z (AD (AC (AE (goMv Z Z (J (DX Z Z Z) (AD (Ae Z (fun h32=>?_) (fun h32=>?_)))))))))
   ·refine AC (AE (AB Z Z (AD (A5 ?_))));exact ⟨_,[],[],A3 Z,Z,Z,Ac (bal_bad hM' hm27 h32),Z⟩
   ·refine A1 ?_;exact ⟨seen++ [b27],fun x hx=>(hI x hx).elim (fun h=>(Φ.1 (hp27.mem_iff.1 h)).elim (fun e=> .inr (by rw [e];simpa using h32)) .inl) .inr,by rw [hp27.length_eq];exact χl _,A0 hF [4,2] Z (Z) ⟨Z,trivial⟩⟩
abbrev acc0:Td:=⟨[],0,[]⟩
abbrev I9 (p:FO):AP:=⟨0,p.acc,[],[]⟩
abbrev D7 (f t:List UInt8):AP:=⟨1,acc0,f,t⟩
abbrev FA (f:List UInt8):AP:=⟨2,acc0,f,[]⟩
def cz (M:List (AP×Int)) (x:AP×Int):List (AP×Int):=Au M x.1 (A2 M x.1 0+x.2)
def Jz (l:List FO):List (AP×Int):=l.map fun p=>(I9 p,p.d)
def TC (p:OE):List (AP×Int):=[(D7 p.f p.t,-p.n),(D7 p.t p.f,p.n),(FA p.f,-p.n),(FA p.t,p.n)]
def Nf (l:List OE):List (AP×Int):=l.flatMap TC
def ctr (i:AK):List (AP×Int):=Jz i.po++Nf i.pa
def sumL (l:List (AP×Int)):List (AP×Int):=l.foldl cz []
def Ai (l:List (AP×Int)) (r:AP):Int:=(l.map fun x=>if x.1=r then x.2 else 0).sum
theorem VC (l:List (AP×Int)) (x:AP×Int):sumL (l++ [x])=cz (sumL l) x:=by simp [sumL]
theorem OW (l m:List (AP×Int)) (r:AP):Ai (l++m) r=Ai l r+Ai m r:=by simp [Ai]
theorem Uo (x:AP×Int) (r:AP):Ai [x] r=if x.1=r then x.2 else 0:=by simp [Ai]
theorem Y9 {α:Type} {p:List α ->Prop} (h0:p []) (h1:∀l x,p l ->p (l++ [x])) (l:List α):p l:=by
 have:∀m:List α,p m.reverse:=fun m=>by
  induction m with
  | nil=>exact h0
  | cons x r ih=>rw [List.reverse_cons];exact h1 _ _ ih
 have:=this l.reverse
 rwa [List.reverse_reverse] at this
theorem JM (l:List (AP×Int)) (r:AP):A2 (sumL l) r 0=Ai l r:=by
 revert r
 refine Y9 (p:=fun l=>∀r,A2 (sumL l) r 0=Ai l r) (fun r=>rfl) (fun l x ih r=>?_) l;rw [VC,cz,H7,OW,Uo]
 split
 ·rename_i h;rw [ih,h,θ rfl]
 ·rename_i h;rw [ih,ϑ (fun e=>h e.symm)];omega
theorem Es (l:List (AP×Int)):((sumL l).map Prod.fst).Nodup:=
 Y9 (p:=fun l=>((sumL l).map Prod.fst).Nodup) (by simp [sumL]) (fun l x ih=>by rw [VC];exact Mz ih) l
theorem Hy (l:List (AP×Int)) (r:AP):r∈(sumL l).map Prod.fst↔r∈l.map Prod.fst:=by
 refine Y9 (p:=fun l=>r∈(sumL l).map Prod.fst↔r∈l.map Prod.fst) (by simp [sumL]) (fun l x ih=>?_) l;rw [VC,cz,mem_put,ih]
 simp [or_comm]
def Qo (l:List (AP×Int)):Prop:=∀x∈l,-1000000000000000≤x.2∧x.2≤1000000000000000
theorem Gj {l:List (AP×Int)} (h:Qo l) (r:AP): -(l.length*1000000000000000)≤Ai l r∧Ai l r≤l.length*1000000000000000:=by
 induction l with
 | nil=>simp [Ai]
 | cons x l ih=>
  have h1:=ih fun q hq=>h q (by simp [hq]);have h2:=h x (by simp);have e:Ai (x::l) r=(if x.1=r then x.2 else 0)+Ai l r:=by simp [Ai]
  have e2:((x::l).length:Int)=l.length+1:=by simp
  rw [e,e2]
  split<;>omega
structure ItmB (i:AK):Prop where
 po:i.po.length≤256
 pa:i.pa.length≤256
 af:i.af.length≤256
 d:∀p∈i.po,-Mx≤p.d∧p.d≤Mx
 n:∀p∈i.pa,0≤p.n∧p.n≤Mx
theorem LX (l:List OE):(Nf l).length=4*l.length:=by
 induction l with
 | nil=>rfl
 | cons p r ih=>simp only [Nf,List.flatMap_cons,ς,ψl] at ih⊢;rw [ih];simp [TC];omega
theorem bnd_P {l:List FO} (h:∀p∈l,-Mx≤p.d∧p.d≤Mx):Qo (Jz l):=fun x hx=>by
 obtain ⟨p,hp,rfl⟩:=ν.1 hx;have:=h p hp;simp only [Mx] at this;exact this
theorem bnd_1 {p:OE} (h:0≤p.n∧p.n≤Mx):Qo (TC p):=fun x hx=>by
 simp only [Mx] at h;simp only [TC,Φ,List.not_mem_nil,or_false] at hx;rcases hx with rfl | rfl | rfl | rfl<;>simp only<;>omega
theorem bnd_Y {l:List OE} (h:∀p∈l,0≤p.n∧p.n≤Mx):Qo (Nf l):=fun x hx=>by
 obtain ⟨p,hp,hx⟩:=χk.1 hx;exact bnd_1 (h p hp) x hx
theorem Qo.append {l m:List (AP×Int)} (h:Qo l) (h':Qo m):Qo (l++m):=fun x hx=>(υ.1 hx).elim (h x) (h' x)
theorem Qo.take {l:List (AP×Int)} (h:Qo l) (k:Nat):Qo (l.take k):=fun x hx=>h x (ψe hx)
theorem Er {l:List (AP×Int)} (h:Qo l) (hl:l.length≤2000) (r:AP): -2000000000000000000≤A2 (sumL l) r 0∧A2 (sumL l) r 0≤2000000000000000000:=by
 have:=Gj h r;rw [JM];omega
theorem YJ {l:List FO} {k:Nat} (hk:k<l.length):Jz (l.take (k+1))=Jz (l.take k)++ [(I9 l[k],l[k].d)]:=by
 simp only [Jz];rw [φ hk,ωe];rfl
theorem YI {l:List OE} {k:Nat} (hk:k<l.length):Nf (l.take (k+1))=Nf (l.take k)++TC l[k]:=by
 simp only [Nf];rw [φ hk,List.flatMap_append];simp
def st1 (M:List (AP×Int)) (p:OE):List (AP×Int):=Au M (D7 p.f p.t) (A2 M (D7 p.f p.t) 0 - p.n)
def st2 (M:List (AP×Int)) (p:OE):List (AP×Int):=Au M (D7 p.t p.f) (A2 M (D7 p.t p.f) 0+p.n)
def st3 (M:List (AP×Int)) (p:OE):List (AP×Int):=Au M (FA p.f) (A2 M (FA p.f) 0 - p.n)
def st4 (M:List (AP×Int)) (p:OE):List (AP×Int):=Au M (FA p.t) (A2 M (FA p.t) 0+p.n)
theorem ZW {l:List (AP×Int)} {p:OE} {M:List (AP×Int)} (h:M=sumL l):st1 M p=sumL (l++ [(D7 p.f p.t,-p.n)])∧st2 (st1 M p) p=sumL (l++ [(D7 p.f p.t,-p.n),(D7 p.t p.f,p.n)])∧st3 (st2 (st1 M p) p) p=sumL (l++ [(D7 p.f p.t,-p.n),(D7 p.t p.f,p.n),(FA p.f,-p.n)])∧st4 (st3 (st2 (st1 M p) p) p) p=sumL (l++TC p):=by
 subst h;have e:∀(l:List (AP×Int)) (x:AP×Int) (r:List (AP×Int)),l++x::r=(l++ [x])++r:=by simp
 refine ⟨?_,?_,?_,?_⟩
 ·rw [VC];rfl
 ·rw [e,VC,VC];rfl
 ·rw [e,e,VC,VC,VC];rfl
 ·rw [TC,e,e,e,VC,VC,VC,VC];rfl
theorem ZR {l:List (AP×Int)} {p:OE} {M:List (AP×Int)} (h:M=sumL l) (hb:Qo l) (hl:l.length≤1900) (hp:0≤p.n∧p.n≤Mx) (r:AP):(-2000000000000000000≤A2 M r 0∧A2 M r 0≤2000000000000000000)∧(-2000000000000000000≤A2 (st1 M p) r 0∧A2 (st1 M p) r 0≤2000000000000000000)∧(-2000000000000000000≤A2 (st2 (st1 M p) p) r 0∧A2 (st2 (st1 M p) p) r 0≤2000000000000000000)∧(-2000000000000000000≤A2 (st3 (st2 (st1 M p) p) p) r 0∧A2 (st3 (st2 (st1 M p) p) p) r 0≤2000000000000000000):=by
 obtain ⟨e1,e2,e3,_⟩:=ZW (p:=p) h;have hb4:=bnd_1 hp;rw [e3,e2,e1,h];refine ⟨Er hb (by omega) r,Er (hb.append fun x hx=>hb4 x ?_) (by simp;omega) r,Er (hb.append fun x hx=>hb4 x ?_) (by simp;omega) r,Er (hb.append fun x hx=>hb4 x ?_) (by simp;omega) r⟩
 all_goals
  simp only [TC,Φ,List.not_mem_nil,or_false] at hx⊢
  first
   | exact .inl hx
   | exact hx.elim .inl fun h=> .inr (.inl h)
   | exact hx.elim .inl fun h=>h.elim (fun h=> .inr (.inl h)) fun h=> .inr (.inr (.inl h))
set_option maxHeartbeats 1000000 in
theorem Ph (i:AK) (hi:ItmB i):AM Tryz.prog 125 [.d (Ao i)] [] fun r H'=>r= .map 2 0∧H'=[(2,[BH CV AF (sumL (ctr i))])]:=by
 have hpo:=hi.po;have hpa:=hi.pa;refine Az Tryz.func125 Z Z Tryz.ntmps125 Z Z Z fun F hF=>(AC (AE ?_));refine V (CC 1 Z Z Z Z Z Z Z) (AB Z Z (AD (AC (AE (V (Pb 2 Z Z Z Z) (AB Z Z (AD (AC ?_))))))));refine AC (AE (J (AZ Z Hi Z Z Z) (J (A6 Z Z Z X5 Z) (J (CM Z Tryz.underlying52 Z) (goMv Z Z (AD (A4 (B5 (α:=Nat×List (AP×Int)) (fun q=>⟨80,[(1,(.ptr 1 0 0)),(3,(.map 2 0)),(10,(.d (.sl none (i.po.map CF)))),(11,(.d (AF (i.po.length:Int)))),(12,(.d (AF (q.1:Int))))],[(2,[BH CV AF q.2]),(1,[.blk 55 [.d (AF i.id),.d (AF i.pr),.d (AF i.sq),.d (.sl none (i.po.map CF)),.d (.sl none (i.pa.map Ff)),.d (.sl none (i.af.map AF))]])]⟩) (fun q=>q.1≤i.po.length∧q.2=sumL (Jz (i.po.take q.1))) (fun q=>i.po.length - q.1) ((0,[])) (⟨Δ _,Z⟩) (A0 hF [2,1] Z Z ⟨Z,Z,Z,Z,Z,trivial⟩) ?_))))))));rintro ⟨k,M⟩ ⟨hk0,hM⟩;dsimp only at hk0 hM⊢;refine AC (AE (J (BV Z Z Z) (AD (AC (Ae Z (fun h13=>?_) (fun h13=>?_))))))
 ·have hk1:k<i.po.length:=Bf h13;refine A1 (AC (A4 (AC (AE ?_))));have hbk:=hi.d _ (κ hk1);simp only [Mx] at hbk;have hgb:=Er (l:=Jz (i.po.take k)) (bnd_P (VS hi.d)) (by simp [Jz];omega) (I9 i.po[k]);rw [←hM] at hgb;refine J (Bk (k) Z Z (Z) (Ah hk1) Tryz.underlying52 Z Oa Z) (J (GN Z Z Zg Z) (V (CD 3 O6 Z Z Z Z) (V (Be Z Z Z Z Z Z Z Oa) (AD (Cb [[],[],[1],[1,2],[0,1,2,3],[],[5],[0,1,2,3,4,5,6],[0,1,2,3,5,6],[0,1,2,3,5,6,8],[0,1,2,3,4,5,6,7,8,9]] mixed Z (YE 2 ([BH CV AF (BT M (I9 i.po[k]) 0)]) Z ?_))))));refine AJ [3] [] Z Z (fun _=>AG (Aj Z Z)) (AJ [5] [] Z Z (fun _=>AG (AZ Z Jr Z Z Z)) (At [17] Z Z (fun _=>AG (BM Z Z rw62 Z Z Z)) (AJ [18] [] Z Z (fun _=>AG (FV KN Rg Z Z Z)) (IV [16,19] [] Z Z Z (fun _=>AG (HF (M) (I9 i.po[k]) (0) _ Z Z Z Bs CI Nz Z Z)) (fun _=>AG (HF (BT (M) (I9 i.po[k]) (0)) (I9 i.po[k]) (0) _ Z Z Z Bs CI Nz (Dc _ _ _ _) Z)) (AJ [5] [] Z Z (fun _=>AG (AZ Z QW Z Z Z)) (At [21] Z Z (fun _=>AG (A6 Z Z Z JG Z)) (AJ [20,22] [] Z Z (fun _=>AG (Ay Z Z (ωa _ (by omega)) Z)) (Gn [16,19] [2] [(24,_)] Z Z (fun _=>Gp (GQ (M) (I9 i.po[k]) (0) Z Z Z Bs CI Nz Z Z)) (.inr ⟨24,_,Z,Z,Z,Z,Z⟩) Z Z Z Z Z ?_ (hCn:=P7 Z)))))))));refine AJ [24] [] Z Z (fun _=>AG (Cc Z Z Z)) (C3 10 Z Z Z (Aa 11 Z Z (V (GS (M) (I9 i.po[k]) (0) (A2 M (I9 i.po[k]) 0+i.po[k].d) Z Z Z CI Z Z) (AD ⟨Z,?_⟩))));refine C9 (AE (J (Ay Z Z (AT (k+1) (by omega)) Z) (goMv Z Z (AD ?_))));exact ⟨(k+1,_),⟨by show k+1≤_;omega,by show _=sumL (Jz (i.po.take (k+1)));rw [YJ hk1,VC,←hM];rfl⟩,by show i.po.length - (k+1)<i.po.length - k;omega,A0 hF [2,1] Z (Z) ⟨Z,Z,Z,Z,Z,trivial⟩⟩
 ·refine BC (AC (AC ?_));have hM0:M=sumL (Jz i.po++Nf (i.pa.take 0)):=by rw [hM,Ξ (by have h:=h13;omega)];simp [Nf]
  refine AE (J (AZ Z JA Z Z Z) (J (A6 Z Z Z aT Z) (J (CM Z Tryz.underlying53 Z) (goMv Z Z (AD (A4 (B5 (α:=Nat×List (AP×Int)) (fun q=>⟨80,[(3,(.map 2 0)),(28,(.d (.sl none (i.pa.map Ff)))),(29,(.d (AF (i.pa.length:Int)))),(30,(.d (AF (q.1:Int))))],[(2,[BH CV AF q.2])]⟩) (fun q=>q.1≤i.pa.length∧q.2=sumL (Jz i.po++Nf (i.pa.take q.1))) (fun q=>i.pa.length - q.1) ((0,M)) (⟨Δ _,hM0⟩) (A0 hF [2] Z Z ⟨Z,Z,Z,Z,trivial⟩) ?_)))))));rintro ⟨m,N⟩ ⟨hm0,hN⟩;dsimp only at hm0 hN⊢;refine AC (AE (J (BV Z Z Z) (AD (AC (Ae Z (fun h31=>?_) (fun h31=>?_))))))
  ·have hm1:m<i.pa.length:=Bf h31;refine A1 (AC (A4 (AC (AE ?_))));have hbm:=hi.n _ (κ hm1);have hsm:=ZR hN ((bnd_P hi.d).append (bnd_Y fun q hq=>hi.n q (ψe hq))) (by rw [ς,LX];simp [Jz];omega) hbm;simp only [Mx] at hbm;refine J (Bk (m) Z Z (Z) (Ah hm1) Tryz.underlying53 Z VX Z) (J (GN Z Z rw161 Z) (V (CD 4 zl161 Z Z Z Z) (V (Be Z Z Z Z Z Z Z VX) (AD (AC (Cb [[],[],[1],[],[3],[1,2,3,4],[0,1,2,3,4,5],[],[7],[0,1,2,3,4,5,6,7,8],[0,1,2,3,4,5,7,8],[0,1,2,3,4,5,7,8,10],[0,1,2,3,4,5,6,7,8,9,10,11]] mixed Z (YE 2 ([BH CV AF (BT N (D7 i.pa[m].f i.pa[m].t) 0)]) Z ?_)))))));refine AJ [3] [] Z Z (fun _=>AG (Aj Z Z)) (AJ [7] [] Z Z (fun _=>AG (AZ Z Jq Z Z Z)) (At [35] Z Z (fun _=>AG (A6 Z Z Z IG Z)) (AJ [7] [] Z Z (fun _=>AG (AZ Z Jp Z Z Z)) (At [37] Z Z (fun _=>AG (A6 Z Z Z IG Z)) (AJ [36,38] [] Z Z (fun _=>AG (FV KN Rg Z Z Z)) (IV [34,39] [] Z Z Z (fun _=>AG (HF (N) (D7 i.pa[m].f i.pa[m].t) (0) _ Z Z Z Bs CI Nz Z Z)) (fun _=>AG (HF (BT (N) (D7 i.pa[m].f i.pa[m].t) (0)) (D7 i.pa[m].f i.pa[m].t) (0) _ Z Z Z Bs CI Nz (Dc _ _ _ _) Z)) (AJ [7] [] Z Z (fun _=>AG (AZ Z Jo Z Z Z)) (At [41] Z Z (fun _=>AG (A6 Z Z Z JG Z)) ?_))))))));have g:=(hsm (D7 i.pa[m].f i.pa[m].t)).1;refine AJ [40,42] [] Z Z (fun _=>AG (LF Z Z (ωa _ (by omega)) Z)) (Gn [34,39] [2] [(44,_)] Z Z (fun _=>Gp (GQ (N) (D7 i.pa[m].f i.pa[m].t) (0) Z Z Z Bs CI Nz Z Z)) (.inr ⟨44,_,Z,Z,Z,Z,Z⟩) Z Z Z Z Z ?_ (hCn:=P7 Z));refine AJ [44] [] Z Z (fun _=>AG (Cc Z Z Z)) (C3 12 Z Z Z (Aa 13 Z Z (V (GS (N) (D7 i.pa[m].f i.pa[m].t) (0) (A2 N (D7 i.pa[m].f i.pa[m].t) 0 - i.pa[m].n) Z Z Z CI Z Z) (AD ⟨Z,?_⟩))));refine C9 (AC (Cb [[],[],[1],[],[3],[1,2,3,4],[0,1,2,3,4,5],[],[7],[0,1,2,3,4,5,6,7,8],[0,1,2,3,4,5,7,8],[0,1,2,3,4,5,7,8,10],[0,1,2,3,4,5,6,7,8,9,10,11]] mixed Z (YE 2 ([BH CV AF (BT (st1 N i.pa[m]) (D7 i.pa[m].t i.pa[m].f) 0)]) Z ?_)));refine AJ [3] [] Z Z (fun _=>AG (Aj Z Z)) (AJ [7] [] Z Z (fun _=>AG (AZ Z Jp Z Z Z)) (At [47] Z Z (fun _=>AG (A6 Z Z Z IG Z)) (AJ [7] [] Z Z (fun _=>AG (AZ Z Jq Z Z Z)) (At [49] Z Z (fun _=>AG (A6 Z Z Z IG Z)) (AJ [48,50] [] Z Z (fun _=>AG (FV KN Rg Z Z Z)) (IV [46,51] [] Z Z Z (fun _=>AG (HF (st1 N i.pa[m]) (D7 i.pa[m].t i.pa[m].f) (0) _ Z Z Z Bs CI Nz Z Z)) (fun _=>AG (HF (BT (st1 N i.pa[m]) (D7 i.pa[m].t i.pa[m].f) (0)) (D7 i.pa[m].t i.pa[m].f) (0) _ Z Z Z Bs CI Nz (Dc _ _ _ _) Z)) (AJ [7] [] Z Z (fun _=>AG (AZ Z Jo Z Z Z)) (At [53] Z Z (fun _=>AG (A6 Z Z Z JG Z)) ?_))))))));have g:=(hsm (D7 i.pa[m].t i.pa[m].f)).2.1;refine AJ [52,54] [] Z Z (fun _=>AG (Ay Z Z (ωa _ (by omega)) Z)) (Gn [46,51] [2] [(56,_)] Z Z (fun _=>Gp (GQ (st1 N i.pa[m]) (D7 i.pa[m].t i.pa[m].f) (0) Z Z Z Bs CI Nz Z Z)) (.inr ⟨56,_,Z,Z,Z,Z,Z⟩) Z Z Z Z Z ?_ (hCn:=P7 Z));refine AJ [56] [] Z Z (fun _=>AG (Cc Z Z Z)) (C3 12 Z Z Z (Aa 13 Z Z (V (GS (st1 N i.pa[m]) (D7 i.pa[m].t i.pa[m].f) (0) (A2 (st1 N i.pa[m]) (D7 i.pa[m].t i.pa[m].f) 0+i.pa[m].n) Z Z Z CI Z Z) (AD ⟨Z,?_⟩))));refine C9 (AC ?_);refine Cb [[],[],[1],[1,2],[0,1,2,3],[],[5],[0,1,2,3,4,5,6],[0,1,2,3,5,6],[0,1,2,3,5,6,8],[0,1,2,3,4,5,6,7,8,9]] mixed Z (YE 2 ([BH CV AF (BT (st2 (st1 N i.pa[m]) i.pa[m]) (FA i.pa[m].f) 0)]) Z (AJ [3] [] Z Z (fun _=>AG (Aj Z Z)) (AJ [7] [] Z Z (fun _=>AG (AZ Z Jq Z Z Z)) (At [59] Z Z (fun _=>AG (A6 Z Z Z IG Z)) (AJ [60] [] Z Z (fun _=>AG (FV KN Rg Z Z Z)) (IV [58,61] [] Z Z Z (fun _=>AG (HF (st2 (st1 N i.pa[m]) i.pa[m]) (FA i.pa[m].f) (0) _ Z Z Z Bs CI Nz Z Z)) (fun _=>AG (HF (BT (st2 (st1 N i.pa[m]) i.pa[m]) (FA i.pa[m].f) (0)) (FA i.pa[m].f) (0) _ Z Z Z Bs CI Nz (Dc _ _ _ _) Z)) (AJ [7] [] Z Z (fun _=>AG (AZ Z Jo Z Z Z)) (At [63] Z Z (fun _=>AG (A6 Z Z Z JG Z)) ?_))))))));have g:=(hsm (FA i.pa[m].f)).2.2.1;refine AJ [62,64] [] Z Z (fun _=>AG (LF Z Z (ωa _ (by omega)) Z)) (Gn [58,61] [2] [(66,_)] Z Z (fun _=>Gp (GQ (st2 (st1 N i.pa[m]) i.pa[m]) (FA i.pa[m].f) (0) Z Z Z Bs CI Nz Z Z)) (.inr ⟨66,_,Z,Z,Z,Z,Z⟩) Z Z Z Z Z ?_ (hCn:=P7 Z));refine AJ [66] [] Z Z (fun _=>AG (Cc Z Z Z)) (C3 10 Z Z Z (Aa 11 Z Z (V (GS (st2 (st1 N i.pa[m]) i.pa[m]) (FA i.pa[m].f) (0) (A2 (st2 (st1 N i.pa[m]) i.pa[m]) (FA i.pa[m].f) 0 - i.pa[m].n) Z Z Z CI Z Z) (AD ⟨Z,?_⟩))));refine C9 ?_;refine Cb [[],[],[1],[1,2],[0,1,2,3],[],[5],[0,1,2,3,4,5,6],[0,1,2,3,5,6],[0,1,2,3,5,6,8],[0,1,2,3,4,5,6,7,8,9]] mixed Z (YE 2 ([BH CV AF (BT (st3 (st2 (st1 N i.pa[m]) i.pa[m]) i.pa[m]) (FA i.pa[m].t) 0)]) Z (AJ [3] [] Z Z (fun _=>AG (Aj Z Z)) (AJ [7] [] Z Z (fun _=>AG (AZ Z Jp Z Z Z)) (At [69] Z Z (fun _=>AG (A6 Z Z Z IG Z)) (AJ [70] [] Z Z (fun _=>AG (FV KN Rg Z Z Z)) (IV [68,71] [] Z Z Z (fun _=>AG (HF (st3 (st2 (st1 N i.pa[m]) i.pa[m]) i.pa[m]) (FA i.pa[m].t) (0) _ Z Z Z Bs CI Nz Z Z)) (fun _=>AG (HF (BT (st3 (st2 (st1 N i.pa[m]) i.pa[m]) i.pa[m]) (FA i.pa[m].t) (0)) (FA i.pa[m].t) (0) _ Z Z Z Bs CI Nz (Dc _ _ _ _) Z)) (AJ [7] [] Z Z (fun _=>AG (AZ Z Jo Z Z Z)) (At [73] Z Z (fun _=>AG (A6 Z Z Z JG Z)) ?_))))))));have g:=(hsm (FA i.pa[m].t)).2.2.2;refine AJ [72,74] [] Z Z (fun _=>AG (Ay Z Z (ωa _ (by omega)) Z)) (Gn [68,71] [2] [(76,_)] Z Z (fun _=>Gp (GQ (st3 (st2 (st1 N i.pa[m]) i.pa[m]) i.pa[m]) (FA i.pa[m].t) (0) Z Z Z Bs CI Nz Z Z)) (.inr ⟨76,_,Z,Z,Z,Z,Z⟩) Z Z Z Z Z ?_ (hCn:=P7 Z));refine AJ [76] [] Z Z (fun _=>AG (Cc Z Z Z)) (C3 10 Z Z Z (Aa 11 Z Z (V (GS (st3 (st2 (st1 N i.pa[m]) i.pa[m]) i.pa[m]) (FA i.pa[m].t) (0) (A2 (st3 (st2 (st1 N i.pa[m]) i.pa[m]) i.pa[m]) (FA i.pa[m].t) 0+i.pa[m].n) Z Z Z CI Z Z) (AD ⟨Z,?_⟩))));refine C9 (AE (J (Ay Z Z (AT (m+1) (by omega)) Z) (goMv Z Z (AD ?_))));exact ⟨(m+1,_),⟨by show m+1≤_;omega,by show _=sumL (Jz i.po++Nf (i.pa.take (m+1)));rw [YI hm1,←ψk];exact (ZW hN).2.2.2⟩,by show i.pa.length - (m+1)<i.pa.length - m;omega,A0 hF [2] Z (Z) ⟨Z,Z,Z,Z,trivial⟩⟩
  ·refine BC (AC (AE (goMv Z Z (AB Z Z (AD (A5 ?_))))));exact ⟨_,[2],_,A3 Z,Z,Z,Z,by rw [hN,Ξ (by have h:=h31;omega)]<;>rfl⟩
end Go.Proofs.YteifpcnphnhaoaaGreat
