import Derived.Test.YteifpcnphnhaoaaGreatMg15
import Derived.SizedLaws
namespace Go.Proofs.YteifpcnphnhaoaaGreat
open Go.ChangeShapes Go.WideShapes Go.ChangeAt Go.RowKit Go.Deep
abbrev noB:Nat ->Prop:=fun _=>False
def VD (w:World) (d:D) (cs:List Value):Prop:=cs.length=d.cells.length∧(∀c∈d.cells,c.one=true)∧∀(j:Nat) c u,d.cells[j]? =some c ->cs[j]? =some u ->AQ w noB c u
theorem JV {w:World} {d:D} {u:Value} (hd:d.one=true) (h:AQ w noB d u):VD w d [u]:=by
 rw [VD,D.cells_one hd];refine ⟨Z,by simp [hd],fun j c u' hc hu=>?_⟩
 cases j with
 | zero=>simp at hc hu;subst hc hu;exact h
 | succ j=>simp at hc
theorem VD.argS {w:World} {ρ:Nat ->Nat ->Value} {O:Nat ->Prop} {ds:List D} {cs:Array Value} (hO:O=noB) (h:VD w (.agg ds) (Value.agg cs).cells.toList):AW w O ρ (.d (.agg ds)) (.agg cs):=by
 subst hO;obtain ⟨h1,h2,h3⟩:=h;have:=AQ.agg (w:=w) (O:=noB) (cs:=ds) (vs:=cs.toList) h1 h2 h3;exact .d (by simpa using this)
section
variable {H:Type} {enc:TypeId×Value ->H} {P:Program} {w:World}
def CL {α:Type} (enc:TypeId×Value ->H) (P:Program) (w:World) (t:TypeId) (k:Nat) (emb:α ->D) (Q:α ->Prop):Prop:=
 ∀fuel cs x,DataW.trod enc P w 0 (fun _=>true) true fuel t cs=some x ->(∀p∈x.2,p.block<w.heap.size) ->(∀n∈x.1.weights P t,n≤reachBytes) ->∃a,Q a∧(emb a).cells.length=k∧VD w (emb a) cs
theorem MR {e:TypeId} {l:List (DataW H)} {d:DataW H} (hd:d∈l) {n:Nat} (hn:n∈d.weights P e):n∈DataW.weightsAll P e l:=by
 induction l with
 | nil=>cases hd
 | cons a r ih=>
  simp only [DataW.weightsAll,υ];rcases Ψ.1 hd with rfl | hd
  ·exact .inl hn
  ·exact .inr (ih hd)
theorem openInt {t:TypeId} {k:IntKind} (ht:P.underlying t=some (.int k)):CL enc P w t 1 (fun z:Int=> .raw (.int k z)) (fun z=>k.min≤z∧z≤k.max):=fun fuel cs x h _ _=>by
 obtain ⟨z,rfl,_,hw⟩:=DataW.trod_int ht h;simp only [Lit.wf,ωa,ωx] at hw;exact ⟨z,hw,Z,JV Z (.raw Z)⟩
theorem openStr {t:TypeId} (ht:P.underlying t=some .string):CL enc P w t 1 (fun s:ByteArray=> .raw (.string s)) (fun s=>s.size≤140737488351232):=fun fuel cs x h _ hw=>by
 obtain ⟨s,rfl,rfl,hs⟩:=DataW.trod_string ht h;exact ⟨s,by simpa [DataW.weights,reachBytes] using hw,Z,JV Z (.raw Z)⟩
theorem Mm {α:Type} {t e:TypeId} {k b:Nat} {emb:α ->D} {Q:α ->Prop} (ht:P.underlying t=some (.slice e)) (hk:P.cellsOf e=k) (hk0:0<k) (hb:P.bytesOf e=b) (hO:CL enc P w e k emb Q):CL enc P w t 1 (fun l:List α=> .sl none (l.map emb)) (fun l=>(∀a∈l,Q a)∧l.length*b≤140737488351232):=fun fuel cs x h hlt hwt=>by
 rcases open_slice ht h with ⟨rfl,rfl⟩ | ⟨a,len,cap,m,n,Dd,Pl,rfl,_,hl,hm,hmm,rfl,hi⟩
 ·refine ⟨[],⟨by simp,by simp⟩,Z,JV Z (.sl k (fun b hb=>by cases hb) (fun _=>rfl) Z (ν _) (ς _) (by simp) (by simp) (fun b o e=>by cases e))⟩
 ·simp only [if_true] at hmm;subst hmm
  have hall:∀i,i<len ->∃y:α,Q y∧(emb y).cells.length=k∧∃cs':List Value,VD w (emb y) cs'∧∀j,j<k ->w.cell? ((a.add (i*k)).add j)=cs'[j]?:=by
   intro i hil;obtain ⟨cs',hc,ht'⟩:=hi i (by omega)
   obtain ⟨y,hq,hyk,hr⟩:=hO _ _ _ ht' (fun p hp=>hlt p (by
    simp only [υ,χs,Ξ]
    exact .inr ⟨i,by omega,hp⟩)) (fun n hn=>hwt n (by
    simp only [DataW.weights,ht,Ψ,υ]
    exact .inr (.inl (MR (ϱ.2 ⟨i,Ξ.2 hil,Z⟩) hn))))
   obtain ⟨_,hlen,hat⟩:=World.cells?_some hc;rw [hk] at hat;exact ⟨y,hq,hyk,cs',hr,hat⟩
  obtain ⟨l,hln,hlq⟩:=list_of len hall;refine ⟨l,⟨fun y hy=>?_,?_⟩,Z,JV Z (.sl k (fun b hb=>by cases hb) (fun e=>by cases e) (by rw [ψ];exact hln) hl hm (fun x hx=>?_) (fun hne=>?_) (fun b o e i x hx=>?_))⟩
  ·obtain ⟨i,hi',rfl⟩:=ωz hy;exact (hlq i _ (ω hi')).1
  ·have h1:=hwt ((len+(m - len))*P.bytesOf e) (by simp [DataW.weights,ht]);rw [hb] at h1;have h2:=ψc b (show l.length≤len+(m - len) by omega);have h3:reachBytes=140737488351232:=rfl;omega
  ·obtain ⟨y,hy,rfl⟩:=ϱ.1 hx;obtain ⟨i,hi',rfl⟩:=ωz hy;exact (hlq i _ (ω hi')).2.1
  ·have h0:0<l.length:=by
    cases l with
    | nil=>exact absurd Z hne
    | cons _ _=>simp
   obtain ⟨_,h1,cs',h2,h3⟩:=hlq 0 _ (ω h0);have h4:=h3 0 hk0;have hlen:cs'.length=k:=by rw [h2.1,h1]
   rw [ω (by omega)] at h4;have:a.spot=none:=by simpa [Addr.add] using World.cell?_spot h4
   exact ⟨a.block,a.off,by cases a;simp_all⟩
  ·rw [η] at hx
   cases hy:l[i]? with
   | none=>rw [hy] at hx;cases hx
   | some y=>
    rw [hy] at hx;injection hx with hx
    subst hx;obtain ⟨hq,h1,cs',h2,h3⟩:=hlq i y hy;injection e with e
    subst e;have hlen:cs'.length=k:=by rw [h2.1,h1]
    have hil:i<len:=by rw [←hln];exact (χ.1 hy).1
    have hin:∀j,j<k ->w.cell? ⟨b,o+i*k+j,none⟩=cs'[j]?:=fun j hj=>by
     have:=h3 j hj
     rwa [Go.WideShapes.add_plain,Go.WideShapes.add_plain] at this
    refine .ptr (fun j=>cs'.getD j undef) ?_ (fun h=>h) h2.2.1 (fun j c hc=>?_) (fun j c hc=>?_)
    ·have hmem:MemPlace.cell b (o+i*k)∈MemPlace.row ⟨b,o,none⟩ (m*P.cellsOf e):=MemPlace.mem_row.2 ⟨i*k,by
      rw [hk];have:(i+1)*k≤m*k:=ψc _ (by omega)
      rw [φf] at this;omega,Z⟩
     exact hlt _ (ψn _ hmem)
    ·have hj:j<k:=by rw [←h1];exact (χ.1 hc).1
     rw [hin j hj,ϖ,ω (by omega)];rfl
    ·have hj:j<k:=by rw [←h1];exact (χ.1 hc).1
     rw [ϖ,ω (by omega)];exact h2.2.2 j c _ hc (ω (by omega))
def Qf {α:Type} (enc:TypeId×Value ->H) (P:Program) (w:World) (off total:Nat) (fs:List Field) (emb:α ->List D) (Q:α ->Prop):Prop:=
 ∀n (cs:List Value),cs.length=total ->(∀(i:Nat) f,fs[i]? =some f ->∃x,DataW.trod enc P w 0 (fun _=>true) true n f.type ((cs.drop f.offset).take (P.cellsOf f.type))=some x∧(∀p∈x.2,p.block<w.heap.size)∧∀n∈x.1.weights P f.type,n≤reachBytes)→
  ∃a,Q a∧off+(emb a).length=total∧(∀c∈emb a,c.one=true)∧∀(j:Nat) c u,(emb a)[j]? =some c ->cs[off+j]? =some u ->AQ w noB c u
theorem Ip {total:Nat}:Qf enc P w total total [] (fun _:Unit=> []) (fun _=>True):=fun n cs _ _=>⟨(),trivial,Z,by simp,by simp⟩
theorem Bn {α β:Type} {off k total:Nat} {f:Field} {fs:List Field} {emb:α ->D} {embs:β ->List D} {Q:α ->Prop} {Qs:β ->Prop} (ho:f.offset=off) (hk:P.cellsOf f.type=k) (h1:CL enc P w f.type k emb Q) (h2:Qf enc P w (off+k) total fs embs Qs):
  Qf enc P w off total (f::fs) (fun a:α×β=>(emb a.1).cells++embs a.2) (fun a=>Q a.1∧Qs a.2):=fun n cs hcs hf=>by
 obtain ⟨x,hx,hp,hwt⟩:=hf 0 f rfl;obtain ⟨a,q1,q2,q3⟩:=h1 _ _ _ hx hp hwt;obtain ⟨b,r1,r2,r3,r4⟩:=h2 n cs hcs (fun i g hg=>hf (i+1) g (by simpa using hg));rw [ho,hk] at q3;refine ⟨(a,b),⟨q1,r1⟩,by simp only [Δ,q2];omega,fun c hc=>?_,fun j c u hc hu=>?_⟩
 ·rcases υ.1 hc with hc | hc
  ·exact q3.2.1 c hc
  ·exact r3 c hc
 ·rcases χl j k with hj | hj
  ·rw [ψb (by rw [q2];exact hj)] at hc;exact q3.2.2 j c u hc (by rw [ψi,θ hj,χd];exact hu)
  ·rw [ωq (by rw [q2];exact hj),q2] at hc;exact r4 (j - k) c u hc (by rw [show off+k+(j - k)=off+j by omega];exact hu)
theorem Io {α:Type} {t:TypeId} {fs:Array Field} {k:Nat} {embs:α ->List D} {Q:α ->Prop} (ht:P.underlying t=some (.struct fs)) (hk:P.cellsOf t=k) (h:Qf enc P w 0 k fs.toList embs Q):CL enc P w t k (fun a=> .agg (embs a)) Q:=fun fuel cs x hx hlt hwt=>by
 obtain ⟨xs,n,_,rfl,hl,hlen,hf⟩:=DataW.trod_struct ht hx
 obtain ⟨a,q1,q2,q3,q4⟩:=h n cs (by rw [hl,hk]) (fun i f hi=>by
  have hi':fs[i]? =some f:=by simpa using hi
  have hlt':i<xs.length:=by rw [hlen];exact (ωr.1 hi').1
  refine ⟨xs[i],by rw [hf i f hi'];exact ω hlt',fun p hp=>hlt p (χs.2 ⟨_,κ hlt',hp⟩),fun n hn=>hwt n ?_⟩;simp only [DataW.weights,ht]
  refine DataW.weights_mem_each (j:=i) (t:=f.type) (d:=xs[i].1) (by rw [η];simp [hi']) (by rw [η,ω hlt'];rfl) n hn)
 rw [ψq] at q2;exact ⟨a,q1,q2,by show cs.length=_;rw [hl,hk];exact q2.symm,q3,fun j c u hc hu=>q4 j c u hc (by rw [ψq];exact hu)⟩
theorem CL.as {α β:Type} {t:TypeId} {k:Nat} {emb:α ->D} {Q:α ->Prop} {emb':β ->D} {Q':β ->Prop} (h:CL enc P w t k emb Q) (f:α ->β) (he:∀a,emb a=emb' (f a)) (hq:∀a,Q a ->Q' (f a)):CL enc P w t k emb' Q':=fun fuel cs x hx hlt hwt=>by
 obtain ⟨a,h1,h2,h3⟩:=h fuel cs x hx hlt hwt;exact ⟨f a,hq a h1,by rw [←he];exact h2,by rw [←he];exact h3⟩
end
theorem Xb {P:Program} {f:FuncId} {args:List AV} (h:AO P f args (.raw (.bool true))) {w:World} {vs:List Value} (hl:vs.length=args.length) (hr:∀(i:Nat) a v,args[i]? =some a ->vs[i]? =some v ->AW w noB (fun _ _=>undef) a v):
  Calls P f vs.toArray w fun e w'=>e= .returned (.bool true)∧Below w.heap.size w w':=by
 have hno:∀ρ b,¬Az ρ [] b:=fun ρ b ⟨_,_,_,h,_⟩=>by cases h
 let ρ:Nat ->Nat ->Value:=fun _ _=>undef
 let F:Fr:=Fr.mk none (.marks w.heap.size) w noB (Az ρ []) (Cc ρ []) (fun b hb=>hb.elim) [] (fun _ _ _ h=>Dh h)
 have hO:F.O ρ []=noB:=funext fun b=>propext ⟨fun h=>h.elim id fun h=>(hno ρ b h).elim,fun h=>h.elim⟩
 have hheap:B3 F [] ρ w:=⟨(fun f i o ho=>by cases ho),(fun f i f' i' o o' b ho=>by cases ho),fun b hb=>(hno ρ b hb).elim,Z,Z,Z,ν _,fun _ _ _=>rfl,fun f i b hb=>Zci hb,ν _⟩
 refine (h.2 F ρ vs Z Z ⟨Z,Z,Z⟩ hheap hl (fun i a v ha hv=>by rw [hO];exact hr i a v ha hv)).mono fun e w' ⟨v,r,H',ρ',e1,⟨e2,e3⟩,hrep,hh'⟩=>?_;subst e1 e2 e3;refine ⟨?_,hh'.os,hh'.tape,hh'.output,hh'.size0,fun b hlt=>hh'.keep b hlt (hno ρ b)⟩
 cases hrep with
 | d hrep=>
  cases hrep with
  | raw _=>rfl
end Go.Proofs.YteifpcnphnhaoaaGreat
namespace Go.Proofs.YteifpcnphnhaoaaGreat
open Go.ChangeShapes Go.WideShapes Go.ChangeAt Go.RowKit
section
variable {H:Type} {enc:TypeId×Value ->H} {P:Program} {w:World}
theorem CL.asQ {α β:Type} {t:TypeId} {k:Nat} {emb:α ->D} {Q:α ->Prop} {emb':β ->D} {Q':β ->Prop} (h:CL enc P w t k emb Q) (f:α ->β) (he:∀a,Q a ->emb a=emb' (f a)) (hq:∀a,Q a ->Q' (f a)):CL enc P w t k emb' Q':=fun fuel cs x hx hlt hwt=>by
 obtain ⟨a,h1,h2,h3⟩:=h fuel cs x hx hlt hwt;exact ⟨f a,hq a h1,by rw [←he a h1];exact h2,by rw [←he a h1];exact h3⟩
theorem Vd {t:TypeId} (ht:P.underlying t=some (.int .i64)):CL enc P w t 1 (fun n:Int=> .raw (.int .i64 n)) (fun n=> -9223372036854775808≤n∧n≤9223372036854775807):=
 (openInt ht).asQ id (fun _ _=>rfl) (fun _ h=>h)
theorem Zy {t:TypeId} (ht:P.underlying t=some .string):CL enc P w t 1 Ao (fun l=>l.length≤140737488351232):=
 (openStr ht).asQ (fun s=>s.data.toList) (fun a _=>rfl) (fun a h=>by simpa using h)
end
end Go.Proofs.YteifpcnphnhaoaaGreat
namespace Go.Proofs.YteifpcnphnhaoaaGreat
open Go.RowKit
set_option maxRecDepth 100000
abbrev AF (z:Int):D:= .raw (.int .i64 z)
structure Tc where
 o:List UInt8
 k:Int
 a:List UInt8
structure AP where
 k:Int
 acc:Tc
 f:List UInt8
 t:List UInt8
structure FQ where
 acc:Tc
 d:Int
structure OF where
 f:List UInt8
 t:List UInt8
 n:Int
structure AK where
 id:Int
 pr:Int
 sq:Int
 po:List FQ
 pa:List OF
 af:List Int
structure A2 where
 r:AP
 n:Int
structure Prb where
 ro:List A2
 it:List AK
theorem Tc.eq_iff {x y:Tc}:x=y↔x.o=y.o∧x.k=y.k∧x.a=y.a:=by cases x;cases y;simp
instance:DecidableEq Tc:=fun _ _=>decidable_of_iff _ Tc.eq_iff.symm
theorem AP.eq_iff {x y:AP}:x=y↔x.k=y.k∧x.acc=y.acc∧x.f=y.f∧x.t=y.t:=by cases x;cases y;simp
instance:DecidableEq AP:=fun _ _=>decidable_of_iff _ AP.eq_iff.symm
abbrev accD (x:Tc):D:= .agg [Ao x.o,AF x.k,Ao x.a]
abbrev C1 (x:AP):D:= .agg [AF x.k,Ao x.acc.o,AF x.acc.k,Ao x.acc.a,Ao x.f,Ao x.t]
abbrev CG (x:FQ):D:= .agg [Ao x.acc.o,AF x.acc.k,Ao x.acc.a,AF x.d]
abbrev Fm (x:OF):D:= .agg [Ao x.f,Ao x.t,AF x.n]
abbrev As (x:AK):D:= .agg [AF x.id,AF x.pr,AF x.sq,.sl none (x.po.map CG),.sl none (x.pa.map Fm),.sl none (x.af.map AF)]
abbrev Cy (x:A2):D:= .agg [AF x.r.k,Ao x.r.acc.o,AF x.r.acc.k,Ao x.r.acc.a,Ao x.r.f,Ao x.r.t,AF x.n]
abbrev Bs (x:Prb):D:= .agg [.sl none (x.ro.map Cy),.sl none (x.it.map As)]
def XH (x:AP):List Value:=[.int .i64 x.k,La x.acc.o,.int .i64 x.acc.k,La x.acc.a,La x.f,La x.t]
def T3 (x:Tc):List Value:=[La x.o,.int .i64 x.k,La x.a]
abbrev rscT:List TypeDesc:=[.int .i64,.string,.int .i64,.string,.string,.string]
abbrev accT:List TypeDesc:=[.string,.int .i64,.string]
theorem NY (a b:Int):NZ (.int .i64 a) (.int .i64 b)=decide (a=b):=by
 simp only [NZ];exact Bool.beq_eq_decide_eq a b
theorem NX (a b:List UInt8):NZ (La a) (La b)=decide (a=b):=by
 simp only [NZ,La,←beq_toListBytes,P8]
theorem rsc_eqC (a b:AP):Bd (XH a) (XH b)=decide (a=b):=by
 simp only [XH,Bd,NY,NX,AP.eq_iff,Tc.eq_iff,Bool.and_true,Bool.decide_and,Bool.and_assoc]
theorem W5 (a b:Tc):Bd (T3 a) (T3 b)=decide (a=b):=by
 simp only [T3,Bd,NY,NX,Tc.eq_iff,Bool.and_true,Bool.decide_and]
theorem Zch {d:TypeDesc} {ds:List TypeDesc} {u:Value} {us:List Value} (h:MapKept.IsKey d u) (hr:BS ds us):BS (d::ds) (u::us):=
 ⟨by simp [hr.1],fun i d' u' hd hu=>by
  cases i with
  | zero=>simp at hd hu;subst hd hu;exact h
  | succ i=>exact hr.2 i d' u' (by simpa using hd) (by simpa using hu)⟩
theorem Ot:BS [] []:=⟨Z,by simp⟩
theorem XG (a:AP):BS rscT (XH a):=Zch Z (Zch trivial (Zch Z (Zch trivial (Zch trivial (Zch trivial Ot)))))
theorem I4 (a:Tc):BS accT (T3 a):=Zch trivial (Zch Z (Zch trivial Ot))
theorem rsc_val (a:AP):(C1 a).val? =some (.agg (XH a).toArray):=rfl
theorem CJ:Ba Tryz.prog 64 C1 (fun a=> .agg (XH a).toArray):=Ba.flat (ds:=rscT) (by kernel_rfl) (by kernel_rfl) rsc_val XG rsc_eqC
theorem P7 {fs:List (Nat×Option (List AL))} {f:Nat} {c1 c2:List AL} (h:BZ fs f=some (some c2)):∀g c,BZ fs g=some c ->C2 f c1 c2 g c:=fun g c hg e=>by
 subst e;rw [h] at hg;injection hg with hg;exact .inr hg.symm
theorem XL {p q:Prop} [Decidable p] [Decidable q] (h:p↔q):AV.d (.raw (.bool (decide p)))= .d (.raw (.bool (decide q))):=by rw [decide_eq_decide.2 h]
theorem retT {q:Prop} [Decidable q] (h:q):AV.d (.raw (.bool true))= .d (.raw (.bool (decide q))):=by rw [ωi h]
theorem K5 {q:Prop} [Decidable q] (h:¬q):AV.d (.raw (.bool false))= .d (.raw (.bool (decide q))):=by rw [ωp h]
theorem Ag {a b:Int} (h:a=b):AV.d (.raw (.int .i64 a))= .d (.raw (.int .i64 b)):=by rw [h]
theorem AT (n:Nat) (h:n≤9223372036854775807):IntKind.i64.wrap (n:Int)=(n:Int):=Ω _ (by omega)
theorem HS (n lo hi:Int):AO Tryz.prog 167 [.d (AF n),.d (AF lo),.d (AF hi)] (.raw (.bool (decide (lo≤n∧n≤hi)))):=by
 refine BB Tryz.func167 Z Z Tryz.ntmps167 Z Z Z fun F hF=>(AC (AE ?_));refine AB Z Z (AD (AC (AE (goMv Z Z (goMv Z Z (J (ES Z Z Z) (goMv Z Z (Ia 10 Z (fun h10=>?_) (fun h10=>?_)))))))))
 ·refine Aj Z Z Z ?_;refine goMv Z Z (Aj Z Z Z (goMv Z Z (Aj Z Z Z (J (ZH Z Z Z) (J (FO Z Z Z Z) (AB Z Z (AD (A8 ?_))))))));exact ⟨_,[],[],A6 Z,Z,Z,by first | exact XL (by omega) | exact K5 (by omega),rfl⟩
 ·refine Aa Z Z Z Z (Aa Z Z Z Z (Aa Z Z Z Z (J (Da Z Z Z Z) (AB Z Z (AD (A8 ?_))))));exact ⟨_,[],[],A6 Z,Z,Z,by first | exact XL (by omega) | exact K5 (by omega),rfl⟩
theorem GV (n lo hi:Int):AO Tryz.prog 178 [.d (AF n),.d (AF lo),.d (AF hi)] (.raw (.bool (decide (lo≤n∧n≤hi)))):=by
 refine BB Tryz.func178 Z Z Tryz.ntmps178 Z Z Z fun F hF=>(AC (AE ?_));refine AB Z Z (AD (AC (AE (goMv Z Z (goMv Z Z (J (ES Z Z Z) (goMv Z Z (Ia 10 Z (fun h10=>?_) (fun h10=>?_)))))))))
 ·refine Aj Z Z Z ?_;refine goMv Z Z (Aj Z Z Z (goMv Z Z (Aj Z Z Z (J (ZH Z Z Z) (J (FO Z Z Z Z) (AB Z Z (AD (A8 ?_))))))));exact ⟨_,[],[],A6 Z,Z,Z,by first | exact XL (by omega) | exact K5 (by omega),rfl⟩
 ·refine Aa Z Z Z Z (Aa Z Z Z Z (Aa Z Z Z Z (J (Da Z Z Z Z) (AB Z Z (AD (A8 ?_))))));exact ⟨_,[],[],A6 Z,Z,Z,by first | exact XL (by omega) | exact K5 (by omega),rfl⟩
theorem nan_p (n:Int):AO Tryz.prog 211 [.d (AF n)] (.raw (.bool false)):=by
 refine BB Tryz.func211 Z Z Tryz.ntmps211 Z Z Z fun F hF=>(AC (AE (AB Z Z ?_)));refine AD (AC (AE (goMv Z Z (goMv Z Z (J (D6 Z Z Z) (AB Z Z (AD (A8 ?_))))))));exact ⟨_,[],[],A6 Z,Z,Z,by simp,Z⟩
theorem aU (l:List UInt8):AO Tryz.prog 239 [.d (Ao l)] (.raw (.bool false)):=by
 refine BB Tryz.func239 Z Z Tryz.ntmps239 Z Z Z fun F hF=>(AC (AE (AB Z Z ?_)));refine AD (AC (AE (goMv Z Z (goMv Z Z (J (Et Z Z Z) (AB Z Z (AD (A8 ?_))))))));exact ⟨_,[],[],A6 Z,Z,Z,by simp,Z⟩
def Ds (a b:Int):Int:=if a<b then -1 else if b<a then 1 else 0
def PL (a b:List UInt8):Bool:=Op.bytesLess a b
def E9 (a b:List UInt8):Int:=if PL a b=true then -1 else if PL b a=true then 1 else 0
theorem Fa (a b:List UInt8):Op.bytesLess (⟨a.toArray⟩:ByteArray).toList (⟨b.toArray⟩:ByteArray).toList=PL a b:=by rw [Lib.toList_data,Lib.toList_data];rfl
theorem Q4 (a b:Int):AO Tryz.prog 166 [.d (AF a),.d (AF b)] (AF (Ds a b)):=by
 refine BB Tryz.func166 Z Z Tryz.ntmps166 Z Z Z fun F hF=>(AC (AE ?_));refine AB Z Z (AD (AC (AE (goMv Z Z (J (B2 (nan_p a) Z Z) (AB Z Z (AD (AC ?_))))))));refine AE (goMv Z Z (J (B2 (nan_p b) Z Z) (AB Z Z (AD (AC (AC (AE (goMv Z Z ?_))))))));refine AD (D9 Z (Z) (A3 (AC (AC (AE (goMv Z Z (AD (D9 Z (Z) ?_))))))));refine A3 (AC (AC (AE (goMv Z Z (goMv Z Z (J (BR Z Z Z) (AD (Ae Z (fun h16=>?_) (fun h16=>?_)))))))))
 ·refine AC (AE (AB Z Z (AD (A8 ?_))));exact ⟨_,[],[],A6 Z,Z,Z,by first | exact Ag (by unfold Ds;rw [θ (by assumption)]) | exact Ag (by unfold Ds;rw [ϑ (by assumption),θ (by omega)]) | exact Ag (by unfold Ds;rw [ϑ (by assumption),ϑ (by omega)]),Z⟩
 ·refine A3 (AC (AC (AE (goMv Z Z (goMv Z Z (J (MO Z Z Z) (AD (Ae Z (fun h19=>?_) (fun h19=>?_)))))))))
  ·refine AC (AE (AB Z Z (AD (A8 ?_))));exact ⟨_,[],[],A6 Z,Z,Z,by first | exact Ag (by unfold Ds;rw [θ (by assumption)]) | exact Ag (by unfold Ds;rw [ϑ (by assumption),θ (by omega)]) | exact Ag (by unfold Ds;rw [ϑ (by assumption),ϑ (by omega)]),Z⟩
  ·refine A3 (AC (AE (AB Z Z (AD (A8 ?_)))));exact ⟨_,[],[],A6 Z,Z,Z,by first | exact Ag (by unfold Ds;rw [θ (by assumption)]) | exact Ag (by unfold Ds;rw [ϑ (by assumption),θ (by omega)]) | exact Ag (by unfold Ds;rw [ϑ (by assumption),ϑ (by omega)]),Z⟩
theorem Q3 (a b:List UInt8):AO Tryz.prog 196 [.d (Ao a),.d (Ao b)] (AF (E9 a b)):=by
 refine BB Tryz.func196 Z Z Tryz.ntmps196 Z Z Z fun F hF=>(AC (AE ?_));refine AB Z Z (AD (AC (AE (goMv Z Z (J (B2 (aU a) Z Z) (AB Z Z (AD (AC ?_))))))));refine AE (goMv Z Z (J (B2 (aU b) Z Z) (AB Z Z (AD (AC (AC (AE (goMv Z Z ?_))))))));refine AD (D9 Z (Z) (A3 (AC (AC (AE (goMv Z Z (AD (D9 Z (Z) ?_))))))));refine A3 (AC (AC (AE (goMv Z Z (goMv Z Z (J (st_lssS Z Z Z) (AD (KN Z (fun h16=>?_) (fun h16=>?_)))))))))
 ·rw [Fa] at h16;refine AC (AE (AB Z Z (AD (A8 ?_))));exact ⟨_,[],[],A6 Z,Z,Z,by first | exact Ag (by unfold E9;rw [θ h16]) | exact Ag (by unfold E9;rw [ϑ (by rw [h16];decide),θ h19]) | exact Ag (by unfold E9;rw [ϑ (by rw [h16];decide),ϑ (by rw [h19];decide)]),Z⟩
 ·rw [Fa] at h16;refine A3 (AC (AC (AE (goMv Z Z (goMv Z Z (J (st_gtrS Z Z Z) (AD (KN Z (fun h19=>?_) (fun h19=>?_)))))))))
  ·rw [Fa] at h19;refine AC (AE (AB Z Z (AD (A8 ?_))));exact ⟨_,[],[],A6 Z,Z,Z,by first | exact Ag (by unfold E9;rw [θ h16]) | exact Ag (by unfold E9;rw [ϑ (by rw [h16];decide),θ h19]) | exact Ag (by unfold E9;rw [ϑ (by rw [h16];decide),ϑ (by rw [h19];decide)]),Z⟩
  ·rw [Fa] at h19;refine A3 (AC (AE (AB Z Z (AD (A8 ?_)))));exact ⟨_,[],[],A6 Z,Z,Z,by first | exact Ag (by unfold E9;rw [θ h16]) | exact Ag (by unfold E9;rw [ϑ (by rw [h16];decide),θ h19]) | exact Ag (by unfold E9;rw [ϑ (by rw [h16];decide),ϑ (by rw [h19];decide)]),Z⟩
abbrev Mx:Int:=1000000000000000
def Bg:List Int ->Int
 | []=>0
 | e::r=>if e=0 then Bg r else e
theorem Xp {α:Type} {l:List α} {f:α ->Int} {k:Nat} (hk:k<l.length):Bg ((l.drop k).map f)=if f l[k]=0 then Bg ((l.drop (k+1)).map f) else f l[k]:=by
 rw [χf hk];rfl
theorem GM {α:Type} {l:List α} {f:α ->Int} {k:Nat} (hk:¬k<l.length):Bg ((l.drop k).map f)=0:=by
 rw [List.drop_of_length_le (by omega)];rfl
theorem Dn {α:Type} {l:List α} {f:α ->Int} {k:Nat} {E:Int} (hk:k<l.length) (h:E=Bg ((l.drop k).map f)):(f l[k]=0 ->E=Bg ((l.drop (k+1)).map f))∧∀e,f l[k]=e ->e≠0 ->e=E:=by
 rw [Xp hk] at h;exact ⟨fun h0=>by rw [h,θ h0],fun e h1 h2=>by rw [h,ϑ (by rw [h1];exact h2),h1]⟩
def Rk (p:FQ):Int:=if p.acc.o=[]∨p.acc.a=[] then 6 else if ¬(0≤p.acc.k∧p.acc.k≤4) then 11 else if ¬(-Mx≤p.d∧p.d≤Mx) then 12 else 0
def Qr (p:OF):Int:=if p.f=[]∨p.t=[] then 6 else if p.f=p.t then 7 else if ¬(0≤p.n∧p.n≤Mx) then 2 else 0
def YM (id:Int) (l:List Int) (k:Nat):Int:=if ¬(0≤l.getD k 0∧l.getD k 0≤1000000000) then 2 else if l.getD k 0=id∨l.getD k 0∈l.take k then 7 else 0
def Or (i:AK):Int:=Bg (i.po.map Rk)
def XR (i:AK):Int:=Bg (i.pa.map Qr)
def aftE (i:AK):Int:=Bg ((List.range i.af.length).map (YM i.id i.af))
def CK (l:List FQ) (a:List UInt8):Int:=(l.map fun p=>if p.acc.a=a then p.d else 0).sum
def Us (i:AK):Int:=if ∃p∈i.po,CK i.po p.acc.a≠0 then 14 else 0
theorem J5 {α:Type} {l:List α} {x:α} {k:Nat} (hk:k<l.length) (h:x∉l.take k) (hne:x≠l[k]):x∉l.take (k+1):=by
 rw [φ hk,υ]
 simp [h,hne]
theorem SC {α:Type} {l:List α} {x:α} {k:Nat} (hk:¬k<l.length) (h:x∉l.take k):x∉l:=by
 rwa [Θ (by omega)] at h
def ixI (x:Int) (l:List Int):Int:=if x∈l then (l.idxOf x:Int) else -1
theorem bK {l:List Int} {x:Int} {k:Nat} (hk:k<l.length) (h:x∉l.take k) (he:x=l[k]):ixI x l=(k:Int):=by
 unfold ixI;rw [θ (by rw [he];exact κ hk)];have h1:l=l.take k++l[k]::l.drop (k+1):=by rw [←χf hk,φa]
 rw [h1,List.idxOf_append,ϑ h,he,List.idxOf_cons_self]
 simp;omega
theorem WK (l:List Int) (x:Int) (hn:l.length≤140737488355328):AO Tryz.prog 176 [.d (.sl none (l.map AF)),.d (AF x)] (AF (ixI x l)):=by
 refine BB Tryz.func176 Z Z Tryz.ntmps176 Z Z Z fun F hF=>(AC (AE (AB Z Z (AD ?_))));refine AC (AC (AE (goMv Z Z (J (CO Z Tryz.underlying28 Z) (goMv Z Z (AD (A5 (Gu (α:=Nat) (fun k=>⟨19,[(0,.d (.sl none (l.map AF))),(1,.d (AF x)),(7,(.d (AF (l.length:Int)))),(8,(.d (AF (k:Int))))],[]⟩) (fun k=>k≤l.length∧x∉l.take k) (fun k=>l.length - k) (0) (⟨ς _,by simp⟩) (ci ⟨Z,Z,Z,Z,trivial⟩) ?_))))))));rintro k ⟨hk0,hk⟩;refine AC (AE (J (BR Z Z Z) (AD (AC (Ae Z (fun h9=>?_) (fun h9=>?_))))))
 ·have hk1:k<l.length:=Bf h9;refine A3 (AC (A5 (AC (AE (goMv Z Z (AB Z Z (AD (AC ?_))))))));refine AE (goMv Z Z (goMv Z Z (goMv Z Z (J (Be (k) Z Z (Z) (Ah hk1) Tryz.underlying28 Z BE Z) (J (Cr Z Z Aq Z) (J (JL Z Z Z) (AD (Ae Z (fun h16=>?_) (fun h16=>?_)))))))))
  ·refine AC (AE (goMv Z Z (AB Z Z (AD (A8 ?_)))));exact ⟨_,[],[],A6 Z,Z,Z,Ag (bK hk1 hk h16).symm,Z⟩
  ·refine A3 (AE (J (BA Z Z (AT (k+1) (by omega)) Z) (goMv Z Z (AD ?_))));exact ⟨k+1,⟨by show k+1≤_;omega,J5 hk1 hk h16⟩,by show l.length - (k+1)<l.length - k;omega,⟨Z,Z,fun _ _=>Tk.get (l:=[(0,_),(1,_),(7,_),(8,_)]) ⟨Z,Z,Z,Z,trivial⟩⟩⟩
 ·refine BF (AC (AE (AB Z Z (AD (A8 ?_)))));exact ⟨_,[],[],A6 Z,Z,Z,Ag (by unfold ixI;rw [ϑ (SC (by have h:=h9;omega) hk)]),Z⟩
theorem Nb (l:List Int) (x:Int) (hn:l.length≤140737488355328):AO Tryz.prog 179 [.d (.sl none (l.map AF)),.d (AF x)] (.raw (.bool (decide (x∈l)))):=by
 refine BB Tryz.func179 Z Z Tryz.ntmps179 Z Z Z fun F hF=>(AC (AE (AB Z Z (AD ?_))));refine AC (AE (goMv Z Z (goMv Z Z (J (B2 (WK l x hn) Z Z) (J (ES Z Z Z) (AB Z Z (AD (A8 ?_))))))));exact ⟨_,[],[],A6 Z,Z,Z,XL (by unfold ixI;split<;>rename_i h<;>simp [h]<;>omega),Z⟩
theorem UN (i:AK) (hn:i.po.length≤140737488355328):AO Tryz.prog 168 [.d (As i)] (AF (Or i)):=by
 refine BB Tryz.func168 Z Z Tryz.ntmps168 Z Z Z fun F hF=>(AC (AE (V (Bz 1 Z Z Z Z Z Z Z) (AB Z Z (AD (AC ?_))))));refine AC (AE (J (A4 Z Ho Z Z Z) (J (A9 Z Z Z XX Z) (J (CO Z Tryz.underlying52 Z) (goMv Z Z (AD (A5 (B7 (α:=Nat) (fun k=>⟨35,[(1,(.ptr 1 0 0)),(6,(.d (.sl none (i.po.map CG)))),(7,(.d (AF (i.po.length:Int)))),(8,(.d (AF (k:Int))))],[(1,[.blk 55 [.d (AF i.id),.d (AF i.pr),.d (AF i.sq),.d (.sl none (i.po.map CG)),.d (.sl none (i.pa.map Fm)),.d (.sl none (i.af.map AF))]])]⟩) (fun k=>k≤i.po.length∧Or i=Bg ((i.po.drop k).map Rk)) (fun k=>i.po.length - k) (0) (⟨ς _,Z⟩) (A1 hF [1] Z Z ⟨Z,Z,Z,Z,trivial⟩) ?_))))))));rintro k ⟨hk0,hk⟩;refine AC (AE (J (BR Z Z Z) (AD (AC (Ae Z (fun h9=>?_) (fun h9=>?_))))))
 ·have hk1:k<i.po.length:=Bf h9;refine A3 (AC (A5 (AC (AE ?_))));have hE:=Dn hk1 hk;refine J (Be (k) Z Z (Z) (Ah hk1) Tryz.underlying52 Z O4 Z) (J (HE Z Z Z0 Z) (V (CF 2 O0 Z Z Z Z) (V (Bi Z Z Z Z Z Z Z O4) (AD ?_))));refine A5 (AC (AE (J (A4 Z Jy Z Z Z) (J (A4 Z QP Z Z Z) (J (A9 Z Z Z iOq Z) (J (EE Z Z Z) (goMv Z Z (Ia 17 Z (fun h17=>?_) (fun h17=>?_)))))))))
  ·refine Aa Z Z Z Z (Aa Z Z Z Z (Aa Z Z Z Z (Aa Z Z Z Z ?_)));refine J (FO Z Z Z Z) (AB Z Z (AD (DP Z Z (AC (AE (AB Z Z (AD (A8 ?_))))))));exact ⟨_,[],[],A6 Z,Z,Z,Ag (hE.2 6 (by unfold Rk;rw [θ (.inl h17)]) (by decide)),Z⟩
  ·refine Aj Z Z Z (J (A4 Z Jy Z Z Z) (Aj Z Z Z ?_));refine J (A4 Z NS Z Z Z) (Aj Z Z Z (J (A9 Z Z Z iOq Z) (Aj Z Z Z (J (EE Z Z Z) (J (Da Z Z Z Z) (AB Z Z (AD (Ae Z (fun h12=>?_) (fun h12=>?_)))))))))
   ·refine AC (AE (AB Z Z (AD (A8 ?_))));exact ⟨_,[],[],A6 Z,Z,Z,Ag (hE.2 6 (by unfold Rk;rw [θ (.inr h12)]) (by decide)),Z⟩
   ·refine AC ?_;refine AE (J (A4 Z Jy Z Z Z) (J (A4 Z NT Z Z Z) (J (A9 Z Z Z Aq Z) (J (B2 (HS _ _ _) Z Z) (J (Nu Z Z) (AB Z Z (AD (Ae Z (fun h23=>?_) (fun h23=>?_)))))))))
    ·refine AC (AE (AB Z Z (AD (A8 ?_))));exact ⟨_,[],[],A6 Z,Z,Z,Ag (hE.2 11 (by unfold Rk;rw [ϑ (by simp [h17,h12]),θ h23]) (by decide)),Z⟩
    ·refine AC (AE (J (A4 Z QV Z Z Z) (J (A9 Z Z Z Ke Z) (J (B2 (GV _ _ _) Z Z) (J (Nu Z Z) (AB Z Z (AD (Ae Z (fun h29=>?_) (fun h29=>?_)))))))))
     ·refine AC (AE (AB Z Z (AD (A8 ?_))));exact ⟨_,[],[],A6 Z,Z,Z,Ag (hE.2 12 (by unfold Rk;rw [ϑ (by simp [h17,h12]),ϑ h23,θ h29]) (by decide)),Z⟩
     ·refine A3 (AE (J (BA Z Z (AT (k+1) (by omega)) Z) (goMv Z Z (AD ?_))));exact ⟨k+1,⟨by show k+1≤_;omega,hE.1 (by unfold Rk;rw [ϑ (by simp [h17,h12]),ϑ h23,ϑ h29])⟩,by show i.po.length - (k+1)<i.po.length - k;omega,A1 hF [1] Z (Z) ⟨Z,Z,Z,Z,trivial⟩⟩
 ·refine BF (AC (AE (AB Z Z (AD (A8 ?_)))));exact ⟨_,[],[],A6 Z,Z,Z,Ag (by rw [hk,GM (by have h:=h9;omega)]),Z⟩
theorem UQ (i:AK) (hn:i.pa.length≤140737488355328):AO Tryz.prog 169 [.d (As i)] (AF (XR i)):=by
 refine BB Tryz.func169 Z Z Tryz.ntmps169 Z Z Z fun F hF=>(AC (AE (V (Bz 1 Z Z Z Z Z Z Z) (AB Z Z (AD (AC ?_))))));refine AC (AE (J (A4 Z JC Z Z Z) (J (A9 Z Z Z aA Z) (J (CO Z Tryz.underlying53 Z) (goMv Z Z (AD (A5 (B7 (α:=Nat) (fun k=>⟨33,[(1,(.ptr 1 0 0)),(6,(.d (.sl none (i.pa.map Fm)))),(7,(.d (AF (i.pa.length:Int)))),(8,(.d (AF (k:Int))))],[(1,[.blk 55 [.d (AF i.id),.d (AF i.pr),.d (AF i.sq),.d (.sl none (i.po.map CG)),.d (.sl none (i.pa.map Fm)),.d (.sl none (i.af.map AF))]])]⟩) (fun k=>k≤i.pa.length∧XR i=Bg ((i.pa.drop k).map Qr)) (fun k=>i.pa.length - k) (0) (⟨ς _,Z⟩) (A1 hF [1] Z Z ⟨Z,Z,Z,Z,trivial⟩) ?_))))))));rintro k ⟨hk0,hk⟩;refine AC (AE (J (BR Z Z Z) (AD (AC (Ae Z (fun h9=>?_) (fun h9=>?_))))))
 ·have hk1:k<i.pa.length:=Bf h9;refine A3 (AC (A5 (AC (AE ?_))));have hE:=Dn hk1 hk;refine J (Be (k) Z Z (Z) (Ah hk1) Tryz.underlying53 Z VT Z) (J (HE Z Z rw161 Z) (V (CF 2 zl161 Z Z Z Z) (V (Bi Z Z Z Z Z Z Z VT) ?_)));refine AD (A5 (AC (AE (J (A4 Z Jx Z Z Z) (J (A9 Z Z Z iOq Z) (J (EE Z Z Z) (goMv Z Z (Ia 16 Z (fun h16=>?_) (fun h16=>?_)))))))))
  ·refine Aa Z Z Z Z (Aa Z Z Z Z (Aa Z Z Z Z ?_));refine J (FO Z Z Z Z) (AB Z Z (AD (DP Z Z (AC (AE (AB Z Z (AD (A8 ?_))))))));exact ⟨_,[],[],A6 Z,Z,Z,Ag (hE.2 6 (by unfold Qr;rw [θ (.inl h16)]) (by decide)),Z⟩
  ·refine Aj Z Z Z ?_;refine J (A4 Z Jw Z Z Z) (Aj Z Z Z (J (A9 Z Z Z iOq Z) (Aj Z Z Z (J (EE Z Z Z) (J (Da Z Z Z Z) (AB Z Z (AD (Ae Z (fun h12=>?_) (fun h12=>?_)))))))))
   ·refine AC (AE (AB Z Z (AD (A8 ?_))));exact ⟨_,[],[],A6 Z,Z,Z,Ag (hE.2 6 (by unfold Qr;rw [θ (.inr h12)]) (by decide)),Z⟩
   ·refine AC ?_;refine AE (J (A4 Z Jx Z Z Z) (J (A9 Z Z Z iOq Z) (J (A4 Z Jw Z Z Z) (J (A9 Z Z Z iOq Z) (J (EE Z Z Z) (AB Z Z (AD (Ae Z (fun h21=>?_) (fun h21=>?_)))))))))
    ·refine AC (AE (AB Z Z (AD (A8 ?_))));exact ⟨_,[],[],A6 Z,Z,Z,Ag (hE.2 7 (by unfold Qr;rw [ϑ (by simp [h16,h12]),θ h21]) (by decide)),Z⟩
    ·refine AC (AE (J (A4 Z Jv Z Z Z) (J (A9 Z Z Z Ke Z) (J (B2 (GV _ _ _) Z Z) (J (Nu Z Z) (AB Z Z (AD (Ae Z (fun h27=>?_) (fun h27=>?_)))))))))
     ·refine AC (AE (AB Z Z (AD (A8 ?_))));exact ⟨_,[],[],A6 Z,Z,Z,Ag (hE.2 2 (by unfold Qr;rw [ϑ (by simp [h16,h12]),ϑ h21,θ h27]) (by decide)),Z⟩
     ·refine A3 (AE (J (BA Z Z (AT (k+1) (by omega)) Z) (goMv Z Z (AD ?_))));exact ⟨k+1,⟨by show k+1≤_;omega,hE.1 (by unfold Qr;rw [ϑ (by simp [h16,h12]),ϑ h21,ϑ h27])⟩,by show i.pa.length - (k+1)<i.pa.length - k;omega,A1 hF [1] Z (Z) ⟨Z,Z,Z,Z,trivial⟩⟩
 ·refine BF (AC (AE (AB Z Z (AD (A8 ?_)))));exact ⟨_,[],[],A6 Z,Z,Z,Ag (by rw [hk,GM (by have h:=h9;omega)]),Z⟩
theorem EJ {n k:Nat} {f:Nat ->Int} {E:Int} (hk:k<n) (h:E=Bg (((List.range n).drop k).map f)):(f k=0 ->E=Bg (((List.range n).drop (k+1)).map f))∧∀e,f k=e ->e≠0 ->e=E:=by
 have:=Dn (l:=List.range n) (k:=k) (by simpa using hk) h
 simpa using this
theorem after_p (i:AK) (hn:i.af.length≤140737488355328):AO Tryz.prog 170 [.d (As i)] (AF (aftE i)):=by
 refine BB Tryz.func170 Z Z Tryz.ntmps170 Z Z Z fun F hF=>(AC (AE (V (Bz 1 Z Z Z Z Z Z Z) (AB Z Z (AD (AC ?_))))));refine AC (AE (J (A4 Z FH Z Z Z) (J (A9 Z Z Z BH Z) (J (CO Z Tryz.underlying28 Z) (goMv Z Z (AD (A5 (B7 (α:=Nat) (fun k=>⟨31,[(1,(.ptr 1 0 0)),(6,(.d (.sl none (i.af.map AF)))),(7,(.d (AF (i.af.length:Int)))),(8,(.d (AF (k:Int))))],[(1,[.blk 55 [.d (AF i.id),.d (AF i.pr),.d (AF i.sq),.d (.sl none (i.po.map CG)),.d (.sl none (i.pa.map Fm)),.d (.sl none (i.af.map AF))]])]⟩) (fun k=>k≤i.af.length∧aftE i=Bg (((List.range i.af.length).drop k).map (YM i.id i.af))) (fun k=>i.af.length - k) (0) (⟨ς _,Z⟩) (A1 hF [1] Z Z ⟨Z,Z,Z,Z,trivial⟩) ?_))))))));rintro k ⟨hk0,hk⟩;refine AC (AE (J (BR Z Z Z) (AD (AC (Ae Z (fun h9=>?_) (fun h9=>?_))))))
 ·have hk1:k<i.af.length:=Bf h9;refine A3 (AC (A5 (AC (AE ?_))));have hE:=EJ hk1 hk;have hg:i.af.getD k 0=i.af[k]:=by simp [hk1]
  refine goMv Z Z (J (Be (k) Z Z (Z) (Ah hk1) Tryz.underlying28 Z BE Z) (J (Cr Z Z Aq Z) (AB Z Z (AB Z Z (AD ?_)))));refine A5 (AC (AE (goMv Z Z (J (B2 (HS _ _ _) Z Z) (J (Nu Z Z) (AB Z Z (AD (Ae Z (fun h13=>?_) (fun h13=>?_)))))))))
  ·refine AC (AE (AB Z Z (AD (A8 ?_))));exact ⟨_,[],[],A6 Z,Z,Z,Ag (hE.2 2 (by unfold YM;rw [hg,θ h13]) (by decide)),Z⟩
  ·refine AC (AE (goMv Z Z (J (A4 Z OB Z Z Z) (J (A9 Z Z Z Aq Z) (J (JL Z Z Z) (goMv Z Z (Ia 22 Z (fun h22=>?_) (fun h22=>?_))))))))
   ·refine Aa Z Z Z Z (Aa Z Z Z Z (Aa Z Z Z Z (Aa Z Z Z Z (Aa Z Z Z Z (Aa Z Z Z Z ?_)))));refine J (FO Z Z Z Z) (AB Z Z (AD (DP Z Z (AC (AE (AB Z Z (AD (A8 ?_))))))));exact ⟨_,[],[],A6 Z,Z,Z,Ag (hE.2 7 (by unfold YM;rw [hg,ϑ h13,θ (.inl h22)]) (by decide)),Z⟩
   ·refine Aj Z Z Z (J (A4 Z FH Z Z Z) (Aj Z Z Z (J (A9 Z Z Z BH Z) (Aj Z Z Z (goMv Z Z (Aj Z Z Z ?_))))));refine J (LL (i.af) (k) Z Z Z (Z) (by omega) Tryz.underlying28 BE (fun _=>rfl) Z) (Aj Z Z Z (goMv Z Z (Aj Z Z Z (J (B2 (Nb (i.af.take k) _ (by simp;omega)) Z Z) (J (Da Z Z Z Z) (AB Z Z (AD (Ae Z (fun h17=>?_) (fun h17=>?_)))))))))
    ·refine AC (AE (AB Z Z (AD (A8 ?_))));exact ⟨_,[],[],A6 Z,Z,Z,Ag (hE.2 7 (by unfold YM;rw [hg,ϑ h13,θ (.inr h17)]) (by decide)),Z⟩
    ·refine A3 (AE (J (BA Z Z (AT (k+1) (by omega)) Z) (goMv Z Z (AD ?_))));exact ⟨k+1,⟨by show k+1≤_;omega,hE.1 (by unfold YM;rw [hg,ϑ h13,ϑ (by simp [h22];exact h17)])⟩,by show i.af.length - (k+1)<i.af.length - k;omega,A1 hF [1] Z (Z) ⟨Z,Z,Z,Z,trivial⟩⟩
 ·refine BF (AC (AE (AB Z Z (AD (A8 ?_)))));exact ⟨_,[],[],A6 Z,Z,Z,Ag (by rw [hk,GM (by simp;have h:=h9;omega)]),Z⟩
theorem OU (l:List FQ) (p:FQ) (a:List UInt8):CK (l++ [p]) a=CK l a+if p.acc.a=a then p.d else 0:=by simp [CK]
theorem Nj (l:List FQ) (a:List UInt8) (h:∀p∈l,-Mx≤p.d∧p.d≤Mx): -(l.length*1000000000000000)≤CK l a∧CK l a≤l.length*1000000000000000:=by
 induction l with
 | nil=>simp [CK]
 | cons p r ih=>
  have h1:=ih fun q hq=>h q (by simp [hq]);have h2:=h p (by simp);have e:CK (p::r) a=(if p.acc.a=a then p.d else 0)+CK r a:=by simp [CK]
  rw [e];simp only [Mx] at h2;have e2:((p::r).length:Int)=r.length+1:=by simp
  rw [e2]
  split<;>omega
def VE (l:List FQ) (M:List (List UInt8×Int)):Prop:=(M.map Prod.fst).Nodup∧(∀a,A7 M a 0=CK l a)∧(∀a,a∈M.map Prod.fst ->∃p∈l,p.acc.a=a)∧∀p∈l,p.acc.a∈M.map Prod.fst
theorem mem_put {α β:Type} [DecidableEq α] {M:List (α×β)} {a a':α} {b:β}:a'∈(Aw M a b).map Prod.fst↔a'=a∨a'∈M.map Prod.fst:=by
 rw [Ki]
 split
 ·rename_i h
  exact ⟨.inr,fun h'=>h'.elim (fun e=>by rw [e];exact h) id⟩
 ·simp [or_comm]
theorem VE.snoc {l:List FQ} {M:List (List UInt8×Int)} (h:VE l M) (p:FQ):VE (l++ [p]) (Aw M p.acc.a (A7 M p.acc.a 0+p.d)):=by
 obtain ⟨h1,h2,h3,h4⟩:=h;refine ⟨Mu h1,fun a=>?_,fun a ha=>?_,fun q hq=>?_⟩
 ·rw [He,OU]
  split
  ·rename_i e;rw [e,h2,θ rfl]
  ·rename_i e;rw [h2,ϑ (fun e'=>e e'.symm)];omega
 ·rcases mem_put.1 ha with e | e
  ·exact ⟨p,by simp,e.symm⟩
  ·obtain ⟨q,hq,e2⟩:=h3 a e;exact ⟨q,by simp [hq],e2⟩
 ·rcases υ.1 hq with hq | hq
  ·exact mem_put.2 (.inr (h4 q hq))
  ·simp at hq;subst hq;exact mem_put.2 (.inl Z)
theorem bal_bad {i:AK} {M:List (List UInt8×Int)} (h:VE i.po M) {j:Nat} {a:List UInt8} {v:Int} (hm:M[j]? =some (a,v)) (hv:v≠0):(14:Int)=Us i:=by
 have hmem:=ζ hm;have h1:=DJ (z:=0) h.1 hmem;rw [h.2.1] at h1;obtain ⟨p,hp,e⟩:=h.2.2.1 a (χj (f:=Prod.fst) hmem);unfold Us;rw [θ ⟨p,hp,by rw [e,h1];exact hv⟩]
theorem bal_ok {i:AK} {M:List (List UInt8×Int)} (h:VE i.po M) (h0:∀x∈M,x.2=0):(0:Int)=Us i:=by
 unfold Us;rw [ϑ];rintro ⟨p,hp,hne⟩;refine hne ?_;rw [←h.2.1];exact h0 _ (Hf (z:=0) (h.2.2.2 p hp))
theorem VO {l:List FQ} {k:Nat} (h:∀p∈l,-Mx≤p.d∧p.d≤Mx):∀p∈l.take k,-Mx≤p.d∧p.d≤Mx:=fun p hp=>h p (ωy hp)
theorem Ur (i:AK) (hn:i.po.length≤256) (hb:∀p∈i.po,-Mx≤p.d∧p.d≤Mx):AO Tryz.prog 171 [.d (As i)] (AF (Us i)):=by
 refine BB Tryz.func171 Z Z Tryz.ntmps171 Z Z Z fun F hF=>(AC (AE ?_));refine V (Bz 1 Z Z Z Z Z Z Z) (AB Z Z (AD (AC (AE (V (Pb 2 Z Z Z Z) (AB Z Z (AD (AC ?_))))))));refine AC (AE (J (A4 Z Ho Z Z Z) (J (A9 Z Z Z XX Z) (J (CO Z Tryz.underlying52 Z) (goMv Z Z (AD (A5 (B7 (α:=Nat×List (List UInt8×Int)) (fun q=>⟨33,[(3,(.map 2 0)),(10,(.d (.sl none (i.po.map CG)))),(11,(.d (AF (i.po.length:Int)))),(12,(.d (AF (q.1:Int))))],[(2,[BL Ao AF q.2])]⟩) (fun q=>q.1≤i.po.length∧VE (i.po.take q.1) q.2) (fun q=>i.po.length - q.1) ((0,[])) (⟨ς _,⟨by simp,by simp [CK,A7],by simp,by simp⟩⟩) (A1 hF [2] Z Z ⟨Z,Z,Z,Z,trivial⟩) ?_))))))));rintro ⟨k,M⟩ ⟨hk0,hM⟩;dsimp only at hk0 hM⊢;refine AC (AE (J (BR Z Z Z) (AD (AC (Ae Z (fun h13=>?_) (fun h13=>?_))))))
 ·have hk1:k<i.po.length:=Bf h13;refine A3 (AC (A5 (AC (AE ?_))));have hbk:=hb _ (κ hk1);have hgb:=Nj (i.po.take k) i.po[k].acc.a (VO hb);rw [←hM.2.1,Υ] at hgb;simp only [Mx] at hbk;refine J (Be (k) Z Z (Z) (Ah hk1) Tryz.underlying52 Z O4 Z) (J (HE Z Z Z0 Z) ?_);refine V (CF 3 O0 Z Z Z Z) (V (Bi Z Z Z Z Z Z Z O4) (AD (AE (goMv Z Z (J (A4 Z Jy Z Z Z) (J (A4 Z NS Z Z Z) (J (A9 Z Z Z iOq Z) (J (HQ (M) (i.po[k].acc.a) (0) _ Z Z Z aW kt9 Nx Z Z) ?_))))))));refine J (A4 Z QV Z Z Z) (J (A9 Z Z Z Ke Z) (J (BA Z Z (Ω _ (by omega)) Z) (V (Tj (M) (i.po[k].acc.a) (A7 M i.po[k].acc.a 0+i.po[k].d) Z Z Z aW kt9 Z Z) (AD (AE (J (BA Z Z (AT (k+1) (by omega)) Z) (goMv Z Z (AD ?_))))))));exact ⟨(k+1,_),⟨by show k+1≤_;omega,by have:=hM.snoc i.po[k];rwa [←φ hk1] at this⟩,by show i.po.length - (k+1)<i.po.length - k;omega,A1 hF [2] Z (Z) ⟨Z,Z,Z,Z,trivial⟩⟩
 ·refine BF (AC (AC ?_));have hM':VE i.po M:=by rw [Θ (by have h:=h13;omega)] at hM;exact hM
  refine AE (goMv Z Z (V (Fy 4 Z Z Z aW Z Z Z Z) (AD (A5 (B7 (α:=List Nat) (fun seen=>⟨33,[(26,(.ptr 4 0 0))],[(4,[.iter 2 0 M.length seen]),(2,[BL Ao AF M])]⟩) (fun seen=>∀x∈M,x∈Bt M (List.range M.length) seen∨x.2=0) (fun seen=>(Bt M (List.range M.length) seen).length) ([]) (fun x hx=> .inl (by rw [DK (by simp)];exact hx)) (A1 hF [4,2] Z Z ⟨Z,trivial⟩) ?_)))));intro seen hI;refine AC (AE (Kf (M) Z Z Z Z (fun hl27=>?_) (fun j27 b27 k27 v27 hm27 hb27 hB27 hp27=>⟨_,Z,?_⟩)))
  ·refine J (Ct Z Z Z) ?_;refine AD (AC (D9 Z Z (BF (AC (AE (AB Z Z (AD (A8 ?_))))))));exact ⟨_,[],[],A6 Z,Z,Z,Ag (bal_ok hM' fun x hx=>(hI x hx).elim (fun h=>by rw [hl27] at h;cases h) id),Z⟩
  ·refine J (Ct Z Z Z) (AD (AC (DP Z Z (A3 (A5 (AC (AE (J (Fz (M) j27 b27 Z Z Z hm27 hb27 Z) ?_))))))));refine J (Ct Z Z Z) (AB Z Z (AD (AC (AE (goMv Z Z (J (D6 Z Z Z) (AD (Ae Z (fun h32=>?_) (fun h32=>?_)))))))))
   ·refine AC (AE (AB Z Z (AD (A8 ?_))));exact ⟨_,[],[],A6 Z,Z,Z,Ag (bal_bad hM' hm27 h32),Z⟩
   ·refine A3 ?_;exact ⟨seen++ [b27],fun x hx=>(hI x hx).elim (fun h=>(Ψ.1 (hp27.mem_iff.1 h)).elim (fun e=> .inr (by rw [e];simpa using h32)) .inl) .inr,by rw [hp27.length_eq];exact χk _,A1 hF [4,2] Z (Z) ⟨Z,trivial⟩⟩
abbrev acc0:Tc:=⟨[],0,[]⟩
abbrev Ie (p:FQ):AP:=⟨0,p.acc,[],[]⟩
abbrev Dg (f t:List UInt8):AP:=⟨1,acc0,f,t⟩
abbrev Ez (f:List UInt8):AP:=⟨2,acc0,f,[]⟩
def c6 (M:List (AP×Int)) (x:AP×Int):List (AP×Int):=Aw M x.1 (A7 M x.1 0+x.2)
def KF (l:List FQ):List (AP×Int):=l.map fun p=>(Ie p,p.d)
def Sy (p:OF):List (AP×Int):=[(Dg p.f p.t,-p.n),(Dg p.t p.f,p.n),(Ez p.f,-p.n),(Ez p.t,p.n)]
def Na (l:List OF):List (AP×Int):=l.flatMap Sy
def ctr (i:AK):List (AP×Int):=KF i.po++Na i.pa
def sumL (l:List (AP×Int)):List (AP×Int):=l.foldl c6 []
def Ap (l:List (AP×Int)) (r:AP):Int:=(l.map fun x=>if x.1=r then x.2 else 0).sum
theorem Uz (l:List (AP×Int)) (x:AP×Int):sumL (l++ [x])=c6 (sumL l) x:=by simp [sumL]
theorem OR (l m:List (AP×Int)) (r:AP):Ap (l++m) r=Ap l r+Ap m r:=by simp [Ap]
theorem Uk (x:AP×Int) (r:AP):Ap [x] r=if x.1=r then x.2 else 0:=by simp [Ap]
theorem YU {α:Type} {p:List α ->Prop} (h0:p []) (h1:∀l x,p l ->p (l++ [x])) (l:List α):p l:=by
 have:∀m:List α,p m.reverse:=fun m=>by
  induction m with
  | nil=>exact h0
  | cons x r ih=>rw [List.reverse_cons];exact h1 _ _ ih
 have:=this l.reverse
 rwa [List.reverse_reverse] at this
theorem JQ (l:List (AP×Int)) (r:AP):A7 (sumL l) r 0=Ap l r:=by
 revert r
 refine YU (p:=fun l=>∀r,A7 (sumL l) r 0=Ap l r) (fun r=>rfl) (fun l x ih r=>?_) l;rw [Uz,c6,He,OR,Uk]
 split
 ·rename_i h;rw [ih,h,θ rfl]
 ·rename_i h;rw [ih,ϑ (fun e=>h e.symm)];omega
theorem Es (l:List (AP×Int)):((sumL l).map Prod.fst).Nodup:=
 YU (p:=fun l=>((sumL l).map Prod.fst).Nodup) (by simp [sumL]) (fun l x ih=>by rw [Uz];exact Mu ih) l
theorem IH (l:List (AP×Int)) (r:AP):r∈(sumL l).map Prod.fst↔r∈l.map Prod.fst:=by
 refine YU (p:=fun l=>r∈(sumL l).map Prod.fst↔r∈l.map Prod.fst) (by simp [sumL]) (fun l x ih=>?_) l;rw [Uz,c6,mem_put,ih]
 simp [or_comm]
def Qm (l:List (AP×Int)):Prop:=∀x∈l,-1000000000000000≤x.2∧x.2≤1000000000000000
theorem Gs {l:List (AP×Int)} (h:Qm l) (r:AP): -(l.length*1000000000000000)≤Ap l r∧Ap l r≤l.length*1000000000000000:=by
 induction l with
 | nil=>simp [Ap]
 | cons x l ih=>
  have h1:=ih fun q hq=>h q (by simp [hq]);have h2:=h x (by simp);have e:Ap (x::l) r=(if x.1=r then x.2 else 0)+Ap l r:=by simp [Ap]
  have e2:((x::l).length:Int)=l.length+1:=by simp
  rw [e,e2]
  split<;>omega
structure ItmB (i:AK):Prop where
 po:i.po.length≤256
 pa:i.pa.length≤256
 af:i.af.length≤256
 d:∀p∈i.po,-Mx≤p.d∧p.d≤Mx
 n:∀p∈i.pa,0≤p.n∧p.n≤Mx
theorem LY (l:List OF):(Na l).length=4*l.length:=by
 induction l with
 | nil=>rfl
 | cons p r ih=>simp only [Na,List.flatMap_cons,Δ,ψo] at ih⊢;rw [ih];simp [Sy];omega
theorem bnd_P {l:List FQ} (h:∀p∈l,-Mx≤p.d∧p.d≤Mx):Qm (KF l):=fun x hx=>by
 obtain ⟨p,hp,rfl⟩:=ϱ.1 hx;have:=h p hp;simp only [Mx] at this;exact this
theorem bnd_1 {p:OF} (h:0≤p.n∧p.n≤Mx):Qm (Sy p):=fun x hx=>by
 simp only [Mx] at h;simp only [Sy,Ψ,List.not_mem_nil,or_false] at hx;rcases hx with rfl | rfl | rfl | rfl<;>simp only<;>omega
theorem bnd_Y {l:List OF} (h:∀p∈l,0≤p.n∧p.n≤Mx):Qm (Na l):=fun x hx=>by
 obtain ⟨p,hp,hx⟩:=χs.1 hx;exact bnd_1 (h p hp) x hx
theorem Qm.append {l m:List (AP×Int)} (h:Qm l) (h':Qm m):Qm (l++m):=fun x hx=>(υ.1 hx).elim (h x) (h' x)
theorem Qm.take {l:List (AP×Int)} (h:Qm l) (k:Nat):Qm (l.take k):=fun x hx=>h x (ωy hx)
theorem Er {l:List (AP×Int)} (h:Qm l) (hl:l.length≤2000) (r:AP): -2000000000000000000≤A7 (sumL l) r 0∧A7 (sumL l) r 0≤2000000000000000000:=by
 have:=Gs h r;rw [JQ];omega
theorem Xv {l:List FQ} {k:Nat} (hk:k<l.length):KF (l.take (k+1))=KF (l.take k)++ [(Ie l[k],l[k].d)]:=by
 simp only [KF];rw [φ hk,ωc];rfl
theorem Xu {l:List OF} {k:Nat} (hk:k<l.length):Na (l.take (k+1))=Na (l.take k)++Sy l[k]:=by
 simp only [Na];rw [φ hk,List.flatMap_append];simp
def st1 (M:List (AP×Int)) (p:OF):List (AP×Int):=Aw M (Dg p.f p.t) (A7 M (Dg p.f p.t) 0 - p.n)
def st2 (M:List (AP×Int)) (p:OF):List (AP×Int):=Aw M (Dg p.t p.f) (A7 M (Dg p.t p.f) 0+p.n)
def st3 (M:List (AP×Int)) (p:OF):List (AP×Int):=Aw M (Ez p.f) (A7 M (Ez p.f) 0 - p.n)
def st4 (M:List (AP×Int)) (p:OF):List (AP×Int):=Aw M (Ez p.t) (A7 M (Ez p.t) 0+p.n)
theorem ZI {l:List (AP×Int)} {p:OF} {M:List (AP×Int)} (h:M=sumL l):st1 M p=sumL (l++ [(Dg p.f p.t,-p.n)])∧st2 (st1 M p) p=sumL (l++ [(Dg p.f p.t,-p.n),(Dg p.t p.f,p.n)])∧st3 (st2 (st1 M p) p) p=sumL (l++ [(Dg p.f p.t,-p.n),(Dg p.t p.f,p.n),(Ez p.f,-p.n)])∧st4 (st3 (st2 (st1 M p) p) p) p=sumL (l++Sy p):=by
 subst h;have e:∀(l:List (AP×Int)) (x:AP×Int) (r:List (AP×Int)),l++x::r=(l++ [x])++r:=by simp
 refine ⟨?_,?_,?_,?_⟩
 ·rw [Uz];rfl
 ·rw [e,Uz,Uz];rfl
 ·rw [e,e,Uz,Uz,Uz];rfl
 ·rw [Sy,e,e,e,Uz,Uz,Uz,Uz];rfl
theorem ZE {l:List (AP×Int)} {p:OF} {M:List (AP×Int)} (h:M=sumL l) (hb:Qm l) (hl:l.length≤1900) (hp:0≤p.n∧p.n≤Mx) (r:AP):(-2000000000000000000≤A7 M r 0∧A7 M r 0≤2000000000000000000)∧(-2000000000000000000≤A7 (st1 M p) r 0∧A7 (st1 M p) r 0≤2000000000000000000)∧(-2000000000000000000≤A7 (st2 (st1 M p) p) r 0∧A7 (st2 (st1 M p) p) r 0≤2000000000000000000)∧(-2000000000000000000≤A7 (st3 (st2 (st1 M p) p) p) r 0∧A7 (st3 (st2 (st1 M p) p) p) r 0≤2000000000000000000):=by
 obtain ⟨e1,e2,e3,_⟩:=ZI (p:=p) h;have hb4:=bnd_1 hp;rw [e3,e2,e1,h];refine ⟨Er hb (by omega) r,Er (hb.append fun x hx=>hb4 x ?_) (by simp;omega) r,Er (hb.append fun x hx=>hb4 x ?_) (by simp;omega) r,Er (hb.append fun x hx=>hb4 x ?_) (by simp;omega) r⟩
 all_goals
  simp only [Sy,Ψ,List.not_mem_nil,or_false] at hx⊢
  first
   | exact .inl hx
   | exact hx.elim .inl fun h=> .inr (.inl h)
   | exact hx.elim .inl fun h=>h.elim (fun h=> .inr (.inl h)) fun h=> .inr (.inr (.inl h))
set_option maxHeartbeats 1000000 in
theorem Ph (i:AK) (hi:ItmB i):AM Tryz.prog 125 [.d (As i)] [] fun r H'=>r= .map 2 0∧H'=[(2,[BL C1 AF (sumL (ctr i))])]:=by
 have hpo:=hi.po;have hpa:=hi.pa;refine BB Tryz.func125 Z Z Tryz.ntmps125 Z Z Z fun F hF=>(AC (AE ?_));refine V (Bz 1 Z Z Z Z Z Z Z) (AB Z Z (AD (AC (AE (V (Pb 2 Z Z Z Z) (AB Z Z (AD (AC ?_))))))));refine AC (AE (J (A4 Z Ho Z Z Z) (J (A9 Z Z Z XX Z) (J (CO Z Tryz.underlying52 Z) (goMv Z Z (AD (A5 (B7 (α:=Nat×List (AP×Int)) (fun q=>⟨80,[(1,(.ptr 1 0 0)),(3,(.map 2 0)),(10,(.d (.sl none (i.po.map CG)))),(11,(.d (AF (i.po.length:Int)))),(12,(.d (AF (q.1:Int))))],[(2,[BL C1 AF q.2]),(1,[.blk 55 [.d (AF i.id),.d (AF i.pr),.d (AF i.sq),.d (.sl none (i.po.map CG)),.d (.sl none (i.pa.map Fm)),.d (.sl none (i.af.map AF))]])]⟩) (fun q=>q.1≤i.po.length∧q.2=sumL (KF (i.po.take q.1))) (fun q=>i.po.length - q.1) ((0,[])) (⟨ς _,Z⟩) (A1 hF [2,1] Z Z ⟨Z,Z,Z,Z,Z,trivial⟩) ?_))))))));rintro ⟨k,M⟩ ⟨hk0,hM⟩;dsimp only at hk0 hM⊢;refine AC (AE (J (BR Z Z Z) (AD (AC (Ae Z (fun h13=>?_) (fun h13=>?_))))))
 ·have hk1:k<i.po.length:=Bf h13;refine A3 (AC (A5 (AC (AE ?_))));have hbk:=hi.d _ (κ hk1);simp only [Mx] at hbk;have hgb:=Er (l:=KF (i.po.take k)) (bnd_P (VO hi.d)) (by simp [KF];omega) (Ie i.po[k]);rw [←hM] at hgb;refine J (Be (k) Z Z (Z) (Ah hk1) Tryz.underlying52 Z O4 Z) (J (HE Z Z Z0 Z) (V (CF 3 O0 Z Z Z Z) (V (Bi Z Z Z Z Z Z Z O4) (AD (Ch [[],[],[1],[1,2],[0,1,2,3],[],[5],[0,1,2,3,4,5,6],[0,1,2,3,5,6],[0,1,2,3,5,6,8],[0,1,2,3,4,5,6,7,8,9]] mixed Z (Xq 2 ([BL C1 AF (BY M (Ie i.po[k]) 0)]) Z ?_))))));refine AJ [3] [] Z Z (fun _=>AG (Ak Z Z)) (AJ [5] [] Z Z (fun _=>AG (A4 Z Jy Z Z Z)) (Av [17] Z Z (fun _=>AG (BM Z Z rw62 Z Z Z)) (AJ [18] [] Z Z (fun _=>AG (FZ KP Rg Z Z Z)) (I0 [16,19] [] Z Z Z (fun _=>AG (HQ (M) (Ie i.po[k]) (0) _ Z Z Z Bv CJ Nx Z Z)) (fun _=>AG (HQ (BY (M) (Ie i.po[k]) (0)) (Ie i.po[k]) (0) _ Z Z Z Bv CJ Nx (Dl _ _ _ _) Z)) (AJ [5] [] Z Z (fun _=>AG (A4 Z QV Z Z Z)) (Av [21] Z Z (fun _=>AG (A9 Z Z Z Ke Z)) (AJ [20,22] [] Z Z (fun _=>AG (BA Z Z (Ω _ (by omega)) Z)) (Gv [16,19] [2] [(24,_)] Z Z (fun _=>Gw (GX (M) (Ie i.po[k]) (0) Z Z Z Bv CJ Nx Z Z)) (.inr ⟨24,_,Z,Z,Z,Z,Z⟩) Z Z Z Z Z ?_ (hCn:=P7 Z)))))))));refine AJ [24] [] Z Z (fun _=>AG (Ct Z Z Z)) (C5 10 Z Z Z (Af 11 Z Z (V (GZ (M) (Ie i.po[k]) (0) (A7 M (Ie i.po[k]) 0+i.po[k].d) Z Z Z CJ Z Z) (AD ⟨Z,?_⟩))));refine C9 (AE (J (BA Z Z (AT (k+1) (by omega)) Z) (goMv Z Z (AD ?_))));exact ⟨(k+1,_),⟨by show k+1≤_;omega,by show _=sumL (KF (i.po.take (k+1)));rw [Xv hk1,Uz,←hM];rfl⟩,by show i.po.length - (k+1)<i.po.length - k;omega,A1 hF [2,1] Z (Z) ⟨Z,Z,Z,Z,Z,trivial⟩⟩
 ·refine BF (AC (AC ?_));have hM0:M=sumL (KF i.po++Na (i.pa.take 0)):=by rw [hM,Θ (by have h:=h13;omega)];simp [Na]
  refine AE (J (A4 Z JC Z Z Z) (J (A9 Z Z Z aA Z) (J (CO Z Tryz.underlying53 Z) (goMv Z Z (AD (A5 (B7 (α:=Nat×List (AP×Int)) (fun q=>⟨80,[(3,(.map 2 0)),(28,(.d (.sl none (i.pa.map Fm)))),(29,(.d (AF (i.pa.length:Int)))),(30,(.d (AF (q.1:Int))))],[(2,[BL C1 AF q.2])]⟩) (fun q=>q.1≤i.pa.length∧q.2=sumL (KF i.po++Na (i.pa.take q.1))) (fun q=>i.pa.length - q.1) ((0,M)) (⟨ς _,hM0⟩) (A1 hF [2] Z Z ⟨Z,Z,Z,Z,trivial⟩) ?_)))))));rintro ⟨m,N⟩ ⟨hm0,hN⟩;dsimp only at hm0 hN⊢;refine AC (AE (J (BR Z Z Z) (AD (AC (Ae Z (fun h31=>?_) (fun h31=>?_))))))
  ·have hm1:m<i.pa.length:=Bf h31;refine A3 (AC (A5 (AC (AE ?_))));have hbm:=hi.n _ (κ hm1);have hsm:=ZE hN ((bnd_P hi.d).append (bnd_Y fun q hq=>hi.n q (ωy hq))) (by rw [Δ,LY];simp [KF];omega) hbm;simp only [Mx] at hbm;refine J (Be (m) Z Z (Z) (Ah hm1) Tryz.underlying53 Z VT Z) (J (HE Z Z rw161 Z) (V (CF 4 zl161 Z Z Z Z) (V (Bi Z Z Z Z Z Z Z VT) (AD (AC (Ch [[],[],[1],[],[3],[1,2,3,4],[0,1,2,3,4,5],[],[7],[0,1,2,3,4,5,6,7,8],[0,1,2,3,4,5,7,8],[0,1,2,3,4,5,7,8,10],[0,1,2,3,4,5,6,7,8,9,10,11]] mixed Z (Xq 2 ([BL C1 AF (BY N (Dg i.pa[m].f i.pa[m].t) 0)]) Z ?_)))))));refine AJ [3] [] Z Z (fun _=>AG (Ak Z Z)) (AJ [7] [] Z Z (fun _=>AG (A4 Z Jx Z Z Z)) (Av [35] Z Z (fun _=>AG (A9 Z Z Z iOq Z)) (AJ [7] [] Z Z (fun _=>AG (A4 Z Jw Z Z Z)) (Av [37] Z Z (fun _=>AG (A9 Z Z Z iOq Z)) (AJ [36,38] [] Z Z (fun _=>AG (FZ KP Rg Z Z Z)) (I0 [34,39] [] Z Z Z (fun _=>AG (HQ (N) (Dg i.pa[m].f i.pa[m].t) (0) _ Z Z Z Bv CJ Nx Z Z)) (fun _=>AG (HQ (BY (N) (Dg i.pa[m].f i.pa[m].t) (0)) (Dg i.pa[m].f i.pa[m].t) (0) _ Z Z Z Bv CJ Nx (Dl _ _ _ _) Z)) (AJ [7] [] Z Z (fun _=>AG (A4 Z Jv Z Z Z)) (Av [41] Z Z (fun _=>AG (A9 Z Z Z Ke Z)) ?_))))))));have g:=(hsm (Dg i.pa[m].f i.pa[m].t)).1;refine AJ [40,42] [] Z Z (fun _=>AG (LH Z Z (Ω _ (by omega)) Z)) (Gv [34,39] [2] [(44,_)] Z Z (fun _=>Gw (GX (N) (Dg i.pa[m].f i.pa[m].t) (0) Z Z Z Bv CJ Nx Z Z)) (.inr ⟨44,_,Z,Z,Z,Z,Z⟩) Z Z Z Z Z ?_ (hCn:=P7 Z));refine AJ [44] [] Z Z (fun _=>AG (Ct Z Z Z)) (C5 12 Z Z Z (Af 13 Z Z (V (GZ (N) (Dg i.pa[m].f i.pa[m].t) (0) (A7 N (Dg i.pa[m].f i.pa[m].t) 0 - i.pa[m].n) Z Z Z CJ Z Z) (AD ⟨Z,?_⟩))));refine C9 (AC (Ch [[],[],[1],[],[3],[1,2,3,4],[0,1,2,3,4,5],[],[7],[0,1,2,3,4,5,6,7,8],[0,1,2,3,4,5,7,8],[0,1,2,3,4,5,7,8,10],[0,1,2,3,4,5,6,7,8,9,10,11]] mixed Z (Xq 2 ([BL C1 AF (BY (st1 N i.pa[m]) (Dg i.pa[m].t i.pa[m].f) 0)]) Z ?_)));refine AJ [3] [] Z Z (fun _=>AG (Ak Z Z)) (AJ [7] [] Z Z (fun _=>AG (A4 Z Jw Z Z Z)) (Av [47] Z Z (fun _=>AG (A9 Z Z Z iOq Z)) (AJ [7] [] Z Z (fun _=>AG (A4 Z Jx Z Z Z)) (Av [49] Z Z (fun _=>AG (A9 Z Z Z iOq Z)) (AJ [48,50] [] Z Z (fun _=>AG (FZ KP Rg Z Z Z)) (I0 [46,51] [] Z Z Z (fun _=>AG (HQ (st1 N i.pa[m]) (Dg i.pa[m].t i.pa[m].f) (0) _ Z Z Z Bv CJ Nx Z Z)) (fun _=>AG (HQ (BY (st1 N i.pa[m]) (Dg i.pa[m].t i.pa[m].f) (0)) (Dg i.pa[m].t i.pa[m].f) (0) _ Z Z Z Bv CJ Nx (Dl _ _ _ _) Z)) (AJ [7] [] Z Z (fun _=>AG (A4 Z Jv Z Z Z)) (Av [53] Z Z (fun _=>AG (A9 Z Z Z Ke Z)) ?_))))))));have g:=(hsm (Dg i.pa[m].t i.pa[m].f)).2.1;refine AJ [52,54] [] Z Z (fun _=>AG (BA Z Z (Ω _ (by omega)) Z)) (Gv [46,51] [2] [(56,_)] Z Z (fun _=>Gw (GX (st1 N i.pa[m]) (Dg i.pa[m].t i.pa[m].f) (0) Z Z Z Bv CJ Nx Z Z)) (.inr ⟨56,_,Z,Z,Z,Z,Z⟩) Z Z Z Z Z ?_ (hCn:=P7 Z));refine AJ [56] [] Z Z (fun _=>AG (Ct Z Z Z)) (C5 12 Z Z Z (Af 13 Z Z (V (GZ (st1 N i.pa[m]) (Dg i.pa[m].t i.pa[m].f) (0) (A7 (st1 N i.pa[m]) (Dg i.pa[m].t i.pa[m].f) 0+i.pa[m].n) Z Z Z CJ Z Z) (AD ⟨Z,?_⟩))));refine C9 (AC ?_);refine Ch [[],[],[1],[1,2],[0,1,2,3],[],[5],[0,1,2,3,4,5,6],[0,1,2,3,5,6],[0,1,2,3,5,6,8],[0,1,2,3,4,5,6,7,8,9]] mixed Z (Xq 2 ([BL C1 AF (BY (st2 (st1 N i.pa[m]) i.pa[m]) (Ez i.pa[m].f) 0)]) Z (AJ [3] [] Z Z (fun _=>AG (Ak Z Z)) (AJ [7] [] Z Z (fun _=>AG (A4 Z Jx Z Z Z)) (Av [59] Z Z (fun _=>AG (A9 Z Z Z iOq Z)) (AJ [60] [] Z Z (fun _=>AG (FZ KP Rg Z Z Z)) (I0 [58,61] [] Z Z Z (fun _=>AG (HQ (st2 (st1 N i.pa[m]) i.pa[m]) (Ez i.pa[m].f) (0) _ Z Z Z Bv CJ Nx Z Z)) (fun _=>AG (HQ (BY (st2 (st1 N i.pa[m]) i.pa[m]) (Ez i.pa[m].f) (0)) (Ez i.pa[m].f) (0) _ Z Z Z Bv CJ Nx (Dl _ _ _ _) Z)) (AJ [7] [] Z Z (fun _=>AG (A4 Z Jv Z Z Z)) (Av [63] Z Z (fun _=>AG (A9 Z Z Z Ke Z)) ?_))))))));have g:=(hsm (Ez i.pa[m].f)).2.2.1;refine AJ [62,64] [] Z Z (fun _=>AG (LH Z Z (Ω _ (by omega)) Z)) (Gv [58,61] [2] [(66,_)] Z Z (fun _=>Gw (GX (st2 (st1 N i.pa[m]) i.pa[m]) (Ez i.pa[m].f) (0) Z Z Z Bv CJ Nx Z Z)) (.inr ⟨66,_,Z,Z,Z,Z,Z⟩) Z Z Z Z Z ?_ (hCn:=P7 Z));refine AJ [66] [] Z Z (fun _=>AG (Ct Z Z Z)) (C5 10 Z Z Z (Af 11 Z Z (V (GZ (st2 (st1 N i.pa[m]) i.pa[m]) (Ez i.pa[m].f) (0) (A7 (st2 (st1 N i.pa[m]) i.pa[m]) (Ez i.pa[m].f) 0 - i.pa[m].n) Z Z Z CJ Z Z) (AD ⟨Z,?_⟩))));refine C9 ?_;refine Ch [[],[],[1],[1,2],[0,1,2,3],[],[5],[0,1,2,3,4,5,6],[0,1,2,3,5,6],[0,1,2,3,5,6,8],[0,1,2,3,4,5,6,7,8,9]] mixed Z (Xq 2 ([BL C1 AF (BY (st3 (st2 (st1 N i.pa[m]) i.pa[m]) i.pa[m]) (Ez i.pa[m].t) 0)]) Z (AJ [3] [] Z Z (fun _=>AG (Ak Z Z)) (AJ [7] [] Z Z (fun _=>AG (A4 Z Jw Z Z Z)) (Av [69] Z Z (fun _=>AG (A9 Z Z Z iOq Z)) (AJ [70] [] Z Z (fun _=>AG (FZ KP Rg Z Z Z)) (I0 [68,71] [] Z Z Z (fun _=>AG (HQ (st3 (st2 (st1 N i.pa[m]) i.pa[m]) i.pa[m]) (Ez i.pa[m].t) (0) _ Z Z Z Bv CJ Nx Z Z)) (fun _=>AG (HQ (BY (st3 (st2 (st1 N i.pa[m]) i.pa[m]) i.pa[m]) (Ez i.pa[m].t) (0)) (Ez i.pa[m].t) (0) _ Z Z Z Bv CJ Nx (Dl _ _ _ _) Z)) (AJ [7] [] Z Z (fun _=>AG (A4 Z Jv Z Z Z)) (Av [73] Z Z (fun _=>AG (A9 Z Z Z Ke Z)) ?_))))))));have g:=(hsm (Ez i.pa[m].t)).2.2.2;refine AJ [72,74] [] Z Z (fun _=>AG (BA Z Z (Ω _ (by omega)) Z)) (Gv [68,71] [2] [(76,_)] Z Z (fun _=>Gw (GX (st3 (st2 (st1 N i.pa[m]) i.pa[m]) i.pa[m]) (Ez i.pa[m].t) (0) Z Z Z Bv CJ Nx Z Z)) (.inr ⟨76,_,Z,Z,Z,Z,Z⟩) Z Z Z Z Z ?_ (hCn:=P7 Z));refine AJ [76] [] Z Z (fun _=>AG (Ct Z Z Z)) (C5 10 Z Z Z (Af 11 Z Z (V (GZ (st3 (st2 (st1 N i.pa[m]) i.pa[m]) i.pa[m]) (Ez i.pa[m].t) (0) (A7 (st3 (st2 (st1 N i.pa[m]) i.pa[m]) i.pa[m]) (Ez i.pa[m].t) 0+i.pa[m].n) Z Z Z CJ Z Z) (AD ⟨Z,?_⟩))));refine C9 (AE (J (BA Z Z (AT (m+1) (by omega)) Z) (goMv Z Z (AD ?_))));exact ⟨(m+1,_),⟨by show m+1≤_;omega,by show _=sumL (KF i.po++Na (i.pa.take (m+1)));rw [Xu hm1,←ψl];exact (ZI hN).2.2.2⟩,by show i.pa.length - (m+1)<i.pa.length - m;omega,A1 hF [2] Z (Z) ⟨Z,Z,Z,Z,trivial⟩⟩
  ·refine BF (AC (AE (goMv Z Z (AB Z Z (AD (A8 ?_))))));exact ⟨_,[2],_,A6 Z,Z,Z,Z,by rw [hN,Θ (by have h:=h31;omega)]<;>rfl⟩
end Go.Proofs.YteifpcnphnhaoaaGreat
