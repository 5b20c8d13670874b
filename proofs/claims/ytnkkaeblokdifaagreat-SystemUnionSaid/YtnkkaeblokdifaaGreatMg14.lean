/- Laws as rows: arguments opened by their types, and a contract over frozen data. -/
import Derived.Test.YtnkkaeblokdifaaGreatMg13
import Derived.SizedLaws
namespace Go.Proofs.YtnkkaeblokdifaaGreat
open Go.ChangeShapes Go.WideShapes Go.ChangeAt Go.RowKit Go.Deep
abbrev noB:Nat ->Prop:=fun _=>False
def TI (w:World) (d:D) (cs:List Value):Prop:=cs.length=d.cells.length∧(∀c∈d.cells,c.one=true)∧∀(j:Nat) c u,d.cells[j]?=some c ->cs[j]?=some u ->AY w noB c u
theorem J2 {w:World} {d:D} {u:Value} (hd:d.one=true) (h:AY w noB d u):TI w d [u]:=by
 rw [TI,D.cells_one hd];refine ⟨rfl,by simp [hd],fun j c u' hc hu=>?_⟩
 cases j with
 | zero=>simp at hc hu;subst hc hu;exact h
 | succ j=>simp at hc
theorem TI.argS {w:World} {ρ:Nat ->Nat ->Value} {O:Nat ->Prop} {ds:List D} {cs:Array Value} (hO:O=noB) (h:TI w (.agg ds) (Value.agg cs).cells.toList):A1 w O ρ (.d (.agg ds)) (.agg cs):=by
 subst hO;obtain ⟨h1,h2,h3⟩:=h;have:=AY.agg (w:=w) (O:=noB) (cs:=ds) (vs:=cs.toList) h1 h2 h3;exact .d (by simpa using this)
section
variable {H:Type} {enc:TypeId×Value ->H} {P:Program} {w:World}
def CM {α:Type} (enc:TypeId×Value ->H) (P:Program) (w:World) (t:TypeId) (k:Nat) (emb:α ->D) (Q:α ->Prop):Prop:=
 ∀fuel cs x,DataW.trod enc P w 0 (fun _=>true) true fuel t cs=some x ->(∀p∈x.2,p.block<w.heap.size) ->(∀n∈x.1.weights P t,n≤reachBytes) ->∃a,Q a∧(emb a).cells.length=k∧TI w (emb a) cs
theorem Ll {e:TypeId} {l:List (DataW H)} {d:DataW H} (hd:d∈l) {n:Nat} (hn:n∈d.weights P e):n∈DataW.weightsAll P e l:=by
 induction l with
 | nil=>cases hd
 | cons a r ih=>
  simp only [DataW.weightsAll,List.mem_append];rcases List.mem_cons.1 hd with rfl | hd
  ·exact .inl hn
  ·exact .inr (ih hd)
theorem openInt {t:TypeId} {k:IntKind} (ht:P.underlying t=some (.int k)):CM enc P w t 1 (fun z:Int=> .raw (.int k z)) (fun z=>k.min≤z∧z≤k.max):=fun fuel cs x h _ _=>by
 obtain ⟨z,rfl,_,hw⟩:=DataW.trod_int ht h;simp only [Lit.wf,Bool.and_eq_true,decide_eq_true_eq] at hw;exact ⟨z,hw,rfl,J2 rfl (.raw rfl)⟩
theorem openStr {t:TypeId} (ht:P.underlying t=some .string):CM enc P w t 1 (fun s:ByteArray=> .raw (.string s)) (fun s=>s.size≤140737488351232):=fun fuel cs x h _ hw=>by
 obtain ⟨s,rfl,rfl,hs⟩:=DataW.trod_string ht h;exact ⟨s,by simpa [DataW.weights,reachBytes] using hw,rfl,J2 rfl (.raw rfl)⟩
theorem ML {α:Type} {t e:TypeId} {k b:Nat} {emb:α ->D} {Q:α ->Prop} (ht:P.underlying t=some (.slice e)) (hk:P.cellsOf e=k) (hk0:0<k) (hb:P.bytesOf e=b) (hO:CM enc P w e k emb Q):CM enc P w t 1 (fun l:List α=> .sl none (l.map emb)) (fun l=>(∀a∈l,Q a)∧l.length*b≤140737488351232):=fun fuel cs x h hlt hwt=>by
 rcases open_slice ht h with ⟨rfl,rfl⟩ | ⟨a,len,cap,m,n,Dd,Pl,rfl,_,hl,hm,hmm,rfl,hi⟩
 ·refine ⟨[],⟨by simp,by simp⟩,rfl,J2 rfl (.sl k (fun b hb=>by cases hb) (fun _=>rfl) rfl (Nat.le_refl _) (Nat.zero_le _) (by simp) (by simp) (fun b o e=>by cases e))⟩
 ·simp only [if_true] at hmm;subst hmm
  have hall:∀i,i<len ->∃y:α,Q y∧(emb y).cells.length=k∧∃cs':List Value,TI w (emb y) cs'∧∀j,j<k ->w.cell? ((a.add (i*k)).add j)=cs'[j]?:=by
   intro i hil;obtain ⟨cs',hc,ht'⟩:=hi i (by omega)
   obtain ⟨y,hq,hyk,hr⟩:=hO _ _ _ ht' (fun p hp=>hlt p (by
    simp only [List.mem_append,List.mem_flatMap,List.mem_range]
    exact .inr ⟨i,by omega,hp⟩)) (fun n hn=>hwt n (by
    simp only [DataW.weights,ht,List.mem_cons,List.mem_append]
    exact .inr (.inl (Ll (List.mem_map.2 ⟨i,List.mem_range.2 hil,rfl⟩) hn))))
   obtain ⟨_,hlen,hat⟩:=World.cells?_some hc;rw [hk] at hat;exact ⟨y,hq,hyk,cs',hr,hat⟩
  obtain ⟨l,hln,hlq⟩:=list_of len hall;refine ⟨l,⟨fun y hy=>?_,?_⟩,rfl,J2 rfl (.sl k (fun b hb=>by cases hb) (fun e=>by cases e) (by rw [List.length_map];exact hln) hl hm (fun x hx=>?_) (fun hne=>?_) (fun b o e i x hx=>?_))⟩
  ·obtain ⟨i,hi',rfl⟩:=List.getElem_of_mem hy;exact (hlq i _ (List.getElem?_eq_getElem hi')).1
  ·have h1:=hwt ((len+(m - len))*P.bytesOf e) (by simp [DataW.weights,ht]);rw [hb] at h1;have h2:=Nat.mul_le_mul_right b (show l.length≤len+(m - len) by omega);have h3:reachBytes=140737488351232:=rfl;omega
  ·obtain ⟨y,hy,rfl⟩:=List.mem_map.1 hx;obtain ⟨i,hi',rfl⟩:=List.getElem_of_mem hy;exact (hlq i _ (List.getElem?_eq_getElem hi')).2.1
  ·have h0:0<l.length:=by
    cases l with
    | nil=>exact absurd rfl hne
    | cons _ _=>simp
   obtain ⟨_,h1,cs',h2,h3⟩:=hlq 0 _ (List.getElem?_eq_getElem h0);have h4:=h3 0 hk0;have hlen:cs'.length=k:=by rw [h2.1,h1]
   rw [List.getElem?_eq_getElem (by omega)] at h4;have:a.spot=none:=by simpa [Addr.add] using World.cell?_spot h4
   exact ⟨a.block,a.off,by cases a;simp_all⟩
  ·rw [List.getElem?_map] at hx
   cases hy:l[i]? with
   | none=>rw [hy] at hx;cases hx
   | some y=>
    rw [hy] at hx;injection hx with hx
    subst hx;obtain ⟨hq,h1,cs',h2,h3⟩:=hlq i y hy;injection e with e
    subst e;have hlen:cs'.length=k:=by rw [h2.1,h1]
    have hil:i<len:=by rw [←hln];exact (List.getElem?_eq_some_iff.1 hy).1
    have hin:∀j,j<k ->w.cell? ⟨b,o+i*k+j,none⟩=cs'[j]?:=fun j hj=>by
     have:=h3 j hj
     rwa [Go.WideShapes.add_plain,Go.WideShapes.add_plain] at this
    refine .ptr (fun j=>cs'.getD j undef) ?_ (fun h=>h) h2.2.1 (fun j c hc=>?_) (fun j c hc=>?_)
    ·have hmem:MemPlace.cell b (o+i*k)∈MemPlace.row ⟨b,o,none⟩ (m*P.cellsOf e):=MemPlace.mem_row.2 ⟨i*k,by
      rw [hk];have:(i+1)*k≤m*k:=Nat.mul_le_mul_right _ (by omega)
      rw [Nat.add_mul] at this;omega,rfl⟩
     exact hlt _ (List.mem_append_left _ hmem)
    ·have hj:j<k:=by rw [←h1];exact (List.getElem?_eq_some_iff.1 hc).1
     rw [hin j hj,List.getD_eq_getElem?_getD,List.getElem?_eq_getElem (by omega)];rfl
    ·have hj:j<k:=by rw [←h1];exact (List.getElem?_eq_some_iff.1 hc).1
     rw [List.getD_eq_getElem?_getD,List.getElem?_eq_getElem (by omega)];exact h2.2.2 j c _ hc (List.getElem?_eq_getElem (by omega))
def Pq {α:Type} (enc:TypeId×Value ->H) (P:Program) (w:World) (off total:Nat) (fs:List Field) (emb:α ->List D) (Q:α ->Prop):Prop:=
 ∀n (cs:List Value),cs.length=total ->(∀(i:Nat) f,fs[i]?=some f ->∃x,DataW.trod enc P w 0 (fun _=>true) true n f.type ((cs.drop f.offset).take (P.cellsOf f.type))=some x∧(∀p∈x.2,p.block<w.heap.size)∧∀n∈x.1.weights P f.type,n≤reachBytes)→
  ∃a,Q a∧off+(emb a).length=total∧(∀c∈emb a,c.one=true)∧∀(j:Nat) c u,(emb a)[j]?=some c ->cs[off+j]?=some u ->AY w noB c u
theorem Ih {total:Nat}:Pq enc P w total total [] (fun _:Unit=> []) (fun _=>True):=fun n cs _ _=>⟨(),trivial,rfl,by simp,by simp⟩
theorem Bn {α β:Type} {off k total:Nat} {f:Field} {fs:List Field} {emb:α ->D} {embs:β ->List D} {Q:α ->Prop} {Qs:β ->Prop} (ho:f.offset=off) (hk:P.cellsOf f.type=k) (h1:CM enc P w f.type k emb Q) (h2:Pq enc P w (off+k) total fs embs Qs):
  Pq enc P w off total (f::fs) (fun a:α×β=>(emb a.1).cells++embs a.2) (fun a=>Q a.1∧Qs a.2):=fun n cs hcs hf=>by
 obtain ⟨x,hx,hp,hwt⟩:=hf 0 f rfl;obtain ⟨a,q1,q2,q3⟩:=h1 _ _ _ hx hp hwt;obtain ⟨b,r1,r2,r3,r4⟩:=h2 n cs hcs (fun i g hg=>hf (i+1) g (by simpa using hg));rw [ho,hk] at q3;refine ⟨(a,b),⟨q1,r1⟩,by simp only [List.length_append,q2];omega,fun c hc=>?_,fun j c u hc hu=>?_⟩
 ·rcases List.mem_append.1 hc with hc | hc
  ·exact q3.2.1 c hc
  ·exact r3 c hc
 ·rcases Nat.lt_or_ge j k with hj | hj
  ·rw [List.getElem?_append_left (by rw [q2];exact hj)] at hc;exact q3.2.2 j c u hc (by rw [List.getElem?_take,if_pos hj,List.getElem?_drop];exact hu)
  ·rw [List.getElem?_append_right (by rw [q2];exact hj),q2] at hc;exact r4 (j - k) c u hc (by rw [show off+k+(j - k)=off+j by omega];exact hu)
theorem Ig {α:Type} {t:TypeId} {fs:Array Field} {k:Nat} {embs:α ->List D} {Q:α ->Prop} (ht:P.underlying t=some (.struct fs)) (hk:P.cellsOf t=k) (h:Pq enc P w 0 k fs.toList embs Q):CM enc P w t k (fun a=> .agg (embs a)) Q:=fun fuel cs x hx hlt hwt=>by
 obtain ⟨xs,n,_,rfl,hl,hlen,hf⟩:=DataW.trod_struct ht hx
 obtain ⟨a,q1,q2,q3,q4⟩:=h n cs (by rw [hl,hk]) (fun i f hi=>by
  have hi':fs[i]?=some f:=by simpa using hi
  have hlt':i<xs.length:=by rw [hlen];exact (Array.getElem?_eq_some_iff.1 hi').1
  refine ⟨xs[i],by rw [hf i f hi'];exact List.getElem?_eq_getElem hlt',fun p hp=>hlt p (List.mem_flatMap.2 ⟨_,List.getElem_mem hlt',hp⟩),fun n hn=>hwt n ?_⟩;simp only [DataW.weights,ht]
  refine DataW.weights_mem_each (j:=i) (t:=f.type) (d:=xs[i].1) (by rw [List.getElem?_map];simp [hi']) (by rw [List.getElem?_map,List.getElem?_eq_getElem hlt'];rfl) n hn)
 rw [Nat.zero_add] at q2;exact ⟨a,q1,q2,by show cs.length=_;rw [hl,hk];exact q2.symm,q3,fun j c u hc hu=>q4 j c u hc (by rw [Nat.zero_add];exact hu)⟩
theorem CM.as {α β:Type} {t:TypeId} {k:Nat} {emb:α ->D} {Q:α ->Prop} {emb':β ->D} {Q':β ->Prop} (h:CM enc P w t k emb Q) (f:α ->β) (he:∀a,emb a=emb' (f a)) (hq:∀a,Q a ->Q' (f a)):CM enc P w t k emb' Q':=fun fuel cs x hx hlt hwt=>by
 obtain ⟨a,h1,h2,h3⟩:=h fuel cs x hx hlt hwt;exact ⟨f a,hq a h1,by rw [←he];exact h2,by rw [←he];exact h3⟩
end
theorem VQ {P:Program} {f:FuncId} {args:List AV} (h:AT P f args (.raw (.bool true))) {w:World} {vs:List Value} (hl:vs.length=args.length) (hr:∀(i:Nat) a v,args[i]?=some a ->vs[i]?=some v ->A1 w noB (fun _ _=>undef) a v):
  Calls P f vs.toArray w fun e w'=>e= .returned (.bool true)∧Below w.heap.size w w':=by
 have hno:∀ρ b,¬Aq ρ [] b:=fun ρ b ⟨_,_,_,h,_⟩=>by cases h
 let ρ:Nat ->Nat ->Value:=fun _ _=>undef
 let F:Fr:=Fr.mk none w.heap.size w noB (Aq ρ []) (C8 ρ []) (fun b hb=>hb.elim) [] (fun _ _ _ h=>D3 h)
 have hO:F.O ρ []=noB:=funext fun b=>propext ⟨fun h=>h.elim id fun h=>(hno ρ b h).elim,fun h=>h.elim⟩
 have hheap:BT F [] ρ w:=⟨(fun f i o ho=>by cases ho),(fun f i f' i' o o' b ho=>by cases ho),fun b hb=>(hno ρ b hb).elim,rfl,rfl,rfl,Nat.le_refl _,fun _ _ _=>rfl,fun f i b hb=>ZcY hb,Nat.le_refl _⟩
 refine (h.2 F ρ vs Z Z ⟨rfl,rfl,rfl⟩ hheap hl (fun i a v ha hv=>by rw [hO];exact hr i a v ha hv)).mono fun e w' ⟨v,r,H',ρ',e1,⟨e2,e3⟩,hrep,hh'⟩=>?_;subst e1 e2 e3;refine ⟨?_,hh'.os,hh'.tape,hh'.output,hh'.size0,fun b hlt=>hh'.keep b hlt (hno ρ b)⟩
 cases hrep with
 | d hrep=>
  cases hrep with
  | raw _=>rfl
end Go.Proofs.YtnkkaeblokdifaaGreat
/- Openers under other words. No program in sight. -/
namespace Go.Proofs.YtnkkaeblokdifaaGreat
open Go.ChangeShapes Go.WideShapes Go.ChangeAt Go.RowKit
section
variable {H:Type} {enc:TypeId×Value ->H} {P:Program} {w:World}
theorem CM.asQ {α β:Type} {t:TypeId} {k:Nat} {emb:α ->D} {Q:α ->Prop} {emb':β ->D} {Q':β ->Prop} (h:CM enc P w t k emb Q) (f:α ->β) (he:∀a,Q a ->emb a=emb' (f a)) (hq:∀a,Q a ->Q' (f a)):CM enc P w t k emb' Q':=fun fuel cs x hx hlt hwt=>by
 obtain ⟨a,h1,h2,h3⟩:=h fuel cs x hx hlt hwt;exact ⟨f a,hq a h1,by rw [←he a h1];exact h2,by rw [←he a h1];exact h3⟩
theorem Tk {t:TypeId} (ht:P.underlying t=some (.int .i64)):CM enc P w t 1 (fun n:Int=> .raw (.int .i64 n)) (fun n=> -9223372036854775808≤n∧n≤9223372036854775807):=
 (openInt ht).asQ id (fun _ _=>rfl) (fun _ h=>h)
theorem Wz {t:TypeId} (ht:P.underlying t=some .string):CM enc P w t 1 Al (fun l=>l.length≤140737488351232):=
 (openStr ht).asQ (fun s=>s.data.toList) (fun a _=>rfl) (fun a h=>by simpa using h)
end
end Go.Proofs.YtnkkaeblokdifaaGreat
/- The data of layer 28, and how they lie in memory. -/
namespace Go.Proofs.YtnkkaeblokdifaaGreat
open Go.RowKit
set_option maxRecDepth 100000
abbrev AF (z:Int):D:= .raw (.int .i64 z)
structure Ok where
 o:List UInt8
 k:Int
 a:List UInt8
structure A5 where
 k:Int
 acc:Ok
 f:List UInt8
 t:List UInt8
structure Ee where
 acc:Ok
 d:Int
structure NJ where
 f:List UInt8
 t:List UInt8
 n:Int
structure AU where
 id:Int
 pr:Int
 sq:Int
 po:List Ee
 pa:List NJ
 af:List Int
structure Roo where
 r:A5
 n:Int
structure Prb where
 ro:List Roo
 it:List AU
theorem Ok.eq_iff {x y:Ok}:x=y↔x.o=y.o∧x.k=y.k∧x.a=y.a:=by cases x;cases y;simp
instance:DecidableEq Ok:=fun _ _=>decidable_of_iff _ Ok.eq_iff.symm
theorem A5.eq_iff {x y:A5}:x=y↔x.k=y.k∧x.acc=y.acc∧x.f=y.f∧x.t=y.t:=by cases x;cases y;simp
instance:DecidableEq A5:=fun _ _=>decidable_of_iff _ A5.eq_iff.symm
abbrev accD (x:Ok):D:= .agg [Al x.o,AF x.k,Al x.a]
abbrev E1 (x:A5):D:= .agg [AF x.k,Al x.acc.o,AF x.acc.k,Al x.acc.a,Al x.f,Al x.t]
abbrev C7 (x:Ee):D:= .agg [Al x.acc.o,AF x.acc.k,Al x.acc.a,AF x.d]
abbrev Gl (x:NJ):D:= .agg [Al x.f,Al x.t,AF x.n]
abbrev BC (x:AU):D:= .agg [AF x.id,AF x.pr,AF x.sq,.sl none (x.po.map C7),.sl none (x.pa.map Gl),.sl none (x.af.map AF)]
abbrev F6 (x:Roo):D:= .agg [AF x.r.k,Al x.r.acc.o,AF x.r.acc.k,Al x.r.acc.a,Al x.r.f,Al x.r.t,AF x.n]
abbrev CT (x:Prb):D:= .agg [.sl none (x.ro.map F6),.sl none (x.it.map BC)]
def Uo (x:A5):List Value:=[.int .i64 x.k,IF x.acc.o,.int .i64 x.acc.k,IF x.acc.a,IF x.f,IF x.t]
def Rd (x:Ok):List Value:=[IF x.o,.int .i64 x.k,IF x.a]
abbrev rscT:List TypeDesc:=[.int .i64,.string,.int .i64,.string,.string,.string]
abbrev accT:List TypeDesc:=[.string,.int .i64,.string]
theorem It (a b:Int):Mq (.int .i64 a) (.int .i64 b)=decide (a=b):=by
 simp only [Mq];exact Bool.beq_eq_decide_eq a b
theorem Is (a b:List UInt8):Mq (IF a) (IF b)=decide (a=b):=by
 simp only [Mq,IF,←beq_toListBytes,O7]
theorem rsc_eqC (a b:A5):BX (Uo a) (Uo b)=decide (a=b):=by
 simp only [Uo,BX,It,Is,A5.eq_iff,Ok.eq_iff,Bool.and_true,Bool.decide_and,Bool.and_assoc]
theorem UV (a b:Ok):BX (Rd a) (Rd b)=decide (a=b):=by
 simp only [Rd,BX,It,Is,Ok.eq_iff,Bool.and_true,Bool.decide_and]
theorem Rn {d:TypeDesc} {ds:List TypeDesc} {u:Value} {us:List Value} (h:MapKept.IsKey d u) (hr:BJ ds us):BJ (d::ds) (u::us):=
 ⟨by simp [hr.1],fun i d' u' hd hu=>by
  cases i with
  | zero=>simp at hd hu;subst hd hu;exact h
  | succ i=>exact hr.2 i d' u' (by simpa using hd) (by simpa using hu)⟩
theorem K0:BJ [] []:=⟨rfl,by simp⟩
theorem Un (a:A5):BJ rscT (Uo a):=Rn rfl (Rn trivial (Rn rfl (Rn trivial (Rn trivial (Rn trivial K0)))))
theorem ID (a:Ok):BJ accT (Rd a):=Rn trivial (Rn rfl (Rn trivial K0))
theorem rsc_val (a:A5):(E1 a).val?=some (.agg (Uo a).toArray):=rfl
theorem DQ:Bl Tryz.prog 53 E1 (fun a=> .agg (Uo a).toArray):=Bl.flat (ds:=rscT) (by kernel_rfl) (by kernel_rfl) rsc_val Un rsc_eqC
theorem R3 {fs:List (Nat×Option (List AL))} {f:Nat} {c1 c2:List AL} (h:BR fs f=some (some c2)):∀g c,BR fs g=some c ->C2 f c1 c2 g c:=fun g c hg e=>by
 subst e;rw [h] at hg;injection hg with hg;exact .inr hg.symm
theorem W8 {p q:Prop} [Decidable p] [Decidable q] (h:p↔q):AV.d (.raw (.bool (decide p)))= .d (.raw (.bool (decide q))):=by rw [decide_eq_decide.2 h]
theorem retT {q:Prop} [Decidable q] (h:q):AV.d (.raw (.bool true))= .d (.raw (.bool (decide q))):=by rw [decide_eq_true h]
theorem PH {q:Prop} [Decidable q] (h:¬q):AV.d (.raw (.bool false))= .d (.raw (.bool (decide q))):=by rw [decide_eq_false h]
theorem Ak {a b:Int} (h:a=b):AV.d (.raw (.int .i64 a))= .d (.raw (.int .i64 b)):=by rw [h]
theorem Ad (n:Nat) (h:n≤9223372036854775807):IntKind.i64.wrap (n:Int)=(n:Int):=IntWalk.i64_in _ (by omega)
theorem Gw (n lo hi:Int):AT Tryz.prog 65 [.d (AF n),.d (AF lo),.d (AF hi)] (.raw (.bool (decide (lo≤n∧n≤hi)))):=by
 refine B6 Tryz.func65 Z Z Tryz.ntmps65 Z Z Z fun F hF=>(AG ?_);refine AJ (AD Z Z (AI (AG (AJ (AC Z Z (AC Z Z (J (KM Z Z Z) (AC Z Z ?_))))))))
 first | refine JH 10 rfl (fun h10=>?_) (fun h10=>?_) | refine IW 10 rfl (fun h10=>?_) (fun h10=>?_)
 ·refine A9 Z Z Z ?_;refine AC Z Z (A9 Z Z Z (AC Z Z (A9 Z Z Z (J (SB Z Z Z) (J (DX Z Z Z Z) (AD Z Z (AI (Af ?_))))))));exact ⟨_,[],[],Ae rfl,rfl,rfl,by first | exact W8 (by omega) | exact PH (by omega),rfl⟩
 ·refine Ac Z Z Z Z (Ac Z Z Z Z (Ac Z Z Z Z (J (EG Z Z Z Z) (AD Z Z (AI (Af ?_))))));exact ⟨_,[],[],Ae rfl,rfl,rfl,by first | exact W8 (by omega) | exact PH (by omega),rfl⟩
theorem GR (n lo hi:Int):AT Tryz.prog 41 [.d (AF n),.d (AF lo),.d (AF hi)] (.raw (.bool (decide (lo≤n∧n≤hi)))):=by
 refine B6 Tryz.func41 Z Z Tryz.ntmps41 Z Z Z fun F hF=>(AG ?_);refine AJ (AD Z Z (AI (AG (AJ (AC Z Z (AC Z Z (J (KM Z Z Z) (AC Z Z ?_))))))))
 first | refine JH 10 rfl (fun h10=>?_) (fun h10=>?_) | refine IW 10 rfl (fun h10=>?_) (fun h10=>?_)
 ·refine A9 Z Z Z ?_;refine AC Z Z (A9 Z Z Z (AC Z Z (A9 Z Z Z (J (SB Z Z Z) (J (DX Z Z Z Z) (AD Z Z (AI (Af ?_))))))));exact ⟨_,[],[],Ae rfl,rfl,rfl,by first | exact W8 (by omega) | exact PH (by omega),rfl⟩
 ·refine Ac Z Z Z Z (Ac Z Z Z Z (Ac Z Z Z Z (J (EG Z Z Z Z) (AD Z Z (AI (Af ?_))))));exact ⟨_,[],[],Ae rfl,rfl,rfl,by first | exact W8 (by omega) | exact PH (by omega),rfl⟩
theorem XS (n:Int):AT Tryz.prog 135 [.d (AF n)] (.raw (.bool false)):=by
 refine B6 Tryz.func135 Z Z Tryz.ntmps135 Z Z Z fun F hF=>(AG (AJ (AD Z Z (AI (AG (AJ (AC Z Z (AC Z Z ?_))))))))
 first | refine J (Ec Z Z Z) ?_ | refine J (Eb Z Z Z) ?_ | refine J (EV Z Z Z) ?_ | refine J (E8 Tryz.underlying3 Z Z Z) ?_ | refine J (Ea Tryz.underlying3 Z Z Z) ?_ | refine J (st_neqN Tryz.underlying3 Z Z) ?_ | refine J (E9 Tryz.underlying3 Z Z Z) ?_ | refine J (st_neqFN Tryz.underlying3 Z Z) ?_
 refine AD Z Z (AI (Af ?_));exact ⟨_,[],[],Ae rfl,rfl,rfl,by simp,rfl⟩
theorem XT (l:List UInt8):AT Tryz.prog 136 [.d (Al l)] (.raw (.bool false)):=by
 refine B6 Tryz.func136 Z Z Tryz.ntmps136 Z Z Z fun F hF=>(AG (AJ (AD Z Z (AI (AG (AJ (AC Z Z (AC Z Z ?_))))))))
 first | refine J (Ec Z Z Z) ?_ | refine J (Eb Z Z Z) ?_ | refine J (EV Z Z Z) ?_ | refine J (E8 Tryz.underlying9 Z Z Z) ?_ | refine J (Ea Tryz.underlying9 Z Z Z) ?_ | refine J (st_neqN Tryz.underlying9 Z Z) ?_ | refine J (E9 Tryz.underlying9 Z Z Z) ?_ | refine J (st_neqFN Tryz.underlying9 Z Z) ?_
 refine AD Z Z (AI (Af ?_));exact ⟨_,[],[],Ae rfl,rfl,rfl,by simp,rfl⟩
def Dc (a b:Int):Int:=if a<b then -1 else if b<a then 1 else 0
def OM (a b:List UInt8):Bool:=Op.bytesLess a b
def E6 (a b:List UInt8):Int:=if OM a b=true then -1 else if OM b a=true then 1 else 0
theorem FY (a b:List UInt8):Op.bytesLess (⟨a.toArray⟩:ByteArray).toList (⟨b.toArray⟩:ByteArray).toList=OM a b:=by rw [Lib.toList_data,Lib.toList_data];rfl
theorem Iw (a b:Int):AT Tryz.prog 74 [.d (AF a),.d (AF b)] (AF (Dc a b)):=by
 refine B6 Tryz.func74 Z Z Tryz.ntmps74 Z Z Z fun F hF=>(AG (AJ (AD Z Z (AI (AG (AJ (AC Z Z (J (BO (XS a) Z Z) ?_))))))));refine AD Z Z (AI (AG (AJ (AC Z Z (J (BO (XS b) Z Z) (AD Z Z (AI (AG ?_))))))));refine AG (AJ (AC Z Z (AI (F4 rfl (rfl) (An (AG (AG (AJ ?_))))))));refine AC Z Z (AI (F4 rfl (rfl) (An (AG (AG (AJ (AC Z Z (AC Z Z ?_))))))))
 first | refine J (Cc Z Z Z) ?_ | refine J (Cb Z Z Z) ?_
 refine AI ?_
 first | refine BP rfl (fun h16=>?_) (fun h16=>?_) | refine BK rfl (fun h16=>?_) (fun h16=>?_)
 ·refine AG (AJ (AD Z Z (AI (Af ?_))));exact ⟨_,[],[],Ae rfl,rfl,rfl,by first | exact Ak (by unfold Dc;rw [if_pos (by assumption)]) | exact Ak (by unfold Dc;rw [if_neg (by assumption),if_pos (by omega)]) | exact Ak (by unfold Dc;rw [if_neg (by assumption),if_neg (by omega)]),rfl⟩
 ·refine An (AG (AG (AJ (AC Z Z (AC Z Z ?_)))))
  first | refine J (DZ Z Z Z) ?_ | refine J (C5 Z Z Z) ?_
  refine AI ?_
  first | refine BP rfl (fun h19=>?_) (fun h19=>?_) | refine BK rfl (fun h19=>?_) (fun h19=>?_)
  ·refine AG (AJ (AD Z Z (AI (Af ?_))));exact ⟨_,[],[],Ae rfl,rfl,rfl,by first | exact Ak (by unfold Dc;rw [if_pos (by assumption)]) | exact Ak (by unfold Dc;rw [if_neg (by assumption),if_pos (by omega)]) | exact Ak (by unfold Dc;rw [if_neg (by assumption),if_neg (by omega)]),rfl⟩
  ·refine An (AG (AJ (AD Z Z (AI (Af ?_)))));exact ⟨_,[],[],Ae rfl,rfl,rfl,by first | exact Ak (by unfold Dc;rw [if_pos (by assumption)]) | exact Ak (by unfold Dc;rw [if_neg (by assumption),if_pos (by omega)]) | exact Ak (by unfold Dc;rw [if_neg (by assumption),if_neg (by omega)]),rfl⟩
theorem Iv (a b:List UInt8):AT Tryz.prog 75 [.d (Al a),.d (Al b)] (AF (E6 a b)):=by
 refine B6 Tryz.func75 Z Z Tryz.ntmps75 Z Z Z fun F hF=>(AG (AJ (AD Z Z (AI (AG (AJ (AC Z Z (J (BO (XT a) Z Z) ?_))))))));refine AD Z Z (AI (AG (AJ (AC Z Z (J (BO (XT b) Z Z) (AD Z Z (AI (AG ?_))))))));refine AG (AJ (AC Z Z (AI (F4 rfl (rfl) (An (AG (AG (AJ ?_))))))));refine AC Z Z (AI (F4 rfl (rfl) (An (AG (AG (AJ (AC Z Z (AC Z Z ?_))))))))
 first | refine J (Cc Z Z Z) ?_ | refine J (Cb Z Z Z) ?_
 refine AI ?_
 first | refine BP rfl (fun h16=>?_) (fun h16=>?_) | refine BK rfl (fun h16=>?_) (fun h16=>?_)
 ·rw [FY] at h16;refine AG (AJ (AD Z Z (AI (Af ?_))));exact ⟨_,[],[],Ae rfl,rfl,rfl,by first | exact Ak (by unfold E6;rw [if_pos h16]) | exact Ak (by unfold E6;rw [if_neg (by rw [h16];decide),if_pos h19]) | exact Ak (by unfold E6;rw [if_neg (by rw [h16];decide),if_neg (by rw [h19];decide)]),rfl⟩
 ·rw [FY] at h16;refine An (AG (AG (AJ (AC Z Z (AC Z Z ?_)))))
  first | refine J (DZ Z Z Z) ?_ | refine J (C5 Z Z Z) ?_
  refine AI ?_
  first | refine BP rfl (fun h19=>?_) (fun h19=>?_) | refine BK rfl (fun h19=>?_) (fun h19=>?_)
  ·rw [FY] at h19;refine AG (AJ (AD Z Z (AI (Af ?_))));exact ⟨_,[],[],Ae rfl,rfl,rfl,by first | exact Ak (by unfold E6;rw [if_pos h16]) | exact Ak (by unfold E6;rw [if_neg (by rw [h16];decide),if_pos h19]) | exact Ak (by unfold E6;rw [if_neg (by rw [h16];decide),if_neg (by rw [h19];decide)]),rfl⟩
  ·rw [FY] at h19;refine An (AG (AJ (AD Z Z (AI (Af ?_)))));exact ⟨_,[],[],Ae rfl,rfl,rfl,by first | exact Ak (by unfold E6;rw [if_pos h16]) | exact Ak (by unfold E6;rw [if_neg (by rw [h16];decide),if_pos h19]) | exact Ak (by unfold E6;rw [if_neg (by rw [h16];decide),if_neg (by rw [h19];decide)]),rfl⟩
abbrev Mx:Int:=1000000000000000
def Bi:List Int ->Int
 | []=>0
 | e::r=>if e=0 then Bi r else e
theorem V2 {α:Type} {l:List α} {f:α ->Int} {k:Nat} (hk:k<l.length):Bi ((l.drop k).map f)=if f l[k]=0 then Bi ((l.drop (k+1)).map f) else f l[k]:=by
 rw [List.drop_eq_getElem_cons hk];rfl
theorem Fy {α:Type} {l:List α} {f:α ->Int} {k:Nat} (hk:¬k<l.length):Bi ((l.drop k).map f)=0:=by
 rw [List.drop_of_length_le (by omega)];rfl
theorem D8 {α:Type} {l:List α} {f:α ->Int} {k:Nat} {E:Int} (hk:k<l.length) (h:E=Bi ((l.drop k).map f)):(f l[k]=0 ->E=Bi ((l.drop (k+1)).map f))∧∀e,f l[k]=e ->e≠0 ->e=E:=by
 rw [V2 hk] at h;exact ⟨fun h0=>by rw [h,if_pos h0],fun e h1 h2=>by rw [h,if_neg (by rw [h1];exact h2),h1]⟩
def Q4 (p:Ee):Int:=if p.acc.o=[]∨p.acc.a=[] then 6 else if ¬(0≤p.acc.k∧p.acc.k≤4) then 11 else if ¬(-Mx≤p.d∧p.d≤Mx) then 12 else 0
def Py (p:NJ):Int:=if p.f=[]∨p.t=[] then 6 else if p.f=p.t then 7 else if ¬(0≤p.n∧p.n≤Mx) then 2 else 0
def Vl (id:Int) (l:List Int) (k:Nat):Int:=if ¬(0≤l.getD k 0∧l.getD k 0≤1000000000) then 2 else if l.getD k 0=id∨l.getD k 0∈l.take k then 7 else 0
def Nz (i:AU):Int:=Bi (i.po.map Q4)
def Ux (i:AU):Int:=Bi (i.pa.map Py)
def aftE (i:AU):Int:=Bi ((List.range i.af.length).map (Vl i.id i.af))
def CL (l:List Ee) (a:List UInt8):Int:=(l.map fun p=>if p.acc.a=a then p.d else 0).sum
def Sz (i:AU):Int:=if ∃p∈i.po,CL i.po p.acc.a≠0 then 14 else 0
theorem Jc {α:Type} {l:List α} {x:α} {k:Nat} (hk:k<l.length) (h:x∉l.take k) (hne:x≠l[k]):x∉l.take (k+1):=by
 rw [List.take_succ_eq_append_getElem hk,List.mem_append]
 simp [h,hne]
theorem Qk {α:Type} {l:List α} {x:α} {k:Nat} (hk:¬k<l.length) (h:x∉l.take k):x∉l:=by
 rwa [List.take_of_length_le (by omega)] at h
def Xa (x:Int) (l:List Int):Int:=if x∈l then (l.idxOf x:Int) else -1
theorem Xk {l:List Int} {x:Int} {k:Nat} (hk:k<l.length) (h:x∉l.take k) (he:x=l[k]):Xa x l=(k:Int):=by
 unfold Xa;rw [if_pos (by rw [he];exact List.getElem_mem hk)];have h1:l=l.take k++l[k]::l.drop (k+1):=by rw [←List.drop_eq_getElem_cons hk,List.take_append_drop]
 rw [h1,List.idxOf_append,if_neg h,he,List.idxOf_cons_self]
 simp;omega
theorem Ty (l:List Int) (x:Int) (hn:l.length≤140737488355328):AT Tryz.prog 91 [.d (.sl none (l.map AF)),.d (AF x)] (AF (Xa x l)):=by
 refine B6 Tryz.func91 Z Z Tryz.ntmps91 Z Z Z fun F hF=>(AG (AJ (AD Z Z (AI (AG (AG (AJ (AC Z Z ?_))))))))
 first | refine J (Co rfl Tryz.underlying33 rfl) ?_ | refine J (C1 Z Z Tryz.underlying33 rfl) ?_ | refine J (Cp rfl Tryz.underlying33 rfl) ?_ | refine J (Cn rfl Tryz.underlying33 rfl) ?_ | refine J (Ca rfl Tryz.underlying33 rfl) ?_ | refine J (Ck rfl Tryz.underlying33 rfl) ?_
 refine AC Z Z (AI (Aw (EK (α:=Nat) (fun k=>⟨19,[(0,.d (.sl none (l.map AF))),(1,.d (AF x)),(7,(.d (AF (l.length:Int)))),(8,(.d (AF (k:Int))))],[]⟩) (fun k=>k≤l.length∧x∉l.take k) (fun k=>l.length - k) (0) (⟨Nat.zero_le _,by simp⟩) (UX ⟨rfl,rfl,rfl,rfl,trivial⟩) ?_)));rintro k ⟨hk0,hk⟩;refine AG (AJ ?_)
 first | refine J (Cc Z Z Z) ?_ | refine J (Cb Z Z Z) ?_
 refine AI (AG ?_)
 first | refine BP rfl (fun h9=>?_) (fun h9=>?_) | refine BK rfl (fun h9=>?_) (fun h9=>?_)
 ·have hk1:k<l.length:=EF h9;refine An (AG (Aw (AG ?_)));refine AJ (AC Z Z (AD Z Z (AI (AG (AJ (AC Z Z (AC Z Z (AC Z Z ?_))))))))
  first | refine J (Ch (k) Z Z (rfl) (A3 hk1) Tryz.underlying33 rfl Et rfl) ?_ | refine J (Cj (k) Z Z (rfl) (A3 hk1) rfl Tryz.underlying33 Et rfl) ?_
  first | refine J (A0 Z Z Aa rfl) ?_ | refine J (AX Z Z Z Aa rfl) ?_ | refine J (AZ Z Z (rfl) rfl Aa rfl) ?_
  first | refine J (EX Z Z Z) ?_ | refine J (EY Z Z Z) ?_ | refine J (EO Z Z Z) ?_ | refine J (ER Tryz.underlying3 Z Z Z) ?_ | refine J (EU Tryz.underlying3 Z Z Z) ?_ | refine J (ET Tryz.underlying3 Z Z) ?_ | refine J (ES Tryz.underlying3 Z Z Z) ?_ | refine J (EW Tryz.underlying3 Z Z) ?_
  refine AI ?_
  first | refine BP rfl (fun h16=>?_) (fun h16=>?_) | refine BK rfl (fun h16=>?_) (fun h16=>?_)
  ·refine AG (AJ (AC Z Z (AD Z Z (AI (Af ?_)))));exact ⟨_,[],[],Ae rfl,rfl,rfl,Ak (Xk hk1 hk h16).symm,rfl⟩
  ·refine An (AJ (J (By Z Z (Ad (k+1) (by omega)) rfl) (AC Z Z (AI ?_))));exact ⟨k+1,⟨by show k+1≤_;omega,Jc hk1 hk h16⟩,by show l.length - (k+1)<l.length - k;omega,⟨rfl,rfl,fun _ _=>NK.get (l:=[(0,_),(1,_),(7,_),(8,_)]) ⟨rfl,rfl,rfl,rfl,trivial⟩⟩⟩
 ·refine Ct (AG (AJ (AD Z Z (AI (Af ?_)))));exact ⟨_,[],[],Ae rfl,rfl,rfl,Ak (by unfold Xa;rw [if_neg (Qk (by have h:=h9;omega) hk)]),rfl⟩
theorem Sv (l:List Int) (x:Int) (hn:l.length≤140737488355328):AT Tryz.prog 42 [.d (.sl none (l.map AF)),.d (AF x)] (.raw (.bool (decide (x∈l)))):=by
 refine B6 Tryz.func42 Z Z Tryz.ntmps42 Z Z Z fun F hF=>(AG (AJ (AD Z Z (AI ?_))));refine AG (AJ (AC Z Z (AC Z Z (J (BO (Ty l x hn) Z Z) (J (KM Z Z Z) (AD Z Z (AI (Af ?_))))))));exact ⟨_,[],[],Ae rfl,rfl,rfl,W8 (by unfold Xa;split<;>rename_i h<;>simp [h]<;>omega),rfl⟩
theorem SZ (i:AU) (hn:i.po.length≤140737488355328):AT Tryz.prog 66 [.d (BC i)] (AF (Nz i)):=by
 refine B6 Tryz.func66 Z Z Tryz.ntmps66 Z Z Z fun F hF=>(AG (AJ (G (CV 1 Z Z Z Z Z Z Z) (AD Z Z (AI (AG (AG (AJ ?_))))))))
 first | refine J (AO rfl Df Z Z Z) ?_ | refine J (AQ rfl Df Z Z Z) ?_ | refine J (AR rfl Df Z Z Z) ?_ | refine J (AP rfl Df Z Z Z) ?_ | refine J (AN rfl Df Z Z Z) ?_
 first | refine J (A0 Z Z F8 rfl) ?_ | refine J (AX Z Z Z F8 rfl) ?_ | refine J (AZ Z Z (rfl) rfl F8 rfl) ?_
 first | refine J (Co rfl Tryz.underlying46 rfl) ?_ | refine J (C1 Z Z Tryz.underlying46 rfl) ?_ | refine J (Cp rfl Tryz.underlying46 rfl) ?_ | refine J (Cn rfl Tryz.underlying46 rfl) ?_ | refine J (Ca rfl Tryz.underlying46 rfl) ?_ | refine J (Ck rfl Tryz.underlying46 rfl) ?_
 refine AC Z Z (AI (Aw (EN (α:=Nat) (fun k=>⟨35,[(1,(.ptr 1 0 0)),(6,(.d (.sl none (i.po.map C7)))),(7,(.d (AF (i.po.length:Int)))),(8,(.d (AF (k:Int))))],[(1,[.blk 49 [.d (AF i.id),.d (AF i.pr),.d (AF i.sq),.d (.sl none (i.po.map C7)),.d (.sl none (i.pa.map Gl)),.d (.sl none (i.af.map AF))]])]⟩) (fun k=>k≤i.po.length∧Nz i=Bi ((i.po.drop k).map Q4)) (fun k=>i.po.length - k) (0) (⟨Nat.zero_le _,rfl⟩) (BS hF [1] Z Z ⟨rfl,rfl,rfl,rfl,trivial⟩) ?_)));rintro k ⟨hk0,hk⟩;refine AG (AJ ?_)
 first | refine J (Cc Z Z Z) ?_ | refine J (Cb Z Z Z) ?_
 refine AI (AG ?_)
 first | refine BP rfl (fun h9=>?_) (fun h9=>?_) | refine BK rfl (fun h9=>?_) (fun h9=>?_)
 ·have hk1:k<i.po.length:=EF h9;refine An (AG (Aw (AG (AJ ?_))));have hE:=D8 hk1 hk
  first | refine J (Ch (k) Z Z (rfl) (A3 hk1) Tryz.underlying46 rfl JR rfl) ?_ | refine J (Cj (k) Z Z (rfl) (A3 hk1) rfl Tryz.underlying46 JR rfl) ?_
  first | refine J (At Z Z J1 rfl) ?_ | refine J (Au Z Z J1 Z Z Z) ?_ | refine J (Av Z Z (rfl) rfl J1 rfl) ?_
  refine G (DT 2 JL Z Z Z Z) (G (CC Z Z Z Z Z Z Z JR) (AI (Aw (AG (AJ ?_)))))
  first | refine J (AO rfl JK Z Z Z) ?_ | refine J (AQ rfl JK Z Z Z) ?_ | refine J (AR rfl JK Z Z Z) ?_ | refine J (AP rfl JK Z Z Z) ?_ | refine J (AN rfl JK Z Z Z) ?_
  first | refine J (AO rfl JE Z Z Z) ?_ | refine J (AQ rfl JE Z Z Z) ?_ | refine J (AR rfl JE Z Z Z) ?_ | refine J (AP rfl JE Z Z Z) ?_ | refine J (AN rfl JE Z Z Z) ?_
  first | refine J (A0 Z Z Ar rfl) ?_ | refine J (AX Z Z Z Ar rfl) ?_ | refine J (AZ Z Z (rfl) rfl Ar rfl) ?_
  first | refine J (EX Z Z Z) ?_ | refine J (EY Z Z Z) ?_ | refine J (EO Z Z Z) ?_ | refine J (ER Tryz.underlying9 Z Z Z) ?_ | refine J (EU Tryz.underlying9 Z Z Z) ?_ | refine J (ET Tryz.underlying9 Z Z) ?_ | refine J (ES Tryz.underlying9 Z Z Z) ?_ | refine J (EW Tryz.underlying9 Z Z) ?_
  refine AC Z Z ?_
  first | refine JH 17 rfl (fun h17=>?_) (fun h17=>?_) | refine IW 17 rfl (fun h17=>?_) (fun h17=>?_)
  ·refine Ac Z Z Z Z (Ac Z Z Z Z (Ac Z Z Z Z (Ac Z Z Z Z ?_)));refine J (DX Z Z Z Z) (AD Z Z (AI (EL Z Z (AG (AJ (AD Z Z (AI (Af ?_))))))));exact ⟨_,[],[],Ae rfl,rfl,rfl,Ak (hE.2 6 (by unfold Q4;rw [if_pos (.inl h17)]) (by decide)),rfl⟩
  ·refine A9 Z Z Z ?_
   first | refine J (AO rfl JK Z Z Z) ?_ | refine J (AQ rfl JK Z Z Z) ?_ | refine J (AR rfl JK Z Z Z) ?_ | refine J (AP rfl JK Z Z Z) ?_ | refine J (AN rfl JK Z Z Z) ?_
   refine A9 Z Z Z ?_
   first | refine J (AO rfl Hh Z Z Z) ?_ | refine J (AQ rfl Hh Z Z Z) ?_ | refine J (AR rfl Hh Z Z Z) ?_ | refine J (AP rfl Hh Z Z Z) ?_ | refine J (AN rfl Hh Z Z Z) ?_
   refine A9 Z Z Z ?_
   first | refine J (A0 Z Z Ar rfl) ?_ | refine J (AX Z Z Z Ar rfl) ?_ | refine J (AZ Z Z (rfl) rfl Ar rfl) ?_
   refine A9 Z Z Z ?_
   first | refine J (EX Z Z Z) ?_ | refine J (EY Z Z Z) ?_ | refine J (EO Z Z Z) ?_ | refine J (ER Tryz.underlying9 Z Z Z) ?_ | refine J (EU Tryz.underlying9 Z Z Z) ?_ | refine J (ET Tryz.underlying9 Z Z) ?_ | refine J (ES Tryz.underlying9 Z Z Z) ?_ | refine J (EW Tryz.underlying9 Z Z) ?_
   refine J (EG Z Z Z Z) (AD Z Z (AI ?_))
   first | refine BP rfl (fun h12=>?_) (fun h12=>?_) | refine BK rfl (fun h12=>?_) (fun h12=>?_)
   ·refine AG (AJ (AD Z Z (AI (Af ?_))));exact ⟨_,[],[],Ae rfl,rfl,rfl,Ak (hE.2 6 (by unfold Q4;rw [if_pos (.inr h12)]) (by decide)),rfl⟩
   ·refine AG (AJ ?_)
    first | refine J (AO rfl JK Z Z Z) ?_ | refine J (AQ rfl JK Z Z Z) ?_ | refine J (AR rfl JK Z Z Z) ?_ | refine J (AP rfl JK Z Z Z) ?_ | refine J (AN rfl JK Z Z Z) ?_
    first | refine J (AO rfl Hg Z Z Z) ?_ | refine J (AQ rfl Hg Z Z Z) ?_ | refine J (AR rfl Hg Z Z Z) ?_ | refine J (AP rfl Hg Z Z Z) ?_ | refine J (AN rfl Hg Z Z Z) ?_
    first | refine J (A0 Z Z Aa rfl) ?_ | refine J (AX Z Z Z Aa rfl) ?_ | refine J (AZ Z Z (rfl) rfl Aa rfl) ?_
    refine J (BO (Gw _ _ _) Z Z) ?_
    first | refine J (G9 Z Z) ?_ | refine J (GJ Z Z) ?_
    refine AD Z Z (AI ?_)
    first | refine BP rfl (fun h23=>?_) (fun h23=>?_) | refine BK rfl (fun h23=>?_) (fun h23=>?_)
    ·refine AG (AJ (AD Z Z (AI (Af ?_))));exact ⟨_,[],[],Ae rfl,rfl,rfl,Ak (hE.2 11 (by unfold Q4;rw [if_neg (by simp [h17,h12]),if_pos h23]) (by decide)),rfl⟩
    ·refine AG (AJ ?_)
     first | refine J (AO rfl Oa Z Z Z) ?_ | refine J (AQ rfl Oa Z Z Z) ?_ | refine J (AR rfl Oa Z Z Z) ?_ | refine J (AP rfl Oa Z Z Z) ?_ | refine J (AN rfl Oa Z Z Z) ?_
     first | refine J (A0 Z Z Be rfl) ?_ | refine J (AX Z Z Z Be rfl) ?_ | refine J (AZ Z Z (rfl) rfl Be rfl) ?_
     refine J (BO (GR _ _ _) Z Z) ?_
     first | refine J (G9 Z Z) ?_ | refine J (GJ Z Z) ?_
     refine AD Z Z (AI ?_)
     first | refine BP rfl (fun h29=>?_) (fun h29=>?_) | refine BK rfl (fun h29=>?_) (fun h29=>?_)
     ·refine AG (AJ (AD Z Z (AI (Af ?_))));exact ⟨_,[],[],Ae rfl,rfl,rfl,Ak (hE.2 12 (by unfold Q4;rw [if_neg (by simp [h17,h12]),if_neg h23,if_pos h29]) (by decide)),rfl⟩
     ·refine An (AJ (J (By Z Z (Ad (k+1) (by omega)) rfl) (AC Z Z (AI ?_))));exact ⟨k+1,⟨by show k+1≤_;omega,hE.1 (by unfold Q4;rw [if_neg (by simp [h17,h12]),if_neg h23,if_neg h29])⟩,by show i.po.length - (k+1)<i.po.length - k;omega,BS hF [1] rfl (rfl) ⟨rfl,rfl,rfl,rfl,trivial⟩⟩
 ·refine Ct (AG (AJ (AD Z Z (AI (Af ?_)))));exact ⟨_,[],[],Ae rfl,rfl,rfl,Ak (by rw [hk,Fy (by have h:=h9;omega)]),rfl⟩
theorem S3 (i:AU) (hn:i.pa.length≤140737488355328):AT Tryz.prog 67 [.d (BC i)] (AF (Ux i)):=by
 refine B6 Tryz.func67 Z Z Tryz.ntmps67 Z Z Z fun F hF=>(AG (AJ (G (CV 1 Z Z Z Z Z Z Z) (AD Z Z (AI (AG (AG (AJ ?_))))))))
 first | refine J (AO rfl FN Z Z Z) ?_ | refine J (AQ rfl FN Z Z Z) ?_ | refine J (AR rfl FN Z Z Z) ?_ | refine J (AP rfl FN Z Z Z) ?_ | refine J (AN rfl FN Z Z Z) ?_
 first | refine J (A0 Z Z Gn rfl) ?_ | refine J (AX Z Z Z Gn rfl) ?_ | refine J (AZ Z Z (rfl) rfl Gn rfl) ?_
 first | refine J (Co rfl Tryz.underlying47 rfl) ?_ | refine J (C1 Z Z Tryz.underlying47 rfl) ?_ | refine J (Cp rfl Tryz.underlying47 rfl) ?_ | refine J (Cn rfl Tryz.underlying47 rfl) ?_ | refine J (Ca rfl Tryz.underlying47 rfl) ?_ | refine J (Ck rfl Tryz.underlying47 rfl) ?_
 refine AC Z Z (AI (Aw (EN (α:=Nat) (fun k=>⟨33,[(1,(.ptr 1 0 0)),(6,(.d (.sl none (i.pa.map Gl)))),(7,(.d (AF (i.pa.length:Int)))),(8,(.d (AF (k:Int))))],[(1,[.blk 49 [.d (AF i.id),.d (AF i.pr),.d (AF i.sq),.d (.sl none (i.po.map C7)),.d (.sl none (i.pa.map Gl)),.d (.sl none (i.af.map AF))]])]⟩) (fun k=>k≤i.pa.length∧Ux i=Bi ((i.pa.drop k).map Py)) (fun k=>i.pa.length - k) (0) (⟨Nat.zero_le _,rfl⟩) (BS hF [1] Z Z ⟨rfl,rfl,rfl,rfl,trivial⟩) ?_)));rintro k ⟨hk0,hk⟩;refine AG (AJ ?_)
 first | refine J (Cc Z Z Z) ?_ | refine J (Cb Z Z Z) ?_
 refine AI (AG ?_)
 first | refine BP rfl (fun h9=>?_) (fun h9=>?_) | refine BK rfl (fun h9=>?_) (fun h9=>?_)
 ·have hk1:k<i.pa.length:=EF h9;refine An (AG (Aw (AG (AJ ?_))));have hE:=D8 hk1 hk
  first | refine J (Ch (k) Z Z (rfl) (A3 hk1) Tryz.underlying47 rfl Nf rfl) ?_ | refine J (Cj (k) Z Z (rfl) (A3 hk1) rfl Tryz.underlying47 Nf rfl) ?_
  first | refine J (At Z Z Nq rfl) ?_ | refine J (Au Z Z Nq Z Z Z) ?_ | refine J (Av Z Z (rfl) rfl Nq rfl) ?_
  refine G (DT 2 Vu Z Z Z Z) (G (CC Z Z Z Z Z Z Z Nf) (AI (Aw (AG (AJ ?_)))))
  first | refine J (AO rfl GN Z Z Z) ?_ | refine J (AQ rfl GN Z Z Z) ?_ | refine J (AR rfl GN Z Z Z) ?_ | refine J (AP rfl GN Z Z Z) ?_ | refine J (AN rfl GN Z Z Z) ?_
  first | refine J (A0 Z Z Ar rfl) ?_ | refine J (AX Z Z Z Ar rfl) ?_ | refine J (AZ Z Z (rfl) rfl Ar rfl) ?_
  first | refine J (EX Z Z Z) ?_ | refine J (EY Z Z Z) ?_ | refine J (EO Z Z Z) ?_ | refine J (ER Tryz.underlying9 Z Z Z) ?_ | refine J (EU Tryz.underlying9 Z Z Z) ?_ | refine J (ET Tryz.underlying9 Z Z) ?_ | refine J (ES Tryz.underlying9 Z Z Z) ?_ | refine J (EW Tryz.underlying9 Z Z) ?_
  refine AC Z Z ?_
  first | refine JH 16 rfl (fun h16=>?_) (fun h16=>?_) | refine IW 16 rfl (fun h16=>?_) (fun h16=>?_)
  ·refine Ac Z Z Z Z (Ac Z Z Z Z (Ac Z Z Z Z ?_));refine J (DX Z Z Z Z) (AD Z Z (AI (EL Z Z (AG (AJ (AD Z Z (AI (Af ?_))))))));exact ⟨_,[],[],Ae rfl,rfl,rfl,Ak (hE.2 6 (by unfold Py;rw [if_pos (.inl h16)]) (by decide)),rfl⟩
  ·refine A9 Z Z Z ?_
   first | refine J (AO rfl GO Z Z Z) ?_ | refine J (AQ rfl GO Z Z Z) ?_ | refine J (AR rfl GO Z Z Z) ?_ | refine J (AP rfl GO Z Z Z) ?_ | refine J (AN rfl GO Z Z Z) ?_
   refine A9 Z Z Z ?_
   first | refine J (A0 Z Z Ar rfl) ?_ | refine J (AX Z Z Z Ar rfl) ?_ | refine J (AZ Z Z (rfl) rfl Ar rfl) ?_
   refine A9 Z Z Z ?_
   first | refine J (EX Z Z Z) ?_ | refine J (EY Z Z Z) ?_ | refine J (EO Z Z Z) ?_ | refine J (ER Tryz.underlying9 Z Z Z) ?_ | refine J (EU Tryz.underlying9 Z Z Z) ?_ | refine J (ET Tryz.underlying9 Z Z) ?_ | refine J (ES Tryz.underlying9 Z Z Z) ?_ | refine J (EW Tryz.underlying9 Z Z) ?_
   refine J (EG Z Z Z Z) (AD Z Z (AI ?_))
   first | refine BP rfl (fun h12=>?_) (fun h12=>?_) | refine BK rfl (fun h12=>?_) (fun h12=>?_)
   ·refine AG (AJ (AD Z Z (AI (Af ?_))));exact ⟨_,[],[],Ae rfl,rfl,rfl,Ak (hE.2 6 (by unfold Py;rw [if_pos (.inr h12)]) (by decide)),rfl⟩
   ·refine AG (AJ ?_)
    first | refine J (AO rfl GN Z Z Z) ?_ | refine J (AQ rfl GN Z Z Z) ?_ | refine J (AR rfl GN Z Z Z) ?_ | refine J (AP rfl GN Z Z Z) ?_ | refine J (AN rfl GN Z Z Z) ?_
    first | refine J (A0 Z Z Ar rfl) ?_ | refine J (AX Z Z Z Ar rfl) ?_ | refine J (AZ Z Z (rfl) rfl Ar rfl) ?_
    first | refine J (AO rfl GO Z Z Z) ?_ | refine J (AQ rfl GO Z Z Z) ?_ | refine J (AR rfl GO Z Z Z) ?_ | refine J (AP rfl GO Z Z Z) ?_ | refine J (AN rfl GO Z Z Z) ?_
    first | refine J (A0 Z Z Ar rfl) ?_ | refine J (AX Z Z Z Ar rfl) ?_ | refine J (AZ Z Z (rfl) rfl Ar rfl) ?_
    first | refine J (EX Z Z Z) ?_ | refine J (EY Z Z Z) ?_ | refine J (EO Z Z Z) ?_ | refine J (ER Tryz.underlying9 Z Z Z) ?_ | refine J (EU Tryz.underlying9 Z Z Z) ?_ | refine J (ET Tryz.underlying9 Z Z) ?_ | refine J (ES Tryz.underlying9 Z Z Z) ?_ | refine J (EW Tryz.underlying9 Z Z) ?_
    refine AD Z Z (AI ?_)
    first | refine BP rfl (fun h21=>?_) (fun h21=>?_) | refine BK rfl (fun h21=>?_) (fun h21=>?_)
    ·refine AG (AJ (AD Z Z (AI (Af ?_))));exact ⟨_,[],[],Ae rfl,rfl,rfl,Ak (hE.2 7 (by unfold Py;rw [if_neg (by simp [h16,h12]),if_pos h21]) (by decide)),rfl⟩
    ·refine AG (AJ ?_)
     first | refine J (AO rfl FL Z Z Z) ?_ | refine J (AQ rfl FL Z Z Z) ?_ | refine J (AR rfl FL Z Z Z) ?_ | refine J (AP rfl FL Z Z Z) ?_ | refine J (AN rfl FL Z Z Z) ?_
     first | refine J (A0 Z Z Be rfl) ?_ | refine J (AX Z Z Z Be rfl) ?_ | refine J (AZ Z Z (rfl) rfl Be rfl) ?_
     refine J (BO (GR _ _ _) Z Z) ?_
     first | refine J (G9 Z Z) ?_ | refine J (GJ Z Z) ?_
     refine AD Z Z (AI ?_)
     first | refine BP rfl (fun h27=>?_) (fun h27=>?_) | refine BK rfl (fun h27=>?_) (fun h27=>?_)
     ·refine AG (AJ (AD Z Z (AI (Af ?_))));exact ⟨_,[],[],Ae rfl,rfl,rfl,Ak (hE.2 2 (by unfold Py;rw [if_neg (by simp [h16,h12]),if_neg h21,if_pos h27]) (by decide)),rfl⟩
     ·refine An (AJ (J (By Z Z (Ad (k+1) (by omega)) rfl) (AC Z Z (AI ?_))));exact ⟨k+1,⟨by show k+1≤_;omega,hE.1 (by unfold Py;rw [if_neg (by simp [h16,h12]),if_neg h21,if_neg h27])⟩,by show i.pa.length - (k+1)<i.pa.length - k;omega,BS hF [1] rfl (rfl) ⟨rfl,rfl,rfl,rfl,trivial⟩⟩
 ·refine Ct (AG (AJ (AD Z Z (AI (Af ?_)))));exact ⟨_,[],[],Ae rfl,rfl,rfl,Ak (by rw [hk,Fy (by have h:=h9;omega)]),rfl⟩
theorem FU {n k:Nat} {f:Nat ->Int} {E:Int} (hk:k<n) (h:E=Bi (((List.range n).drop k).map f)):(f k=0 ->E=Bi (((List.range n).drop (k+1)).map f))∧∀e,f k=e ->e≠0 ->e=E:=by
 have:=D8 (l:=List.range n) (k:=k) (by simpa using hk) h
 simpa using this
theorem after_p (i:AU) (hn:i.af.length≤140737488355328):AT Tryz.prog 68 [.d (BC i)] (AF (aftE i)):=by
 refine B6 Tryz.func68 Z Z Tryz.ntmps68 Z Z Z fun F hF=>(AG (AJ (G (CV 1 Z Z Z Z Z Z Z) (AD Z Z (AI (AG (AG (AJ ?_))))))))
 first | refine J (AO rfl Ff Z Z Z) ?_ | refine J (AQ rfl Ff Z Z Z) ?_ | refine J (AR rfl Ff Z Z Z) ?_ | refine J (AP rfl Ff Z Z Z) ?_ | refine J (AN rfl Ff Z Z Z) ?_
 first | refine J (A0 Z Z BD rfl) ?_ | refine J (AX Z Z Z BD rfl) ?_ | refine J (AZ Z Z (rfl) rfl BD rfl) ?_
 first | refine J (Co rfl Tryz.underlying33 rfl) ?_ | refine J (C1 Z Z Tryz.underlying33 rfl) ?_ | refine J (Cp rfl Tryz.underlying33 rfl) ?_ | refine J (Cn rfl Tryz.underlying33 rfl) ?_ | refine J (Ca rfl Tryz.underlying33 rfl) ?_ | refine J (Ck rfl Tryz.underlying33 rfl) ?_
 refine AC Z Z (AI (Aw (EN (α:=Nat) (fun k=>⟨31,[(1,(.ptr 1 0 0)),(6,(.d (.sl none (i.af.map AF)))),(7,(.d (AF (i.af.length:Int)))),(8,(.d (AF (k:Int))))],[(1,[.blk 49 [.d (AF i.id),.d (AF i.pr),.d (AF i.sq),.d (.sl none (i.po.map C7)),.d (.sl none (i.pa.map Gl)),.d (.sl none (i.af.map AF))]])]⟩) (fun k=>k≤i.af.length∧aftE i=Bi (((List.range i.af.length).drop k).map (Vl i.id i.af))) (fun k=>i.af.length - k) (0) (⟨Nat.zero_le _,rfl⟩) (BS hF [1] Z Z ⟨rfl,rfl,rfl,rfl,trivial⟩) ?_)));rintro k ⟨hk0,hk⟩;refine AG (AJ ?_)
 first | refine J (Cc Z Z Z) ?_ | refine J (Cb Z Z Z) ?_
 refine AI (AG ?_)
 first | refine BP rfl (fun h9=>?_) (fun h9=>?_) | refine BK rfl (fun h9=>?_) (fun h9=>?_)
 ·have hk1:k<i.af.length:=EF h9;refine An (AG (Aw (AG (AJ ?_))));have hE:=FU hk1 hk;have hg:i.af.getD k 0=i.af[k]:=by simp [hk1]
  refine AC Z Z ?_
  first | refine J (Ch (k) Z Z (rfl) (A3 hk1) Tryz.underlying33 rfl Et rfl) ?_ | refine J (Cj (k) Z Z (rfl) (A3 hk1) rfl Tryz.underlying33 Et rfl) ?_
  first | refine J (A0 Z Z Aa rfl) ?_ | refine J (AX Z Z Z Aa rfl) ?_ | refine J (AZ Z Z (rfl) rfl Aa rfl) ?_
  refine AD Z Z (AD Z Z (AI (Aw (AG (AJ (AC Z Z (J (BO (Gw _ _ _) Z Z) ?_)))))))
  first | refine J (G9 Z Z) ?_ | refine J (GJ Z Z) ?_
  refine AD Z Z (AI ?_)
  first | refine BP rfl (fun h13=>?_) (fun h13=>?_) | refine BK rfl (fun h13=>?_) (fun h13=>?_)
  ·refine AG (AJ (AD Z Z (AI (Af ?_))));exact ⟨_,[],[],Ae rfl,rfl,rfl,Ak (hE.2 2 (by unfold Vl;rw [hg,if_pos h13]) (by decide)),rfl⟩
  ·refine AG (AJ (AC Z Z ?_))
   first | refine J (AO rfl Bq Z Z Z) ?_ | refine J (AQ rfl Bq Z Z Z) ?_ | refine J (AR rfl Bq Z Z Z) ?_ | refine J (AP rfl Bq Z Z Z) ?_ | refine J (AN rfl Bq Z Z Z) ?_
   first | refine J (A0 Z Z Aa rfl) ?_ | refine J (AX Z Z Z Aa rfl) ?_ | refine J (AZ Z Z (rfl) rfl Aa rfl) ?_
   first | refine J (EX Z Z Z) ?_ | refine J (EY Z Z Z) ?_ | refine J (EO Z Z Z) ?_ | refine J (ER Tryz.underlying3 Z Z Z) ?_ | refine J (EU Tryz.underlying3 Z Z Z) ?_ | refine J (ET Tryz.underlying3 Z Z) ?_ | refine J (ES Tryz.underlying3 Z Z Z) ?_ | refine J (EW Tryz.underlying3 Z Z) ?_
   refine AC Z Z ?_
   first | refine JH 22 rfl (fun h22=>?_) (fun h22=>?_) | refine IW 22 rfl (fun h22=>?_) (fun h22=>?_)
   ·refine Ac Z Z Z Z (Ac Z Z Z Z (Ac Z Z Z Z (Ac Z Z Z Z (Ac Z Z Z Z (Ac Z Z Z Z ?_)))));refine J (DX Z Z Z Z) (AD Z Z (AI (EL Z Z (AG (AJ (AD Z Z (AI (Af ?_))))))));exact ⟨_,[],[],Ae rfl,rfl,rfl,Ak (hE.2 7 (by unfold Vl;rw [hg,if_neg h13,if_pos (.inl h22)]) (by decide)),rfl⟩
   ·refine A9 Z Z Z ?_
    first | refine J (AO rfl Ff Z Z Z) ?_ | refine J (AQ rfl Ff Z Z Z) ?_ | refine J (AR rfl Ff Z Z Z) ?_ | refine J (AP rfl Ff Z Z Z) ?_ | refine J (AN rfl Ff Z Z Z) ?_
    refine A9 Z Z Z ?_
    first | refine J (A0 Z Z BD rfl) ?_ | refine J (AX Z Z Z BD rfl) ?_ | refine J (AZ Z Z (rfl) rfl BD rfl) ?_
    refine A9 Z Z Z (AC Z Z ?_);refine A9 Z Z Z (J (Ku (i.af) (k) Z Z Z (rfl) (by omega) Tryz.underlying33 Et (fun _=>rfl) rfl) (A9 Z Z Z (AC Z Z (A9 Z Z Z (J (BO (Sv (i.af.take k) _ (by simp;omega)) Z Z) (J (EG Z Z Z Z) (AD Z Z (AI ?_))))))))
    first | refine BP rfl (fun h17=>?_) (fun h17=>?_) | refine BK rfl (fun h17=>?_) (fun h17=>?_)
    ·refine AG (AJ (AD Z Z (AI (Af ?_))));exact ⟨_,[],[],Ae rfl,rfl,rfl,Ak (hE.2 7 (by unfold Vl;rw [hg,if_neg h13,if_pos (.inr h17)]) (by decide)),rfl⟩
    ·refine An (AJ (J (By Z Z (Ad (k+1) (by omega)) rfl) (AC Z Z (AI ?_))));exact ⟨k+1,⟨by show k+1≤_;omega,hE.1 (by unfold Vl;rw [hg,if_neg h13,if_neg (by simp [h22];exact h17)])⟩,by show i.af.length - (k+1)<i.af.length - k;omega,BS hF [1] rfl (rfl) ⟨rfl,rfl,rfl,rfl,trivial⟩⟩
 ·refine Ct (AG (AJ (AD Z Z (AI (Af ?_)))));exact ⟨_,[],[],Ae rfl,rfl,rfl,Ak (by rw [hk,Fy (by simp;have h:=h9;omega)]),rfl⟩
theorem N6 (l:List Ee) (p:Ee) (a:List UInt8):CL (l++ [p]) a=CL l a+if p.acc.a=a then p.d else 0:=by simp [CL]
theorem NC (l:List Ee) (a:List UInt8) (h:∀p∈l,-Mx≤p.d∧p.d≤Mx): -(l.length*1000000000000000)≤CL l a∧CL l a≤l.length*1000000000000000:=by
 induction l with
 | nil=>simp [CL]
 | cons p r ih=>
  have h1:=ih fun q hq=>h q (by simp [hq]);have h2:=h p (by simp);have e:CL (p::r) a=(if p.acc.a=a then p.d else 0)+CL r a:=by simp [CL]
  rw [e];simp only [Mx] at h2;have e2:((p::r).length:Int)=r.length+1:=by simp
  rw [e2]
  split<;>omega
def TJ (l:List Ee) (M:List (List UInt8×Int)):Prop:=(M.map Prod.fst).Nodup∧(∀a,Ai M a 0=CL l a)∧(∀a,a∈M.map Prod.fst ->∃p∈l,p.acc.a=a)∧∀p∈l,p.acc.a∈M.map Prod.fst
theorem mem_put {α β:Type} [DecidableEq α] {M:List (α×β)} {a a':α} {b:β}:a'∈(BG M a b).map Prod.fst↔a'=a∨a'∈M.map Prod.fst:=by
 rw [K3]
 split
 ·rename_i h
  exact ⟨.inr,fun h'=>h'.elim (fun e=>by rw [e];exact h) id⟩
 ·simp [or_comm]
theorem TJ.snoc {l:List Ee} {M:List (List UInt8×Int)} (h:TJ l M) (p:Ee):TJ (l++ [p]) (BG M p.acc.a (Ai M p.acc.a 0+p.d)):=by
 obtain ⟨h1,h2,h3,h4⟩:=h;refine ⟨MV h1,fun a=>?_,fun a ha=>?_,fun q hq=>?_⟩
 ·rw [MX,N6]
  split
  ·rename_i e;rw [e,h2,if_pos rfl]
  ·rename_i e;rw [h2,if_neg (fun e'=>e e'.symm)];omega
 ·rcases mem_put.1 ha with e | e
  ·exact ⟨p,by simp,e.symm⟩
  ·obtain ⟨q,hq,e2⟩:=h3 a e;exact ⟨q,by simp [hq],e2⟩
 ·rcases List.mem_append.1 hq with hq | hq
  ·exact mem_put.2 (.inr (h4 q hq))
  ·simp at hq;subst hq;exact mem_put.2 (.inl rfl)
theorem bal_bad {i:AU} {M:List (List UInt8×Int)} (h:TJ i.po M) {j:Nat} {a:List UInt8} {v:Int} (hm:M[j]?=some (a,v)) (hv:v≠0):(14:Int)=Sz i:=by
 have hmem:=List.mem_of_getElem? hm;have h1:=Zc3 (z:=0) h.1 hmem;rw [h.2.1] at h1;obtain ⟨p,hp,e⟩:=h.2.2.1 a (List.mem_map_of_mem (f:=Prod.fst) hmem);unfold Sz;rw [if_pos ⟨p,hp,by rw [e,h1];exact hv⟩]
theorem bal_ok {i:AU} {M:List (List UInt8×Int)} (h:TJ i.po M) (h0:∀x∈M,x.2=0):(0:Int)=Sz i:=by
 unfold Sz;rw [if_neg];rintro ⟨p,hp,hne⟩;refine hne ?_;rw [←h.2.1];exact h0 _ (Qi (z:=0) (h.2.2.2 p hp))
theorem TN {l:List Ee} {k:Nat} (h:∀p∈l,-Mx≤p.d∧p.d≤Mx):∀p∈l.take k,-Mx≤p.d∧p.d≤Mx:=fun p hp=>h p (List.mem_of_mem_take hp)
theorem Sy (i:AU) (hn:i.po.length≤256) (hb:∀p∈i.po,-Mx≤p.d∧p.d≤Mx):AT Tryz.prog 69 [.d (BC i)] (AF (Sz i)):=by
 refine B6 Tryz.func69 Z Z Tryz.ntmps69 Z Z Z fun F hF=>(AG (AJ (G (CV 1 Z Z Z Z Z Z Z) (AD Z Z ?_))));refine AI (AG (AJ (G (YX 2 Z Z Z Z) (AD Z Z (AI (AG (AG (AJ ?_))))))))
 first | refine J (AO rfl Df Z Z Z) ?_ | refine J (AQ rfl Df Z Z Z) ?_ | refine J (AR rfl Df Z Z Z) ?_ | refine J (AP rfl Df Z Z Z) ?_ | refine J (AN rfl Df Z Z Z) ?_
 first | refine J (A0 Z Z F8 rfl) ?_ | refine J (AX Z Z Z F8 rfl) ?_ | refine J (AZ Z Z (rfl) rfl F8 rfl) ?_
 first | refine J (Co rfl Tryz.underlying46 rfl) ?_ | refine J (C1 Z Z Tryz.underlying46 rfl) ?_ | refine J (Cp rfl Tryz.underlying46 rfl) ?_ | refine J (Cn rfl Tryz.underlying46 rfl) ?_ | refine J (Ca rfl Tryz.underlying46 rfl) ?_ | refine J (Ck rfl Tryz.underlying46 rfl) ?_
 refine AC Z Z (AI (Aw (EN (α:=Nat×List (List UInt8×Int)) (fun q=>⟨33,[(3,(.map 2 0)),(10,(.d (.sl none (i.po.map C7)))),(11,(.d (AF (i.po.length:Int)))),(12,(.d (AF (q.1:Int))))],[(2,[CD Al AF q.2])]⟩) (fun q=>q.1≤i.po.length∧TJ (i.po.take q.1) q.2) (fun q=>i.po.length - q.1) ((0,[])) (⟨Nat.zero_le _,⟨by simp,by simp [CL,Ai],by simp,by simp⟩⟩) (BS hF [2] Z Z ⟨rfl,rfl,rfl,rfl,trivial⟩) ?_)));rintro ⟨k,M⟩ ⟨hk0,hM⟩;dsimp only at hk0 hM⊢;refine AG (AJ ?_)
 first | refine J (Cc Z Z Z) ?_ | refine J (Cb Z Z Z) ?_
 refine AI (AG ?_)
 first | refine BP rfl (fun h13=>?_) (fun h13=>?_) | refine BK rfl (fun h13=>?_) (fun h13=>?_)
 ·have hk1:k<i.po.length:=EF h13;refine An (AG (Aw (AG (AJ ?_))));have hbk:=hb _ (List.getElem_mem hk1);have hgb:=NC (i.po.take k) i.po[k].acc.a (TN hb);rw [←hM.2.1,List.length_take] at hgb;simp only [Mx] at hbk
  first | refine J (Ch (k) Z Z (rfl) (A3 hk1) Tryz.underlying46 rfl JR rfl) ?_ | refine J (Cj (k) Z Z (rfl) (A3 hk1) rfl Tryz.underlying46 JR rfl) ?_
  first | refine J (At Z Z J1 rfl) ?_ | refine J (Au Z Z J1 Z Z Z) ?_ | refine J (Av Z Z (rfl) rfl J1 rfl) ?_
  refine G (DT 3 JL Z Z Z Z) (G (CC Z Z Z Z Z Z Z JR) (AI (AJ (AC Z Z ?_))))
  first | refine J (AO rfl JK Z Z Z) ?_ | refine J (AQ rfl JK Z Z Z) ?_ | refine J (AR rfl JK Z Z Z) ?_ | refine J (AP rfl JK Z Z Z) ?_ | refine J (AN rfl JK Z Z Z) ?_
  first | refine J (AO rfl Hh Z Z Z) ?_ | refine J (AQ rfl Hh Z Z Z) ?_ | refine J (AR rfl Hh Z Z Z) ?_ | refine J (AP rfl Hh Z Z Z) ?_ | refine J (AN rfl Hh Z Z Z) ?_
  first | refine J (A0 Z Z Ar rfl) ?_ | refine J (AX Z Z Z Ar rfl) ?_ | refine J (AZ Z Z (rfl) rfl Ar rfl) ?_
  refine J (LT (M) (i.po[k].acc.a) (0) _ Z Z Z Tt kt9 Px Z Z) ?_
  first | refine J (AO rfl Oa Z Z Z) ?_ | refine J (AQ rfl Oa Z Z Z) ?_ | refine J (AR rfl Oa Z Z Z) ?_ | refine J (AP rfl Oa Z Z Z) ?_ | refine J (AN rfl Oa Z Z Z) ?_
  first | refine J (A0 Z Z Be rfl) ?_ | refine J (AX Z Z Z Be rfl) ?_ | refine J (AZ Z Z (rfl) rfl Be rfl) ?_
  refine J (By Z Z (IntWalk.i64_in _ (by omega)) rfl) ?_
  first | refine G (FR (M) (i.po[k].acc.a) (Ai M i.po[k].acc.a 0+i.po[k].d) Z Z Z Tt kt9 Z Z) ?_ | refine G (Dv (M) (i.po[k].acc.a) (Ai M i.po[k].acc.a 0+i.po[k].d) Z Z Z Tt kt9 Z Z) ?_
  refine AI (AJ (J (By Z Z (Ad (k+1) (by omega)) rfl) (AC Z Z (AI ?_))));exact ⟨(k+1,_),⟨by show k+1≤_;omega,by have:=hM.snoc i.po[k];rwa [←List.take_succ_eq_append_getElem hk1] at this⟩,by show i.po.length - (k+1)<i.po.length - k;omega,BS hF [2] rfl (rfl) ⟨rfl,rfl,rfl,rfl,trivial⟩⟩
 ·refine Ct (AG (AG ?_));have hM':TJ i.po M:=by rw [List.take_of_length_le (by have h:=h13;omega)] at hM;exact hM
  refine AJ (AC Z Z (G (JU 4 Z Z Z Tt Z Z Z Z) (AI (Aw (EN (α:=List Nat) (fun seen=>⟨33,[(26,(.ptr 4 0 0))],[(4,[.iter 2 0 M.length seen]),(2,[CD Al AF M])]⟩) (fun seen=>∀x∈M,x∈EJ M (List.range M.length) seen∨x.2=0) (fun seen=>(EJ M (List.range M.length) seen).length) ([]) (fun x hx=> .inl (by rw [Hu (by simp)];exact hx)) (BS hF [4,2] Z Z ⟨rfl,trivial⟩) ?_)))));intro seen hI;refine AG (AJ (PQ (M) Z Z Z Z (fun hl27=>?_) (fun j27 b27 k27 v27 hm27 hb27 hB27 hp27=>⟨_,rfl,?_⟩)))
  ·first | refine J (BU Z Z Z) ?_ | refine J (BV Z Z Z) ?_
   refine AI (AG (F4 Z Z (Ct (AG (AJ (AD Z Z (AI (Af ?_))))))));exact ⟨_,[],[],Ae rfl,rfl,rfl,Ak (bal_ok hM' fun x hx=>(hI x hx).elim (fun h=>by rw [hl27] at h;cases h) id),rfl⟩
  ·first | refine J (BU Z Z Z) ?_ | refine J (BV Z Z Z) ?_
   refine AI (AG (EL Z Z (An (Aw (AG (AJ (J (JW (M) j27 b27 Z Z Z hm27 hb27 rfl) ?_)))))))
   first | refine J (BU Z Z Z) ?_ | refine J (BV Z Z Z) ?_
   refine AD Z Z (AI (AG (AJ (AC Z Z ?_))))
   first | refine J (Ec Z Z Z) ?_ | refine J (Eb Z Z Z) ?_ | refine J (EV Z Z Z) ?_ | refine J (E8 Tryz.underlying2 Z Z Z) ?_ | refine J (Ea Tryz.underlying2 Z Z Z) ?_ | refine J (st_neqN Tryz.underlying2 Z Z) ?_ | refine J (E9 Tryz.underlying2 Z Z Z) ?_ | refine J (st_neqFN Tryz.underlying2 Z Z) ?_
   refine AI ?_
   first | refine BP rfl (fun h32=>?_) (fun h32=>?_) | refine BK rfl (fun h32=>?_) (fun h32=>?_)
   ·refine AG (AJ (AD Z Z (AI (Af ?_))));exact ⟨_,[],[],Ae rfl,rfl,rfl,Ak (bal_bad hM' hm27 h32),rfl⟩
   ·refine An ?_;exact ⟨seen++ [b27],fun x hx=>(hI x hx).elim (fun h=>(List.mem_cons.1 (hp27.mem_iff.1 h)).elim (fun e=> .inr (by rw [e];simpa using h32)) .inl) .inr,by rw [hp27.length_eq];exact Nat.lt_succ_self _,BS hF [4,2] rfl (rfl) ⟨rfl,trivial⟩⟩
abbrev acc0:Ok:=⟨[],0,[]⟩
abbrev Gd (p:Ee):A5:=⟨0,p.acc,[],[]⟩
abbrev DP (f t:List UInt8):A5:=⟨1,acc0,f,t⟩
abbrev EI (f:List UInt8):A5:=⟨2,acc0,f,[]⟩
def YP (M:List (A5×Int)) (x:A5×Int):List (A5×Int):=BG M x.1 (Ai M x.1 0+x.2)
def Jx (l:List Ee):List (A5×Int):=l.map fun p=>(Gd p,p.d)
def RX (p:NJ):List (A5×Int):=[(DP p.f p.t,-p.n),(DP p.t p.f,p.n),(EI p.f,-p.n),(EI p.t,p.n)]
def Mt (l:List NJ):List (A5×Int):=l.flatMap RX
def ctr (i:AU):List (A5×Int):=Jx i.po++Mt i.pa
def sumL (l:List (A5×Int)):List (A5×Int):=l.foldl YP []
def B8 (l:List (A5×Int)) (r:A5):Int:=(l.map fun x=>if x.1=r then x.2 else 0).sum
theorem TC (l:List (A5×Int)) (x:A5×Int):sumL (l++ [x])=YP (sumL l) x:=by simp [sumL]
theorem N1 (l m:List (A5×Int)) (r:A5):B8 (l++m) r=B8 l r+B8 m r:=by simp [B8]
theorem Su (x:A5×Int) (r:A5):B8 [x] r=if x.1=r then x.2 else 0:=by simp [B8]
theorem Y0 {α:Type} {p:List α ->Prop} (h0:p []) (h1:∀l x,p l ->p (l++ [x])) (l:List α):p l:=by
 have:∀m:List α,p m.reverse:=fun m=>by
  induction m with
  | nil=>exact h0
  | cons x r ih=>rw [List.reverse_cons];exact h1 _ _ ih
 have:=this l.reverse
 rwa [List.reverse_reverse] at this
theorem JT (l:List (A5×Int)) (r:A5):Ai (sumL l) r 0=B8 l r:=by
 revert r
 refine Y0 (p:=fun l=>∀r,Ai (sumL l) r 0=B8 l r) (fun r=>rfl) (fun l x ih r=>?_) l;rw [TC,YP,MX,N1,Su]
 split
 ·rename_i h;rw [ih,h,if_pos rfl]
 ·rename_i h;rw [ih,if_neg (fun e=>h e.symm)];omega
theorem I4 (l:List (A5×Int)):((sumL l).map Prod.fst).Nodup:=
 Y0 (p:=fun l=>((sumL l).map Prod.fst).Nodup) (by simp [sumL]) (fun l x ih=>by rw [TC];exact MV ih) l
theorem KL (l:List (A5×Int)) (r:A5):r∈(sumL l).map Prod.fst↔r∈l.map Prod.fst:=by
 refine Y0 (p:=fun l=>r∈(sumL l).map Prod.fst↔r∈l.map Prod.fst) (by simp [sumL]) (fun l x ih=>?_) l;rw [TC,YP,mem_put,ih]
 simp [or_comm]
def Pv (l:List (A5×Int)):Prop:=∀x∈l,-1000000000000000≤x.2∧x.2≤1000000000000000
theorem Pc {l:List (A5×Int)} (h:Pv l) (r:A5): -(l.length*1000000000000000)≤B8 l r∧B8 l r≤l.length*1000000000000000:=by
 induction l with
 | nil=>simp [B8]
 | cons x l ih=>
  have h1:=ih fun q hq=>h q (by simp [hq]);have h2:=h x (by simp);have e:B8 (x::l) r=(if x.1=r then x.2 else 0)+B8 l r:=by simp [B8]
  have e2:((x::l).length:Int)=l.length+1:=by simp
  rw [e,e2]
  split<;>omega
structure ItmB (i:AU):Prop where
 po:i.po.length≤256
 pa:i.pa.length≤256
 af:i.af.length≤256
 d:∀p∈i.po,-Mx≤p.d∧p.d≤Mx
 n:∀p∈i.pa,0≤p.n∧p.n≤Mx
theorem LL (l:List NJ):(Mt l).length=4*l.length:=by
 induction l with
 | nil=>rfl
 | cons p r ih=>simp only [Mt,List.flatMap_cons,List.length_append,List.length_cons] at ih⊢;rw [ih];simp [RX];omega
theorem bnd_P {l:List Ee} (h:∀p∈l,-Mx≤p.d∧p.d≤Mx):Pv (Jx l):=fun x hx=>by
 obtain ⟨p,hp,rfl⟩:=List.mem_map.1 hx;have:=h p hp;simp only [Mx] at this;exact this
theorem bnd_1 {p:NJ} (h:0≤p.n∧p.n≤Mx):Pv (RX p):=fun x hx=>by
 simp only [Mx] at h;simp only [RX,List.mem_cons,List.not_mem_nil,or_false] at hx;rcases hx with rfl | rfl | rfl | rfl<;>simp only<;>omega
theorem bnd_Y {l:List NJ} (h:∀p∈l,0≤p.n∧p.n≤Mx):Pv (Mt l):=fun x hx=>by
 obtain ⟨p,hp,hx⟩:=List.mem_flatMap.1 hx;exact bnd_1 (h p hp) x hx
theorem Pv.append {l m:List (A5×Int)} (h:Pv l) (h':Pv m):Pv (l++m):=fun x hx=>(List.mem_append.1 hx).elim (h x) (h' x)
theorem Pv.take {l:List (A5×Int)} (h:Pv l) (k:Nat):Pv (l.take k):=fun x hx=>h x (List.mem_of_mem_take hx)
theorem Eu {l:List (A5×Int)} (h:Pv l) (hl:l.length≤2000) (r:A5): -2000000000000000000≤Ai (sumL l) r 0∧Ai (sumL l) r 0≤2000000000000000000:=by
 have:=Pc h r;rw [JT];omega
theorem V7 {l:List Ee} {k:Nat} (hk:k<l.length):Jx (l.take (k+1))=Jx (l.take k)++ [(Gd l[k],l[k].d)]:=by
 simp only [Jx];rw [List.take_succ_eq_append_getElem hk,List.map_append];rfl
theorem V6 {l:List NJ} {k:Nat} (hk:k<l.length):Mt (l.take (k+1))=Mt (l.take k)++RX l[k]:=by
 simp only [Mt];rw [List.take_succ_eq_append_getElem hk,List.flatMap_append];simp
def KH (M:List (A5×Int)) (p:NJ):List (A5×Int):=BG M (DP p.f p.t) (Ai M (DP p.f p.t) 0 - p.n)
def Oy (M:List (A5×Int)) (p:NJ):List (A5×Int):=BG M (DP p.t p.f) (Ai M (DP p.t p.f) 0+p.n)
def st3 (M:List (A5×Int)) (p:NJ):List (A5×Int):=BG M (EI p.f) (Ai M (EI p.f) 0 - p.n)
def st4 (M:List (A5×Int)) (p:NJ):List (A5×Int):=BG M (EI p.t) (Ai M (EI p.t) 0+p.n)
theorem WT {l:List (A5×Int)} {p:NJ} {M:List (A5×Int)} (h:M=sumL l):KH M p=sumL (l++ [(DP p.f p.t,-p.n)])∧Oy (KH M p) p=sumL (l++ [(DP p.f p.t,-p.n),(DP p.t p.f,p.n)])∧st3 (Oy (KH M p) p) p=sumL (l++ [(DP p.f p.t,-p.n),(DP p.t p.f,p.n),(EI p.f,-p.n)])∧st4 (st3 (Oy (KH M p) p) p) p=sumL (l++RX p):=by
 subst h;have e:∀(l:List (A5×Int)) (x:A5×Int) (r:List (A5×Int)),l++x::r=(l++ [x])++r:=by simp
 refine ⟨?_,?_,?_,?_⟩
 ·rw [TC];rfl
 ·rw [e,TC,TC];rfl
 ·rw [e,e,TC,TC,TC];rfl
 ·rw [RX,e,e,e,TC,TC,TC,TC];rfl
theorem WQ {l:List (A5×Int)} {p:NJ} {M:List (A5×Int)} (h:M=sumL l) (hb:Pv l) (hl:l.length≤1900) (hp:0≤p.n∧p.n≤Mx) (r:A5):(-2000000000000000000≤Ai M r 0∧Ai M r 0≤2000000000000000000)∧(-2000000000000000000≤Ai (KH M p) r 0∧Ai (KH M p) r 0≤2000000000000000000)∧(-2000000000000000000≤Ai (Oy (KH M p) p) r 0∧Ai (Oy (KH M p) p) r 0≤2000000000000000000)∧(-2000000000000000000≤Ai (st3 (Oy (KH M p) p) p) r 0∧Ai (st3 (Oy (KH M p) p) p) r 0≤2000000000000000000):=by
 obtain ⟨e1,e2,e3,_⟩:=WT (p:=p) h;have hb4:=bnd_1 hp;rw [e3,e2,e1,h];refine ⟨Eu hb (by omega) r,Eu (hb.append fun x hx=>hb4 x ?_) (by simp;omega) r,Eu (hb.append fun x hx=>hb4 x ?_) (by simp;omega) r,Eu (hb.append fun x hx=>hb4 x ?_) (by simp;omega) r⟩
 all_goals
  simp only [RX,List.mem_cons,List.not_mem_nil,or_false] at hx⊢
  first
   | exact .inl hx
   | exact hx.elim .inl fun h=> .inr (.inl h)
   | exact hx.elim .inl fun h=>h.elim (fun h=> .inr (.inl h)) fun h=> .inr (.inr (.inl h))
set_option maxHeartbeats 1000000 in
theorem Rw (i:AU) (hi:ItmB i):A6 Tryz.prog 30 [.d (BC i)] [] fun r H'=>r= .map 2 0∧H'=[(2,[CD E1 AF (sumL (ctr i))])]:=by
 have hpo:=hi.po;have hpa:=hi.pa;refine B6 Tryz.func30 Z Z Tryz.ntmps30 Z Z Z fun F hF=>(AG (AJ (G (CV 1 Z Z Z Z Z Z Z) (AD Z Z ?_))));refine AI (AG (AJ (G (YX 2 Z Z Z Z) (AD Z Z (AI (AG (AG (AJ ?_))))))))
 first | refine J (AO rfl Df Z Z Z) ?_ | refine J (AQ rfl Df Z Z Z) ?_ | refine J (AR rfl Df Z Z Z) ?_ | refine J (AP rfl Df Z Z Z) ?_ | refine J (AN rfl Df Z Z Z) ?_
 first | refine J (A0 Z Z F8 rfl) ?_ | refine J (AX Z Z Z F8 rfl) ?_ | refine J (AZ Z Z (rfl) rfl F8 rfl) ?_
 first | refine J (Co rfl Tryz.underlying46 rfl) ?_ | refine J (C1 Z Z Tryz.underlying46 rfl) ?_ | refine J (Cp rfl Tryz.underlying46 rfl) ?_ | refine J (Cn rfl Tryz.underlying46 rfl) ?_ | refine J (Ca rfl Tryz.underlying46 rfl) ?_ | refine J (Ck rfl Tryz.underlying46 rfl) ?_
 refine AC Z Z (AI (Aw (EN (α:=Nat×List (A5×Int)) (fun q=>⟨80,[(1,(.ptr 1 0 0)),(3,(.map 2 0)),(10,(.d (.sl none (i.po.map C7)))),(11,(.d (AF (i.po.length:Int)))),(12,(.d (AF (q.1:Int))))],[(2,[CD E1 AF q.2]),(1,[.blk 49 [.d (AF i.id),.d (AF i.pr),.d (AF i.sq),.d (.sl none (i.po.map C7)),.d (.sl none (i.pa.map Gl)),.d (.sl none (i.af.map AF))]])]⟩) (fun q=>q.1≤i.po.length∧q.2=sumL (Jx (i.po.take q.1))) (fun q=>i.po.length - q.1) ((0,[])) (⟨Nat.zero_le _,rfl⟩) (BS hF [2,1] Z Z ⟨rfl,rfl,rfl,rfl,rfl,trivial⟩) ?_)));rintro ⟨k,M⟩ ⟨hk0,hM⟩;dsimp only at hk0 hM⊢;refine AG (AJ ?_)
 first | refine J (Cc Z Z Z) ?_ | refine J (Cb Z Z Z) ?_
 refine AI (AG ?_)
 first | refine BP rfl (fun h13=>?_) (fun h13=>?_) | refine BK rfl (fun h13=>?_) (fun h13=>?_)
 ·have hk1:k<i.po.length:=EF h13;refine An (AG (Aw (AG (AJ ?_))));have hbk:=hi.d _ (List.getElem_mem hk1);simp only [Mx] at hbk;have hgb:=Eu (l:=Jx (i.po.take k)) (bnd_P (TN hi.d)) (by simp [Jx];omega) (Gd i.po[k]);rw [←hM] at hgb
  first | refine J (Ch (k) Z Z (rfl) (A3 hk1) Tryz.underlying46 rfl JR rfl) ?_ | refine J (Cj (k) Z Z (rfl) (A3 hk1) rfl Tryz.underlying46 JR rfl) ?_
  first | refine J (At Z Z J1 rfl) ?_ | refine J (Au Z Z J1 Z Z Z) ?_ | refine J (Av Z Z (rfl) rfl J1 rfl) ?_
  refine G (DT 3 JL Z Z Z Z) (G (CC Z Z Z Z Z Z Z JR) (AI (Gs [[],[],[1],[1,2],[0,1,2,3],[],[5],[0,1,2,3,4,5,6],[0,1,2,3,5,6],[0,1,2,3,5,6,8],[0,1,2,3,4,5,6,7,8,9]] BF rfl (Xx 2 ([CD E1 AF (B4 M (Gd i.po[k]) 0)]) rfl ?_))))
  first | refine AE [3] [] Z Z (fun _=>AB (Bb Z Z)) ?_ | refine AH [3] Z Z (fun _=>AB (Bb Z Z)) ?_
  first | refine AE [5] [] Z Z (fun _=>AB (AO rfl JK Z Z Z)) ?_ | refine AH [5] Z Z (fun _=>AB (AO rfl JK Z Z Z)) ?_ | refine AE [5] [] Z Z (fun _=>AB (AQ rfl JK Z Z Z)) ?_ | refine AH [5] Z Z (fun _=>AB (AQ rfl JK Z Z Z)) ?_ | refine AE [5] [] Z Z (fun _=>AB (AR rfl JK Z Z Z)) ?_ | refine AH [5] Z Z (fun _=>AB (AR rfl JK Z Z Z)) ?_ | refine AE [5] [] Z Z (fun _=>AB (AP rfl JK Z Z Z)) ?_ | refine AH [5] Z Z (fun _=>AB (AP rfl JK Z Z Z)) ?_ | refine AE [5] [] Z Z (fun _=>AB (AN rfl JK Z Z Z)) ?_ | refine AH [5] Z Z (fun _=>AB (AN rfl JK Z Z Z)) ?_
  first | refine AE [17] [] Z Z (fun _=>AB (At Z Z Gj rfl)) ?_ | refine AH [17] Z Z (fun _=>AB (At Z Z Gj rfl)) ?_ | refine AE [17] [] Z Z (fun _=>AB (Au Z Z Gj Z Z Z)) ?_ | refine AH [17] Z Z (fun _=>AB (Au Z Z Gj Z Z Z)) ?_ | refine AE [17] [] Z Z (fun _=>AB (Av Z Z (rfl) rfl Gj rfl)) ?_ | refine AH [17] Z Z (fun _=>AB (Av Z Z (rfl) rfl Gj rfl)) ?_
  first | refine AE [18] [] Z Z (fun _=>AB (DC Gi J5 Z Z Z)) ?_ | refine AH [18] Z Z (fun _=>AB (DC Gi J5 Z Z Z)) ?_
  refine Jw [16,19] [] Z Z Z (fun _=>AB (LT (M) (Gd i.po[k]) (0) _ Z Z Z Gr DQ Px Z Z)) (fun _=>AB (LT (B4 (M) (Gd i.po[k]) (0)) (Gd i.po[k]) (0) _ Z Z Z Gr DQ Px (FB _ _ _ _) rfl)) ?_
  first | refine AE [5] [] Z Z (fun _=>AB (AO rfl Oa Z Z Z)) ?_ | refine AH [5] Z Z (fun _=>AB (AO rfl Oa Z Z Z)) ?_ | refine AE [5] [] Z Z (fun _=>AB (AQ rfl Oa Z Z Z)) ?_ | refine AH [5] Z Z (fun _=>AB (AQ rfl Oa Z Z Z)) ?_ | refine AE [5] [] Z Z (fun _=>AB (AR rfl Oa Z Z Z)) ?_ | refine AH [5] Z Z (fun _=>AB (AR rfl Oa Z Z Z)) ?_ | refine AE [5] [] Z Z (fun _=>AB (AP rfl Oa Z Z Z)) ?_ | refine AH [5] Z Z (fun _=>AB (AP rfl Oa Z Z Z)) ?_ | refine AE [5] [] Z Z (fun _=>AB (AN rfl Oa Z Z Z)) ?_ | refine AH [5] Z Z (fun _=>AB (AN rfl Oa Z Z Z)) ?_
  first | refine AE [21] [] Z Z (fun _=>AB (A0 Z Z Be rfl)) ?_ | refine AH [21] Z Z (fun _=>AB (A0 Z Z Be rfl)) ?_ | refine AE [21] [] Z Z (fun _=>AB (AX Z Z Z Be rfl)) ?_ | refine AH [21] Z Z (fun _=>AB (AX Z Z Z Be rfl)) ?_ | refine AE [21] [] Z Z (fun _=>AB (AZ Z Z (rfl) rfl Be rfl)) ?_ | refine AH [21] Z Z (fun _=>AB (AZ Z Z (rfl) rfl Be rfl)) ?_
  first | refine AE [20,22] [] Z Z (fun _=>AB (By Z Z (IntWalk.i64_in _ (by omega)) rfl)) ?_ | refine AH [20,22] Z Z (fun _=>AB (By Z Z (IntWalk.i64_in _ (by omega)) rfl)) ?_
  refine G7 [16,19] [2] [(24,_)] Z Z (fun _=>G8 (Hk (M) (Gd i.po[k]) (0) Z Z Z Gr DQ Px Z Z)) (.inr ⟨24,_,rfl,rfl,rfl,rfl,rfl⟩) Z Z Z Z Z ?_ (hCn:=R3 rfl)
  first | refine AE [24] [] Z Z (fun _=>AB (BU Z Z Z)) ?_ | refine AH [24] Z Z (fun _=>AB (BU Z Z Z)) ?_ | refine AE [24] [] Z Z (fun _=>AB (BV Z Z Z)) ?_ | refine AH [24] Z Z (fun _=>AB (BV Z Z Z)) ?_
  refine Gf 10 Z Z Z (BE 11 Z Z (G (Hl (M) (Gd i.po[k]) (0) (Ai M (Gd i.po[k]) 0+i.po[k].d) Z Z Z DQ Z Z) (AI ⟨rfl,?_⟩)));refine Ge (AJ (J (By Z Z (Ad (k+1) (by omega)) rfl) (AC Z Z (AI ?_))));exact ⟨(k+1,_),⟨by show k+1≤_;omega,by show _=sumL (Jx (i.po.take (k+1)));rw [V7 hk1,TC,←hM];rfl⟩,by show i.po.length - (k+1)<i.po.length - k;omega,BS hF [2,1] rfl (rfl) ⟨rfl,rfl,rfl,rfl,rfl,trivial⟩⟩
 ·refine Ct (AG (AG ?_));have hM0:M=sumL (Jx i.po++Mt (i.pa.take 0)):=by rw [hM,List.take_of_length_le (by have h:=h13;omega)];simp [Mt]
  refine AJ ?_
  first | refine J (AO rfl FN Z Z Z) ?_ | refine J (AQ rfl FN Z Z Z) ?_ | refine J (AR rfl FN Z Z Z) ?_ | refine J (AP rfl FN Z Z Z) ?_ | refine J (AN rfl FN Z Z Z) ?_
  first | refine J (A0 Z Z Gn rfl) ?_ | refine J (AX Z Z Z Gn rfl) ?_ | refine J (AZ Z Z (rfl) rfl Gn rfl) ?_
  first | refine J (Co rfl Tryz.underlying47 rfl) ?_ | refine J (C1 Z Z Tryz.underlying47 rfl) ?_ | refine J (Cp rfl Tryz.underlying47 rfl) ?_ | refine J (Cn rfl Tryz.underlying47 rfl) ?_ | refine J (Ca rfl Tryz.underlying47 rfl) ?_ | refine J (Ck rfl Tryz.underlying47 rfl) ?_
  refine AC Z Z (AI (Aw (EN (α:=Nat×List (A5×Int)) (fun q=>⟨80,[(3,(.map 2 0)),(28,(.d (.sl none (i.pa.map Gl)))),(29,(.d (AF (i.pa.length:Int)))),(30,(.d (AF (q.1:Int))))],[(2,[CD E1 AF q.2])]⟩) (fun q=>q.1≤i.pa.length∧q.2=sumL (Jx i.po++Mt (i.pa.take q.1))) (fun q=>i.pa.length - q.1) ((0,M)) (⟨Nat.zero_le _,hM0⟩) (BS hF [2] Z Z ⟨rfl,rfl,rfl,rfl,trivial⟩) ?_)));rintro ⟨m,N⟩ ⟨hm0,hN⟩;dsimp only at hm0 hN⊢;refine AG (AJ ?_)
  first | refine J (Cc Z Z Z) ?_ | refine J (Cb Z Z Z) ?_
  refine AI (AG ?_)
  first | refine BP rfl (fun h31=>?_) (fun h31=>?_) | refine BK rfl (fun h31=>?_) (fun h31=>?_)
  ·have hm1:m<i.pa.length:=EF h31;refine An (AG (Aw (AG (AJ ?_))));have hbm:=hi.n _ (List.getElem_mem hm1);have hsm:=WQ hN ((bnd_P hi.d).append (bnd_Y fun q hq=>hi.n q (List.mem_of_mem_take hq))) (by rw [List.length_append,LL];simp [Jx];omega) hbm;simp only [Mx] at hbm
   first | refine J (Ch (m) Z Z (rfl) (A3 hm1) Tryz.underlying47 rfl Nf rfl) ?_ | refine J (Cj (m) Z Z (rfl) (A3 hm1) rfl Tryz.underlying47 Nf rfl) ?_
   first | refine J (At Z Z Nq rfl) ?_ | refine J (Au Z Z Nq Z Z Z) ?_ | refine J (Av Z Z (rfl) rfl Nq rfl) ?_
   refine G (DT 4 Vu Z Z Z Z) (G (CC Z Z Z Z Z Z Z Nf) (AI (AG (Gs [[],[],[1],[],[3],[1,2,3,4],[0,1,2,3,4,5],[],[7],[0,1,2,3,4,5,6,7,8],[0,1,2,3,4,5,7,8],[0,1,2,3,4,5,7,8,10],[0,1,2,3,4,5,6,7,8,9,10,11]] BF rfl (Xx 2 ([CD E1 AF (B4 N (DP i.pa[m].f i.pa[m].t) 0)]) rfl ?_)))))
   first | refine AE [3] [] Z Z (fun _=>AB (Bb Z Z)) ?_ | refine AH [3] Z Z (fun _=>AB (Bb Z Z)) ?_
   first | refine AE [7] [] Z Z (fun _=>AB (AO rfl GN Z Z Z)) ?_ | refine AH [7] Z Z (fun _=>AB (AO rfl GN Z Z Z)) ?_ | refine AE [7] [] Z Z (fun _=>AB (AQ rfl GN Z Z Z)) ?_ | refine AH [7] Z Z (fun _=>AB (AQ rfl GN Z Z Z)) ?_ | refine AE [7] [] Z Z (fun _=>AB (AR rfl GN Z Z Z)) ?_ | refine AH [7] Z Z (fun _=>AB (AR rfl GN Z Z Z)) ?_ | refine AE [7] [] Z Z (fun _=>AB (AP rfl GN Z Z Z)) ?_ | refine AH [7] Z Z (fun _=>AB (AP rfl GN Z Z Z)) ?_ | refine AE [7] [] Z Z (fun _=>AB (AN rfl GN Z Z Z)) ?_ | refine AH [7] Z Z (fun _=>AB (AN rfl GN Z Z Z)) ?_
   first | refine AE [35] [] Z Z (fun _=>AB (A0 Z Z Ar rfl)) ?_ | refine AH [35] Z Z (fun _=>AB (A0 Z Z Ar rfl)) ?_ | refine AE [35] [] Z Z (fun _=>AB (AX Z Z Z Ar rfl)) ?_ | refine AH [35] Z Z (fun _=>AB (AX Z Z Z Ar rfl)) ?_ | refine AE [35] [] Z Z (fun _=>AB (AZ Z Z (rfl) rfl Ar rfl)) ?_ | refine AH [35] Z Z (fun _=>AB (AZ Z Z (rfl) rfl Ar rfl)) ?_
   first | refine AE [7] [] Z Z (fun _=>AB (AO rfl GO Z Z Z)) ?_ | refine AH [7] Z Z (fun _=>AB (AO rfl GO Z Z Z)) ?_ | refine AE [7] [] Z Z (fun _=>AB (AQ rfl GO Z Z Z)) ?_ | refine AH [7] Z Z (fun _=>AB (AQ rfl GO Z Z Z)) ?_ | refine AE [7] [] Z Z (fun _=>AB (AR rfl GO Z Z Z)) ?_ | refine AH [7] Z Z (fun _=>AB (AR rfl GO Z Z Z)) ?_ | refine AE [7] [] Z Z (fun _=>AB (AP rfl GO Z Z Z)) ?_ | refine AH [7] Z Z (fun _=>AB (AP rfl GO Z Z Z)) ?_ | refine AE [7] [] Z Z (fun _=>AB (AN rfl GO Z Z Z)) ?_ | refine AH [7] Z Z (fun _=>AB (AN rfl GO Z Z Z)) ?_
   first | refine AE [37] [] Z Z (fun _=>AB (A0 Z Z Ar rfl)) ?_ | refine AH [37] Z Z (fun _=>AB (A0 Z Z Ar rfl)) ?_ | refine AE [37] [] Z Z (fun _=>AB (AX Z Z Z Ar rfl)) ?_ | refine AH [37] Z Z (fun _=>AB (AX Z Z Z Ar rfl)) ?_ | refine AE [37] [] Z Z (fun _=>AB (AZ Z Z (rfl) rfl Ar rfl)) ?_ | refine AH [37] Z Z (fun _=>AB (AZ Z Z (rfl) rfl Ar rfl)) ?_
   first | refine AE [36,38] [] Z Z (fun _=>AB (DC Gi J5 Z Z Z)) ?_ | refine AH [36,38] Z Z (fun _=>AB (DC Gi J5 Z Z Z)) ?_
   refine Jw [34,39] [] Z Z Z (fun _=>AB (LT (N) (DP i.pa[m].f i.pa[m].t) (0) _ Z Z Z Gr DQ Px Z Z)) (fun _=>AB (LT (B4 (N) (DP i.pa[m].f i.pa[m].t) (0)) (DP i.pa[m].f i.pa[m].t) (0) _ Z Z Z Gr DQ Px (FB _ _ _ _) rfl)) ?_
   first | refine AE [7] [] Z Z (fun _=>AB (AO rfl FL Z Z Z)) ?_ | refine AH [7] Z Z (fun _=>AB (AO rfl FL Z Z Z)) ?_ | refine AE [7] [] Z Z (fun _=>AB (AQ rfl FL Z Z Z)) ?_ | refine AH [7] Z Z (fun _=>AB (AQ rfl FL Z Z Z)) ?_ | refine AE [7] [] Z Z (fun _=>AB (AR rfl FL Z Z Z)) ?_ | refine AH [7] Z Z (fun _=>AB (AR rfl FL Z Z Z)) ?_ | refine AE [7] [] Z Z (fun _=>AB (AP rfl FL Z Z Z)) ?_ | refine AH [7] Z Z (fun _=>AB (AP rfl FL Z Z Z)) ?_ | refine AE [7] [] Z Z (fun _=>AB (AN rfl FL Z Z Z)) ?_ | refine AH [7] Z Z (fun _=>AB (AN rfl FL Z Z Z)) ?_
   first | refine AE [41] [] Z Z (fun _=>AB (A0 Z Z Be rfl)) ?_ | refine AH [41] Z Z (fun _=>AB (A0 Z Z Be rfl)) ?_ | refine AE [41] [] Z Z (fun _=>AB (AX Z Z Z Be rfl)) ?_ | refine AH [41] Z Z (fun _=>AB (AX Z Z Z Be rfl)) ?_ | refine AE [41] [] Z Z (fun _=>AB (AZ Z Z (rfl) rfl Be rfl)) ?_ | refine AH [41] Z Z (fun _=>AB (AZ Z Z (rfl) rfl Be rfl)) ?_
   have g:=(hsm (DP i.pa[m].f i.pa[m].t)).1
   first | refine AE [40,42] [] Z Z (fun _=>AB (Ev Z Z (IntWalk.i64_in _ (by omega)) rfl)) ?_ | refine AH [40,42] Z Z (fun _=>AB (Ev Z Z (IntWalk.i64_in _ (by omega)) rfl)) ?_
   refine G7 [34,39] [2] [(44,_)] Z Z (fun _=>G8 (Hk (N) (DP i.pa[m].f i.pa[m].t) (0) Z Z Z Gr DQ Px Z Z)) (.inr ⟨44,_,rfl,rfl,rfl,rfl,rfl⟩) Z Z Z Z Z ?_ (hCn:=R3 rfl)
   first | refine AE [44] [] Z Z (fun _=>AB (BU Z Z Z)) ?_ | refine AH [44] Z Z (fun _=>AB (BU Z Z Z)) ?_ | refine AE [44] [] Z Z (fun _=>AB (BV Z Z Z)) ?_ | refine AH [44] Z Z (fun _=>AB (BV Z Z Z)) ?_
   refine Gf 12 Z Z Z (BE 13 Z Z (G (Hl (N) (DP i.pa[m].f i.pa[m].t) (0) (Ai N (DP i.pa[m].f i.pa[m].t) 0 - i.pa[m].n) Z Z Z DQ Z Z) (AI ⟨rfl,?_⟩)));refine Ge (AG (Gs [[],[],[1],[],[3],[1,2,3,4],[0,1,2,3,4,5],[],[7],[0,1,2,3,4,5,6,7,8],[0,1,2,3,4,5,7,8],[0,1,2,3,4,5,7,8,10],[0,1,2,3,4,5,6,7,8,9,10,11]] BF rfl (Xx 2 ([CD E1 AF (B4 (KH N i.pa[m]) (DP i.pa[m].t i.pa[m].f) 0)]) rfl ?_)))
   first | refine AE [3] [] Z Z (fun _=>AB (Bb Z Z)) ?_ | refine AH [3] Z Z (fun _=>AB (Bb Z Z)) ?_
   first | refine AE [7] [] Z Z (fun _=>AB (AO rfl GO Z Z Z)) ?_ | refine AH [7] Z Z (fun _=>AB (AO rfl GO Z Z Z)) ?_ | refine AE [7] [] Z Z (fun _=>AB (AQ rfl GO Z Z Z)) ?_ | refine AH [7] Z Z (fun _=>AB (AQ rfl GO Z Z Z)) ?_ | refine AE [7] [] Z Z (fun _=>AB (AR rfl GO Z Z Z)) ?_ | refine AH [7] Z Z (fun _=>AB (AR rfl GO Z Z Z)) ?_ | refine AE [7] [] Z Z (fun _=>AB (AP rfl GO Z Z Z)) ?_ | refine AH [7] Z Z (fun _=>AB (AP rfl GO Z Z Z)) ?_ | refine AE [7] [] Z Z (fun _=>AB (AN rfl GO Z Z Z)) ?_ | refine AH [7] Z Z (fun _=>AB (AN rfl GO Z Z Z)) ?_
   first | refine AE [47] [] Z Z (fun _=>AB (A0 Z Z Ar rfl)) ?_ | refine AH [47] Z Z (fun _=>AB (A0 Z Z Ar rfl)) ?_ | refine AE [47] [] Z Z (fun _=>AB (AX Z Z Z Ar rfl)) ?_ | refine AH [47] Z Z (fun _=>AB (AX Z Z Z Ar rfl)) ?_ | refine AE [47] [] Z Z (fun _=>AB (AZ Z Z (rfl) rfl Ar rfl)) ?_ | refine AH [47] Z Z (fun _=>AB (AZ Z Z (rfl) rfl Ar rfl)) ?_
   first | refine AE [7] [] Z Z (fun _=>AB (AO rfl GN Z Z Z)) ?_ | refine AH [7] Z Z (fun _=>AB (AO rfl GN Z Z Z)) ?_ | refine AE [7] [] Z Z (fun _=>AB (AQ rfl GN Z Z Z)) ?_ | refine AH [7] Z Z (fun _=>AB (AQ rfl GN Z Z Z)) ?_ | refine AE [7] [] Z Z (fun _=>AB (AR rfl GN Z Z Z)) ?_ | refine AH [7] Z Z (fun _=>AB (AR rfl GN Z Z Z)) ?_ | refine AE [7] [] Z Z (fun _=>AB (AP rfl GN Z Z Z)) ?_ | refine AH [7] Z Z (fun _=>AB (AP rfl GN Z Z Z)) ?_ | refine AE [7] [] Z Z (fun _=>AB (AN rfl GN Z Z Z)) ?_ | refine AH [7] Z Z (fun _=>AB (AN rfl GN Z Z Z)) ?_
   first | refine AE [49] [] Z Z (fun _=>AB (A0 Z Z Ar rfl)) ?_ | refine AH [49] Z Z (fun _=>AB (A0 Z Z Ar rfl)) ?_ | refine AE [49] [] Z Z (fun _=>AB (AX Z Z Z Ar rfl)) ?_ | refine AH [49] Z Z (fun _=>AB (AX Z Z Z Ar rfl)) ?_ | refine AE [49] [] Z Z (fun _=>AB (AZ Z Z (rfl) rfl Ar rfl)) ?_ | refine AH [49] Z Z (fun _=>AB (AZ Z Z (rfl) rfl Ar rfl)) ?_
   first | refine AE [48,50] [] Z Z (fun _=>AB (DC Gi J5 Z Z Z)) ?_ | refine AH [48,50] Z Z (fun _=>AB (DC Gi J5 Z Z Z)) ?_
   refine Jw [46,51] [] Z Z Z (fun _=>AB (LT (KH N i.pa[m]) (DP i.pa[m].t i.pa[m].f) (0) _ Z Z Z Gr DQ Px Z Z)) (fun _=>AB (LT (B4 (KH N i.pa[m]) (DP i.pa[m].t i.pa[m].f) (0)) (DP i.pa[m].t i.pa[m].f) (0) _ Z Z Z Gr DQ Px (FB _ _ _ _) rfl)) ?_
   first | refine AE [7] [] Z Z (fun _=>AB (AO rfl FL Z Z Z)) ?_ | refine AH [7] Z Z (fun _=>AB (AO rfl FL Z Z Z)) ?_ | refine AE [7] [] Z Z (fun _=>AB (AQ rfl FL Z Z Z)) ?_ | refine AH [7] Z Z (fun _=>AB (AQ rfl FL Z Z Z)) ?_ | refine AE [7] [] Z Z (fun _=>AB (AR rfl FL Z Z Z)) ?_ | refine AH [7] Z Z (fun _=>AB (AR rfl FL Z Z Z)) ?_ | refine AE [7] [] Z Z (fun _=>AB (AP rfl FL Z Z Z)) ?_ | refine AH [7] Z Z (fun _=>AB (AP rfl FL Z Z Z)) ?_ | refine AE [7] [] Z Z (fun _=>AB (AN rfl FL Z Z Z)) ?_ | refine AH [7] Z Z (fun _=>AB (AN rfl FL Z Z Z)) ?_
   first | refine AE [53] [] Z Z (fun _=>AB (A0 Z Z Be rfl)) ?_ | refine AH [53] Z Z (fun _=>AB (A0 Z Z Be rfl)) ?_ | refine AE [53] [] Z Z (fun _=>AB (AX Z Z Z Be rfl)) ?_ | refine AH [53] Z Z (fun _=>AB (AX Z Z Z Be rfl)) ?_ | refine AE [53] [] Z Z (fun _=>AB (AZ Z Z (rfl) rfl Be rfl)) ?_ | refine AH [53] Z Z (fun _=>AB (AZ Z Z (rfl) rfl Be rfl)) ?_
   have g:=(hsm (DP i.pa[m].t i.pa[m].f)).2.1
   first | refine AE [52,54] [] Z Z (fun _=>AB (By Z Z (IntWalk.i64_in _ (by omega)) rfl)) ?_ | refine AH [52,54] Z Z (fun _=>AB (By Z Z (IntWalk.i64_in _ (by omega)) rfl)) ?_
   refine G7 [46,51] [2] [(56,_)] Z Z (fun _=>G8 (Hk (KH N i.pa[m]) (DP i.pa[m].t i.pa[m].f) (0) Z Z Z Gr DQ Px Z Z)) (.inr ⟨56,_,rfl,rfl,rfl,rfl,rfl⟩) Z Z Z Z Z ?_ (hCn:=R3 rfl)
   first | refine AE [56] [] Z Z (fun _=>AB (BU Z Z Z)) ?_ | refine AH [56] Z Z (fun _=>AB (BU Z Z Z)) ?_ | refine AE [56] [] Z Z (fun _=>AB (BV Z Z Z)) ?_ | refine AH [56] Z Z (fun _=>AB (BV Z Z Z)) ?_
   refine Gf 12 Z Z Z (BE 13 Z Z (G (Hl (KH N i.pa[m]) (DP i.pa[m].t i.pa[m].f) (0) (Ai (KH N i.pa[m]) (DP i.pa[m].t i.pa[m].f) 0+i.pa[m].n) Z Z Z DQ Z Z) (AI ⟨rfl,?_⟩)));refine Ge (AG (Gs [[],[],[1],[1,2],[0,1,2,3],[],[5],[0,1,2,3,4,5,6],[0,1,2,3,5,6],[0,1,2,3,5,6,8],[0,1,2,3,4,5,6,7,8,9]] BF rfl (Xx 2 ([CD E1 AF (B4 (Oy (KH N i.pa[m]) i.pa[m]) (EI i.pa[m].f) 0)]) rfl ?_)))
   first | refine AE [3] [] Z Z (fun _=>AB (Bb Z Z)) ?_ | refine AH [3] Z Z (fun _=>AB (Bb Z Z)) ?_
   first | refine AE [7] [] Z Z (fun _=>AB (AO rfl GN Z Z Z)) ?_ | refine AH [7] Z Z (fun _=>AB (AO rfl GN Z Z Z)) ?_ | refine AE [7] [] Z Z (fun _=>AB (AQ rfl GN Z Z Z)) ?_ | refine AH [7] Z Z (fun _=>AB (AQ rfl GN Z Z Z)) ?_ | refine AE [7] [] Z Z (fun _=>AB (AR rfl GN Z Z Z)) ?_ | refine AH [7] Z Z (fun _=>AB (AR rfl GN Z Z Z)) ?_ | refine AE [7] [] Z Z (fun _=>AB (AP rfl GN Z Z Z)) ?_ | refine AH [7] Z Z (fun _=>AB (AP rfl GN Z Z Z)) ?_ | refine AE [7] [] Z Z (fun _=>AB (AN rfl GN Z Z Z)) ?_ | refine AH [7] Z Z (fun _=>AB (AN rfl GN Z Z Z)) ?_
   first | refine AE [59] [] Z Z (fun _=>AB (A0 Z Z Ar rfl)) ?_ | refine AH [59] Z Z (fun _=>AB (A0 Z Z Ar rfl)) ?_ | refine AE [59] [] Z Z (fun _=>AB (AX Z Z Z Ar rfl)) ?_ | refine AH [59] Z Z (fun _=>AB (AX Z Z Z Ar rfl)) ?_ | refine AE [59] [] Z Z (fun _=>AB (AZ Z Z (rfl) rfl Ar rfl)) ?_ | refine AH [59] Z Z (fun _=>AB (AZ Z Z (rfl) rfl Ar rfl)) ?_
   first | refine AE [60] [] Z Z (fun _=>AB (DC Gi J5 Z Z Z)) ?_ | refine AH [60] Z Z (fun _=>AB (DC Gi J5 Z Z Z)) ?_
   refine Jw [58,61] [] Z Z Z (fun _=>AB (LT (Oy (KH N i.pa[m]) i.pa[m]) (EI i.pa[m].f) (0) _ Z Z Z Gr DQ Px Z Z)) (fun _=>AB (LT (B4 (Oy (KH N i.pa[m]) i.pa[m]) (EI i.pa[m].f) (0)) (EI i.pa[m].f) (0) _ Z Z Z Gr DQ Px (FB _ _ _ _) rfl)) ?_
   first | refine AE [7] [] Z Z (fun _=>AB (AO rfl FL Z Z Z)) ?_ | refine AH [7] Z Z (fun _=>AB (AO rfl FL Z Z Z)) ?_ | refine AE [7] [] Z Z (fun _=>AB (AQ rfl FL Z Z Z)) ?_ | refine AH [7] Z Z (fun _=>AB (AQ rfl FL Z Z Z)) ?_ | refine AE [7] [] Z Z (fun _=>AB (AR rfl FL Z Z Z)) ?_ | refine AH [7] Z Z (fun _=>AB (AR rfl FL Z Z Z)) ?_ | refine AE [7] [] Z Z (fun _=>AB (AP rfl FL Z Z Z)) ?_ | refine AH [7] Z Z (fun _=>AB (AP rfl FL Z Z Z)) ?_ | refine AE [7] [] Z Z (fun _=>AB (AN rfl FL Z Z Z)) ?_ | refine AH [7] Z Z (fun _=>AB (AN rfl FL Z Z Z)) ?_
   first | refine AE [63] [] Z Z (fun _=>AB (A0 Z Z Be rfl)) ?_ | refine AH [63] Z Z (fun _=>AB (A0 Z Z Be rfl)) ?_ | refine AE [63] [] Z Z (fun _=>AB (AX Z Z Z Be rfl)) ?_ | refine AH [63] Z Z (fun _=>AB (AX Z Z Z Be rfl)) ?_ | refine AE [63] [] Z Z (fun _=>AB (AZ Z Z (rfl) rfl Be rfl)) ?_ | refine AH [63] Z Z (fun _=>AB (AZ Z Z (rfl) rfl Be rfl)) ?_
   have g:=(hsm (EI i.pa[m].f)).2.2.1
   first | refine AE [62,64] [] Z Z (fun _=>AB (Ev Z Z (IntWalk.i64_in _ (by omega)) rfl)) ?_ | refine AH [62,64] Z Z (fun _=>AB (Ev Z Z (IntWalk.i64_in _ (by omega)) rfl)) ?_
   refine G7 [58,61] [2] [(66,_)] Z Z (fun _=>G8 (Hk (Oy (KH N i.pa[m]) i.pa[m]) (EI i.pa[m].f) (0) Z Z Z Gr DQ Px Z Z)) (.inr ⟨66,_,rfl,rfl,rfl,rfl,rfl⟩) Z Z Z Z Z ?_ (hCn:=R3 rfl)
   first | refine AE [66] [] Z Z (fun _=>AB (BU Z Z Z)) ?_ | refine AH [66] Z Z (fun _=>AB (BU Z Z Z)) ?_ | refine AE [66] [] Z Z (fun _=>AB (BV Z Z Z)) ?_ | refine AH [66] Z Z (fun _=>AB (BV Z Z Z)) ?_
   refine Gf 10 Z Z Z (BE 11 Z Z (G (Hl (Oy (KH N i.pa[m]) i.pa[m]) (EI i.pa[m].f) (0) (Ai (Oy (KH N i.pa[m]) i.pa[m]) (EI i.pa[m].f) 0 - i.pa[m].n) Z Z Z DQ Z Z) (AI ⟨rfl,?_⟩)));refine Ge (Gs [[],[],[1],[1,2],[0,1,2,3],[],[5],[0,1,2,3,4,5,6],[0,1,2,3,5,6],[0,1,2,3,5,6,8],[0,1,2,3,4,5,6,7,8,9]] BF rfl (Xx 2 ([CD E1 AF (B4 (st3 (Oy (KH N i.pa[m]) i.pa[m]) i.pa[m]) (EI i.pa[m].t) 0)]) rfl ?_))
   first | refine AE [3] [] Z Z (fun _=>AB (Bb Z Z)) ?_ | refine AH [3] Z Z (fun _=>AB (Bb Z Z)) ?_
   first | refine AE [7] [] Z Z (fun _=>AB (AO rfl GO Z Z Z)) ?_ | refine AH [7] Z Z (fun _=>AB (AO rfl GO Z Z Z)) ?_ | refine AE [7] [] Z Z (fun _=>AB (AQ rfl GO Z Z Z)) ?_ | refine AH [7] Z Z (fun _=>AB (AQ rfl GO Z Z Z)) ?_ | refine AE [7] [] Z Z (fun _=>AB (AR rfl GO Z Z Z)) ?_ | refine AH [7] Z Z (fun _=>AB (AR rfl GO Z Z Z)) ?_ | refine AE [7] [] Z Z (fun _=>AB (AP rfl GO Z Z Z)) ?_ | refine AH [7] Z Z (fun _=>AB (AP rfl GO Z Z Z)) ?_ | refine AE [7] [] Z Z (fun _=>AB (AN rfl GO Z Z Z)) ?_ | refine AH [7] Z Z (fun _=>AB (AN rfl GO Z Z Z)) ?_
   first | refine AE [69] [] Z Z (fun _=>AB (A0 Z Z Ar rfl)) ?_ | refine AH [69] Z Z (fun _=>AB (A0 Z Z Ar rfl)) ?_ | refine AE [69] [] Z Z (fun _=>AB (AX Z Z Z Ar rfl)) ?_ | refine AH [69] Z Z (fun _=>AB (AX Z Z Z Ar rfl)) ?_ | refine AE [69] [] Z Z (fun _=>AB (AZ Z Z (rfl) rfl Ar rfl)) ?_ | refine AH [69] Z Z (fun _=>AB (AZ Z Z (rfl) rfl Ar rfl)) ?_
   first | refine AE [70] [] Z Z (fun _=>AB (DC Gi J5 Z Z Z)) ?_ | refine AH [70] Z Z (fun _=>AB (DC Gi J5 Z Z Z)) ?_
   refine Jw [68,71] [] Z Z Z (fun _=>AB (LT (st3 (Oy (KH N i.pa[m]) i.pa[m]) i.pa[m]) (EI i.pa[m].t) (0) _ Z Z Z Gr DQ Px Z Z)) (fun _=>AB (LT (B4 (st3 (Oy (KH N i.pa[m]) i.pa[m]) i.pa[m]) (EI i.pa[m].t) (0)) (EI i.pa[m].t) (0) _ Z Z Z Gr DQ Px (FB _ _ _ _) rfl)) ?_
   first | refine AE [7] [] Z Z (fun _=>AB (AO rfl FL Z Z Z)) ?_ | refine AH [7] Z Z (fun _=>AB (AO rfl FL Z Z Z)) ?_ | refine AE [7] [] Z Z (fun _=>AB (AQ rfl FL Z Z Z)) ?_ | refine AH [7] Z Z (fun _=>AB (AQ rfl FL Z Z Z)) ?_ | refine AE [7] [] Z Z (fun _=>AB (AR rfl FL Z Z Z)) ?_ | refine AH [7] Z Z (fun _=>AB (AR rfl FL Z Z Z)) ?_ | refine AE [7] [] Z Z (fun _=>AB (AP rfl FL Z Z Z)) ?_ | refine AH [7] Z Z (fun _=>AB (AP rfl FL Z Z Z)) ?_ | refine AE [7] [] Z Z (fun _=>AB (AN rfl FL Z Z Z)) ?_ | refine AH [7] Z Z (fun _=>AB (AN rfl FL Z Z Z)) ?_
   first | refine AE [73] [] Z Z (fun _=>AB (A0 Z Z Be rfl)) ?_ | refine AH [73] Z Z (fun _=>AB (A0 Z Z Be rfl)) ?_ | refine AE [73] [] Z Z (fun _=>AB (AX Z Z Z Be rfl)) ?_ | refine AH [73] Z Z (fun _=>AB (AX Z Z Z Be rfl)) ?_ | refine AE [73] [] Z Z (fun _=>AB (AZ Z Z (rfl) rfl Be rfl)) ?_ | refine AH [73] Z Z (fun _=>AB (AZ Z Z (rfl) rfl Be rfl)) ?_
   have g:=(hsm (EI i.pa[m].t)).2.2.2
   first | refine AE [72,74] [] Z Z (fun _=>AB (By Z Z (IntWalk.i64_in _ (by omega)) rfl)) ?_ | refine AH [72,74] Z Z (fun _=>AB (By Z Z (IntWalk.i64_in _ (by omega)) rfl)) ?_
   refine G7 [68,71] [2] [(76,_)] Z Z (fun _=>G8 (Hk (st3 (Oy (KH N i.pa[m]) i.pa[m]) i.pa[m]) (EI i.pa[m].t) (0) Z Z Z Gr DQ Px Z Z)) (.inr ⟨76,_,rfl,rfl,rfl,rfl,rfl⟩) Z Z Z Z Z ?_ (hCn:=R3 rfl)
   first | refine AE [76] [] Z Z (fun _=>AB (BU Z Z Z)) ?_ | refine AH [76] Z Z (fun _=>AB (BU Z Z Z)) ?_ | refine AE [76] [] Z Z (fun _=>AB (BV Z Z Z)) ?_ | refine AH [76] Z Z (fun _=>AB (BV Z Z Z)) ?_
   refine Gf 10 Z Z Z (BE 11 Z Z (G (Hl (st3 (Oy (KH N i.pa[m]) i.pa[m]) i.pa[m]) (EI i.pa[m].t) (0) (Ai (st3 (Oy (KH N i.pa[m]) i.pa[m]) i.pa[m]) (EI i.pa[m].t) 0+i.pa[m].n) Z Z Z DQ Z Z) (AI ⟨rfl,?_⟩)));refine Ge (AJ (J (By Z Z (Ad (m+1) (by omega)) rfl) (AC Z Z (AI ?_))));exact ⟨(m+1,_),⟨by show m+1≤_;omega,by show _=sumL (Jx i.po++Mt (i.pa.take (m+1)));rw [V6 hm1,←List.append_assoc];exact (WT hN).2.2.2⟩,by show i.pa.length - (m+1)<i.pa.length - m;omega,BS hF [2] rfl (rfl) ⟨rfl,rfl,rfl,rfl,trivial⟩⟩
  ·refine Ct (AG (AJ (AC Z Z (AD Z Z (AI (Af ?_))))));exact ⟨_,[2],_,Ae rfl,rfl,rfl,rfl,by rw [hN,List.take_of_length_le (by have h:=h31;omega)]<;>rfl⟩
end Go.Proofs.YtnkkaeblokdifaaGreat
