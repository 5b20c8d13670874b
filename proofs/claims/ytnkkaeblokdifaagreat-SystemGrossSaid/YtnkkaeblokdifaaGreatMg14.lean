/- Laws as rows: arguments opened by their types, and a contract over frozen data. -/
import Derived.Test.YtnkkaeblokdifaaGreatMg13
import Derived.SizedLaws
namespace Go.Proofs.YtnkkaeblokdifaaGreat
open Go.ChangeShapes Go.WideShapes Go.ChangeAt Go.RowKit Go.Deep
abbrev noB:Nat ->Prop:=fun _=>False
def T7 (w:World) (d:D) (cs:List Value):Prop:=cs.length=d.cells.length∧(∀c∈d.cells,c.one=true)∧∀(j:Nat) c u,d.cells[j]?=some c ->cs[j]?=some u ->A1 w noB c u
theorem Jl {w:World} {d:D} {u:Value} (hd:d.one=true) (h:A1 w noB d u):T7 w d [u]:=by
 rw [T7,D.cells_one hd];refine ⟨rfl,by simp [hd],fun j c u' hc hu=>?_⟩
 cases j with
 | zero=>simp at hc hu;subst hc hu;exact h
 | succ j=>simp at hc
theorem T7.argS {w:World} {ρ:Nat ->Nat ->Value} {O:Nat ->Prop} {ds:List D} {cs:Array Value} (hO:O=noB) (h:T7 w (.agg ds) (Value.agg cs).cells.toList):A3 w O ρ (.d (.agg ds)) (.agg cs):=by
 subst hO;obtain ⟨h1,h2,h3⟩:=h;have:=A1.agg (w:=w) (O:=noB) (cs:=ds) (vs:=cs.toList) h1 h2 h3;exact .d (by simpa using this)
section
variable {H:Type} {enc:TypeId×Value ->H} {P:Program} {w:World}
def CV {α:Type} (enc:TypeId×Value ->H) (P:Program) (w:World) (t:TypeId) (k:Nat) (emb:α ->D) (Q:α ->Prop):Prop:=
 ∀fuel cs x,DataW.trod enc P w 0 (fun _=>true) true fuel t cs=some x ->(∀p∈x.2,p.block<w.heap.size) ->(∀n∈x.1.weights P t,n≤reachBytes) ->∃a,Q a∧(emb a).cells.length=k∧T7 w (emb a) cs
theorem MG {e:TypeId} {l:List (DataW H)} {d:DataW H} (hd:d∈l) {n:Nat} (hn:n∈d.weights P e):n∈DataW.weightsAll P e l:=by
 induction l with
 | nil=>cases hd
 | cons a r ih=>
  simp only [DataW.weightsAll,List.mem_append];rcases List.mem_cons.1 hd with rfl | hd
  ·exact .inl hn
  ·exact .inr (ih hd)
theorem openInt {t:TypeId} {k:IntKind} (ht:P.underlying t=some (.int k)):CV enc P w t 1 (fun z:Int=> .raw (.int k z)) (fun z=>k.min≤z∧z≤k.max):=fun fuel cs x h _ _=>by
 obtain ⟨z,rfl,_,hw⟩:=DataW.trod_int ht h;simp only [Lit.wf,Bool.and_eq_true,decide_eq_true_eq] at hw;exact ⟨z,hw,rfl,Jl rfl (.raw rfl)⟩
theorem openStr {t:TypeId} (ht:P.underlying t=some .string):CV enc P w t 1 (fun s:ByteArray=> .raw (.string s)) (fun s=>s.size≤140737488351232):=fun fuel cs x h _ hw=>by
 obtain ⟨s,rfl,rfl,hs⟩:=DataW.trod_string ht h;exact ⟨s,by simpa [DataW.weights,reachBytes] using hw,rfl,Jl rfl (.raw rfl)⟩
theorem Ma {α:Type} {t e:TypeId} {k b:Nat} {emb:α ->D} {Q:α ->Prop} (ht:P.underlying t=some (.slice e)) (hk:P.cellsOf e=k) (hk0:0<k) (hb:P.bytesOf e=b) (hO:CV enc P w e k emb Q):CV enc P w t 1 (fun l:List α=> .sl none (l.map emb)) (fun l=>(∀a∈l,Q a)∧l.length*b≤140737488351232):=fun fuel cs x h hlt hwt=>by
 rcases open_slice ht h with ⟨rfl,rfl⟩ | ⟨a,len,cap,m,n,Dd,Pl,rfl,_,hl,hm,hmm,rfl,hi⟩
 ·refine ⟨[],⟨by simp,by simp⟩,rfl,Jl rfl (.sl k (fun b hb=>by cases hb) (fun _=>rfl) rfl (Nat.le_refl _) (Nat.zero_le _) (by simp) (by simp) (fun b o e=>by cases e))⟩
 ·simp only [if_true] at hmm;subst hmm
  have hall:∀i,i<len ->∃y:α,Q y∧(emb y).cells.length=k∧∃cs':List Value,T7 w (emb y) cs'∧∀j,j<k ->w.cell? ((a.add (i*k)).add j)=cs'[j]?:=by
   intro i hil;obtain ⟨cs',hc,ht'⟩:=hi i (by omega)
   obtain ⟨y,hq,hyk,hr⟩:=hO _ _ _ ht' (fun p hp=>hlt p (by
    simp only [List.mem_append,List.mem_flatMap,List.mem_range]
    exact .inr ⟨i,by omega,hp⟩)) (fun n hn=>hwt n (by
    simp only [DataW.weights,ht,List.mem_cons,List.mem_append]
    exact .inr (.inl (MG (List.mem_map.2 ⟨i,List.mem_range.2 hil,rfl⟩) hn))))
   obtain ⟨_,hlen,hat⟩:=World.cells?_some hc;rw [hk] at hat;exact ⟨y,hq,hyk,cs',hr,hat⟩
  obtain ⟨l,hln,hlq⟩:=list_of len hall;refine ⟨l,⟨fun y hy=>?_,?_⟩,rfl,Jl rfl (.sl k (fun b hb=>by cases hb) (fun e=>by cases e) (by rw [List.length_map];exact hln) hl hm (fun x hx=>?_) (fun hne=>?_) (fun b o e i x hx=>?_))⟩
  ·obtain ⟨i,hi',rfl⟩:=List.getElem_of_mem hy;exact (hlq i _ (List.getElem?_eq_getElem hi')).1
  ·have h1:=hwt ((len+(m - len))*P.bytesOf e) (by simp [DataW.weights,ht]);rw [hb] at h1;have h2:=Nat.mul_le_mul_right b (show l.length≤len+(m - len) by omega);have h3:reachBytes=140737488351232:=rfl;omega
  ·obtain ⟨y,hy,rfl⟩:=List.mem_map.1 hx;obtain ⟨i,hi',rfl⟩:=List.getElem_of_mem hy;exact (hlq i _ (List.getElem?_eq_getElem hi')).2.1
  ·have h0:0<l.length:=by
    cases l with
    | nil=>exact absurd rfl hne
    | cons _ _=>simp
   obtain ⟨_,h1,cs',h2,h3⟩:=hlq 0 _ (List.getElem?_eq_getElem h0);have h4:=h3 0 hk0;have hlen:cs'.length=k:=by rw [h2.1,h1]
   rw [List.getElem?_eq_getElem (by omega)] at h4;have:a.spot=none:=by simpa [Addr.add] using World.cell?_spot h4
   exact ⟨a.block,a.off,by cases a;simp_all⟩
  ·rw [List.getElem?_map] at hx
   cases hy:l[i]? with
   | none=>rw [hy] at hx;cases hx
   | some y=>
    rw [hy] at hx;injection hx with hx
    subst hx;obtain ⟨hq,h1,cs',h2,h3⟩:=hlq i y hy;injection e with e
    subst e;have hlen:cs'.length=k:=by rw [h2.1,h1]
    have hil:i<len:=by rw [←hln];exact (List.getElem?_eq_some_iff.1 hy).1
    have hin:∀j,j<k ->w.cell? ⟨b,o+i*k+j,none⟩=cs'[j]?:=fun j hj=>by
     have:=h3 j hj
     rwa [Go.WideShapes.add_plain,Go.WideShapes.add_plain] at this
    refine .ptr (fun j=>cs'.getD j undef) ?_ (fun h=>h) h2.2.1 (fun j c hc=>?_) (fun j c hc=>?_)
    ·have hmem:MemPlace.cell b (o+i*k)∈MemPlace.row ⟨b,o,none⟩ (m*P.cellsOf e):=MemPlace.mem_row.2 ⟨i*k,by
      rw [hk];have:(i+1)*k≤m*k:=Nat.mul_le_mul_right _ (by omega)
      rw [Nat.add_mul] at this;omega,rfl⟩
     exact hlt _ (List.mem_append_left _ hmem)
    ·have hj:j<k:=by rw [←h1];exact (List.getElem?_eq_some_iff.1 hc).1
     rw [hin j hj,List.getD_eq_getElem?_getD,List.getElem?_eq_getElem (by omega)];rfl
    ·have hj:j<k:=by rw [←h1];exact (List.getElem?_eq_some_iff.1 hc).1
     rw [List.getD_eq_getElem?_getD,List.getElem?_eq_getElem (by omega)];exact h2.2.2 j c _ hc (List.getElem?_eq_getElem (by omega))
def QG {α:Type} (enc:TypeId×Value ->H) (P:Program) (w:World) (off total:Nat) (fs:List Field) (emb:α ->List D) (Q:α ->Prop):Prop:=
 ∀n (cs:List Value),cs.length=total ->(∀(i:Nat) f,fs[i]?=some f ->∃x,DataW.trod enc P w 0 (fun _=>true) true n f.type ((cs.drop f.offset).take (P.cellsOf f.type))=some x∧(∀p∈x.2,p.block<w.heap.size)∧∀n∈x.1.weights P f.type,n≤reachBytes)→
  ∃a,Q a∧off+(emb a).length=total∧(∀c∈emb a,c.one=true)∧∀(j:Nat) c u,(emb a)[j]?=some c ->cs[off+j]?=some u ->A1 w noB c u
theorem Iv {total:Nat}:QG enc P w total total [] (fun _:Unit=> []) (fun _=>True):=fun n cs _ _=>⟨(),trivial,rfl,by simp,by simp⟩
theorem Bp {α β:Type} {off k total:Nat} {f:Field} {fs:List Field} {emb:α ->D} {embs:β ->List D} {Q:α ->Prop} {Qs:β ->Prop} (ho:f.offset=off) (hk:P.cellsOf f.type=k) (h1:CV enc P w f.type k emb Q) (h2:QG enc P w (off+k) total fs embs Qs):
  QG enc P w off total (f::fs) (fun a:α×β=>(emb a.1).cells++embs a.2) (fun a=>Q a.1∧Qs a.2):=fun n cs hcs hf=>by
 obtain ⟨x,hx,hp,hwt⟩:=hf 0 f rfl;obtain ⟨a,q1,q2,q3⟩:=h1 _ _ _ hx hp hwt;obtain ⟨b,r1,r2,r3,r4⟩:=h2 n cs hcs (fun i g hg=>hf (i+1) g (by simpa using hg));rw [ho,hk] at q3;refine ⟨(a,b),⟨q1,r1⟩,by simp only [List.length_append,q2];omega,fun c hc=>?_,fun j c u hc hu=>?_⟩
 ·rcases List.mem_append.1 hc with hc | hc
  ·exact q3.2.1 c hc
  ·exact r3 c hc
 ·rcases Nat.lt_or_ge j k with hj | hj
  ·rw [List.getElem?_append_left (by rw [q2];exact hj)] at hc;exact q3.2.2 j c u hc (by rw [List.getElem?_take,if_pos hj,List.getElem?_drop];exact hu)
  ·rw [List.getElem?_append_right (by rw [q2];exact hj),q2] at hc;exact r4 (j - k) c u hc (by rw [show off+k+(j - k)=off+j by omega];exact hu)
theorem Iu {α:Type} {t:TypeId} {fs:Array Field} {k:Nat} {embs:α ->List D} {Q:α ->Prop} (ht:P.underlying t=some (.struct fs)) (hk:P.cellsOf t=k) (h:QG enc P w 0 k fs.toList embs Q):CV enc P w t k (fun a=> .agg (embs a)) Q:=fun fuel cs x hx hlt hwt=>by
 obtain ⟨xs,n,_,rfl,hl,hlen,hf⟩:=DataW.trod_struct ht hx
 obtain ⟨a,q1,q2,q3,q4⟩:=h n cs (by rw [hl,hk]) (fun i f hi=>by
  have hi':fs[i]?=some f:=by simpa using hi
  have hlt':i<xs.length:=by rw [hlen];exact (Array.getElem?_eq_some_iff.1 hi').1
  refine ⟨xs[i],by rw [hf i f hi'];exact List.getElem?_eq_getElem hlt',fun p hp=>hlt p (List.mem_flatMap.2 ⟨_,List.getElem_mem hlt',hp⟩),fun n hn=>hwt n ?_⟩;simp only [DataW.weights,ht]
  refine DataW.weights_mem_each (j:=i) (t:=f.type) (d:=xs[i].1) (by rw [List.getElem?_map];simp [hi']) (by rw [List.getElem?_map,List.getElem?_eq_getElem hlt'];rfl) n hn)
 rw [Nat.zero_add] at q2;exact ⟨a,q1,q2,by show cs.length=_;rw [hl,hk];exact q2.symm,q3,fun j c u hc hu=>q4 j c u hc (by rw [Nat.zero_add];exact hu)⟩
theorem CV.as {α β:Type} {t:TypeId} {k:Nat} {emb:α ->D} {Q:α ->Prop} {emb':β ->D} {Q':β ->Prop} (h:CV enc P w t k emb Q) (f:α ->β) (he:∀a,emb a=emb' (f a)) (hq:∀a,Q a ->Q' (f a)):CV enc P w t k emb' Q':=fun fuel cs x hx hlt hwt=>by
 obtain ⟨a,h1,h2,h3⟩:=h fuel cs x hx hlt hwt;exact ⟨f a,hq a h1,by rw [←he];exact h2,by rw [←he];exact h3⟩
end
theorem Vd {P:Program} {f:FuncId} {args:List AV} (h:AU P f args (.raw (.bool true))) {w:World} {vs:List Value} (hl:vs.length=args.length) (hr:∀(i:Nat) a v,args[i]?=some a ->vs[i]?=some v ->A3 w noB (fun _ _=>undef) a v):
  Calls P f vs.toArray w fun e w'=>e= .returned (.bool true)∧Below w.heap.size w w':=by
 have hno:∀ρ b,¬Ar ρ [] b:=fun ρ b ⟨_,_,_,h,_⟩=>by cases h
 let ρ:Nat ->Nat ->Value:=fun _ _=>undef
 let F:Fr:=Fr.mk none w.heap.size w noB (Ar ρ []) (Cn ρ []) (fun b hb=>hb.elim) [] (fun _ _ _ h=>Da h)
 have hO:F.O ρ []=noB:=funext fun b=>propext ⟨fun h=>h.elim id fun h=>(hno ρ b h).elim,fun h=>h.elim⟩
 have hheap:B8 F [] ρ w:=⟨(fun f i o ho=>by cases ho),(fun f i f' i' o o' b ho=>by cases ho),fun b hb=>(hno ρ b hb).elim,rfl,rfl,rfl,Nat.le_refl _,fun _ _ _=>rfl,fun f i b hb=>Zc9 hb,Nat.le_refl _⟩
 refine (h.2 F ρ vs Z Z ⟨rfl,rfl,rfl⟩ hheap hl (fun i a v ha hv=>by rw [hO];exact hr i a v ha hv)).mono fun e w' ⟨v,r,H',ρ',e1,⟨e2,e3⟩,hrep,hh'⟩=>?_;subst e1 e2 e3;refine ⟨?_,hh'.os,hh'.tape,hh'.output,hh'.size0,fun b hlt=>hh'.keep b hlt (hno ρ b)⟩
 cases hrep with
 | d hrep=>
  cases hrep with
  | raw _=>rfl
end Go.Proofs.YtnkkaeblokdifaaGreat
/- Openers under other words. No program in sight. -/
namespace Go.Proofs.YtnkkaeblokdifaaGreat
open Go.ChangeShapes Go.WideShapes Go.ChangeAt Go.RowKit
section
variable {H:Type} {enc:TypeId×Value ->H} {P:Program} {w:World}
theorem CV.asQ {α β:Type} {t:TypeId} {k:Nat} {emb:α ->D} {Q:α ->Prop} {emb':β ->D} {Q':β ->Prop} (h:CV enc P w t k emb Q) (f:α ->β) (he:∀a,Q a ->emb a=emb' (f a)) (hq:∀a,Q a ->Q' (f a)):CV enc P w t k emb' Q':=fun fuel cs x hx hlt hwt=>by
 obtain ⟨a,h1,h2,h3⟩:=h fuel cs x hx hlt hwt;exact ⟨f a,hq a h1,by rw [←he a h1];exact h2,by rw [←he a h1];exact h3⟩
theorem UH {t:TypeId} (ht:P.underlying t=some (.int .i64)):CV enc P w t 1 (fun n:Int=> .raw (.int .i64 n)) (fun n=> -9223372036854775808≤n∧n≤9223372036854775807):=
 (openInt ht).asQ id (fun _ _=>rfl) (fun _ h=>h)
theorem X0 {t:TypeId} (ht:P.underlying t=some .string):CV enc P w t 1 Am (fun l=>l.length≤140737488351232):=
 (openStr ht).asQ (fun s=>s.data.toList) (fun a _=>rfl) (fun a h=>by simpa using h)
end
end Go.Proofs.YtnkkaeblokdifaaGreat
/- The data of layer 28, and how they lie in memory. -/
namespace Go.Proofs.YtnkkaeblokdifaaGreat
open Go.RowKit
set_option maxRecDepth 100000
abbrev AH (z:Int):D:= .raw (.int .i64 z)
structure PH where
 o:List UInt8
 k:Int
 a:List UInt8
structure A5 where
 k:Int
 acc:PH
 f:List UInt8
 t:List UInt8
structure Ec where
 acc:PH
 d:Int
structure N1 where
 f:List UInt8
 t:List UInt8
 n:Int
structure AT where
 id:Int
 pr:Int
 sq:Int
 po:List Ec
 pa:List N1
 af:List Int
structure Roo where
 r:A5
 n:Int
structure Prb where
 ro:List Roo
 it:List AT
theorem PH.eq_iff {x y:PH}:x=y↔x.o=y.o∧x.k=y.k∧x.a=y.a:=by cases x;cases y;simp
instance:DecidableEq PH:=fun _ _=>decidable_of_iff _ PH.eq_iff.symm
theorem A5.eq_iff {x y:A5}:x=y↔x.k=y.k∧x.acc=y.acc∧x.f=y.f∧x.t=y.t:=by cases x;cases y;simp
instance:DecidableEq A5:=fun _ _=>decidable_of_iff _ A5.eq_iff.symm
abbrev accD (x:PH):D:= .agg [Am x.o,AH x.k,Am x.a]
abbrev EX (x:A5):D:= .agg [AH x.k,Am x.acc.o,AH x.acc.k,Am x.acc.a,Am x.f,Am x.t]
abbrev Cm (x:Ec):D:= .agg [Am x.acc.o,AH x.acc.k,Am x.acc.a,AH x.d]
abbrev HC (x:N1):D:= .agg [Am x.f,Am x.t,AH x.n]
abbrev BH (x:AT):D:= .agg [AH x.id,AH x.pr,AH x.sq,.sl none (x.po.map Cm),.sl none (x.pa.map HC),.sl none (x.af.map AH)]
abbrev Ff (x:Roo):D:= .agg [AH x.r.k,Am x.r.acc.o,AH x.r.acc.k,Am x.r.acc.a,Am x.r.f,Am x.r.t,AH x.n]
abbrev Cc (x:Prb):D:= .agg [.sl none (x.ro.map Ff),.sl none (x.it.map BH)]
def VK (x:A5):List Value:=[.int .i64 x.k,IZ x.acc.o,.int .i64 x.acc.k,IZ x.acc.a,IZ x.f,IZ x.t]
def Rw (x:PH):List Value:=[IZ x.o,.int .i64 x.k,IZ x.a]
abbrev rscT:List TypeDesc:=[.int .i64,.string,.int .i64,.string,.string,.string]
abbrev accT:List TypeDesc:=[.string,.int .i64,.string]
theorem JH (a b:Int):NK (.int .i64 a) (.int .i64 b)=decide (a=b):=by
 simp only [NK];exact Bool.beq_eq_decide_eq a b
theorem JG (a b:List UInt8):NK (IZ a) (IZ b)=decide (a=b):=by
 simp only [NK,IZ,←beq_toListBytes,Ou]
theorem rsc_eqC (a b:A5):B9 (VK a) (VK b)=decide (a=b):=by
 simp only [VK,B9,JH,JG,A5.eq_iff,PH.eq_iff,Bool.and_true,Bool.decide_and,Bool.and_assoc]
theorem Ue (a b:PH):B9 (Rw a) (Rw b)=decide (a=b):=by
 simp only [Rw,B9,JH,JG,PH.eq_iff,Bool.and_true,Bool.decide_and]
theorem SI {d:TypeDesc} {ds:List TypeDesc} {u:Value} {us:List Value} (h:MapKept.IsKey d u) (hr:BP ds us):BP (d::ds) (u::us):=
 ⟨by simp [hr.1],fun i d' u' hd hu=>by
  cases i with
  | zero=>simp at hd hu;subst hd hu;exact h
  | succ i=>exact hr.2 i d' u' (by simpa using hd) (by simpa using hu)⟩
theorem Kd:BP [] []:=⟨rfl,by simp⟩
theorem VJ (a:A5):BP rscT (VK a):=SI rfl (SI trivial (SI rfl (SI trivial (SI trivial (SI trivial Kd)))))
theorem IW (a:PH):BP accT (Rw a):=SI trivial (SI rfl (SI trivial Kd))
theorem rsc_val (a:A5):(EX a).val?=some (.agg (VK a).toArray):=rfl
theorem DU:Bo Tryz.prog 53 EX (fun a=> .agg (VK a).toArray):=Bo.flat (ds:=rscT) (by kernel_rfl) (by kernel_rfl) rsc_val VJ rsc_eqC
theorem Rm {fs:List (Nat×Option (List AQ))} {f:Nat} {c1 c2:List AQ} (h:B5 fs f=some (some c2)):∀g c,B5 fs g=some c ->C2 f c1 c2 g c:=fun g c hg e=>by
 subst e;rw [h] at hg;injection hg with hg;exact .inr hg.symm
theorem Wv {p q:Prop} [Decidable p] [Decidable q] (h:p↔q):AV.d (.raw (.bool (decide p)))= .d (.raw (.bool (decide q))):=by rw [decide_eq_decide.2 h]
theorem retT {q:Prop} [Decidable q] (h:q):AV.d (.raw (.bool true))= .d (.raw (.bool (decide q))):=by rw [decide_eq_true h]
theorem PY {q:Prop} [Decidable q] (h:¬q):AV.d (.raw (.bool false))= .d (.raw (.bool (decide q))):=by rw [decide_eq_false h]
theorem Aj {a b:Int} (h:a=b):AV.d (.raw (.int .i64 a))= .d (.raw (.int .i64 b)):=by rw [h]
theorem Ac (n:Nat) (h:n≤9223372036854775807):IntKind.i64.wrap (n:Int)=(n:Int):=IntWalk.i64_in _ (by omega)
theorem HJ (n lo hi:Int):AU Tryz.prog 65 [.d (AH n),.d (AH lo),.d (AH hi)] (.raw (.bool (decide (lo≤n∧n≤hi)))):=by
 refine B2 Tryz.func65 Z Z Tryz.ntmps65 Z Z Z fun F hF=>(AF ?_);refine AJ (AD Z Z (AG (AF (AJ (AC Z Z (AC Z Z (J (G7 Z Z Z) (AC Z Z ?_))))))))
 first | refine I5 10 rfl (fun h10=>?_) (fun h10=>?_) | refine Hw 10 rfl (fun h10=>?_) (fun h10=>?_)
 ·refine A9 Z Z Z ?_;refine AC Z Z (A9 Z Z Z (AC Z Z (A9 Z Z Z (J (SY Z Z Z) (J (DX Z Z Z Z) (AD Z Z (AG (Ae ?_))))))));exact ⟨_,[],[],Aa rfl,rfl,rfl,by first | exact Wv (by omega) | exact PY (by omega),rfl⟩
 ·refine A8 Z Z Z Z (A8 Z Z Z Z (A8 Z Z Z Z (J (EC Z Z Z Z) (AD Z Z (AG (Ae ?_))))));exact ⟨_,[],[],Aa rfl,rfl,rfl,by first | exact Wv (by omega) | exact PY (by omega),rfl⟩
theorem G5 (n lo hi:Int):AU Tryz.prog 41 [.d (AH n),.d (AH lo),.d (AH hi)] (.raw (.bool (decide (lo≤n∧n≤hi)))):=by
 refine B2 Tryz.func41 Z Z Tryz.ntmps41 Z Z Z fun F hF=>(AF ?_);refine AJ (AD Z Z (AG (AF (AJ (AC Z Z (AC Z Z (J (G7 Z Z Z) (AC Z Z ?_))))))))
 first | refine I5 10 rfl (fun h10=>?_) (fun h10=>?_) | refine Hw 10 rfl (fun h10=>?_) (fun h10=>?_)
 ·refine A9 Z Z Z ?_;refine AC Z Z (A9 Z Z Z (AC Z Z (A9 Z Z Z (J (SY Z Z Z) (J (DX Z Z Z Z) (AD Z Z (AG (Ae ?_))))))));exact ⟨_,[],[],Aa rfl,rfl,rfl,by first | exact Wv (by omega) | exact PY (by omega),rfl⟩
 ·refine A8 Z Z Z Z (A8 Z Z Z Z (A8 Z Z Z Z (J (EC Z Z Z Z) (AD Z Z (AG (Ae ?_))))));exact ⟨_,[],[],Aa rfl,rfl,rfl,by first | exact Wv (by omega) | exact PY (by omega),rfl⟩
theorem Xk (n:Int):AU Tryz.prog 135 [.d (AH n)] (.raw (.bool false)):=by
 refine B2 Tryz.func135 Z Z Tryz.ntmps135 Z Z Z fun F hF=>(AF (AJ (AD Z Z (AG (AF (AJ (AC Z Z (AC Z Z ?_))))))))
 first | refine J (Fa Z Z Z) ?_ | refine J (F9 Z Z Z) ?_ | refine J (FM Z Z Z) ?_ | refine J (Fb Tryz.underlying3 Z Z Z) ?_ | refine J (Fd Tryz.underlying3 Z Z Z) ?_ | refine J (st_neqN Tryz.underlying3 Z Z) ?_ | refine J (Fc Tryz.underlying3 Z Z Z) ?_ | refine J (st_neqFN Tryz.underlying3 Z Z) ?_
 refine AD Z Z (AG (Ae ?_));exact ⟨_,[],[],Aa rfl,rfl,rfl,by simp,rfl⟩
theorem Xl (l:List UInt8):AU Tryz.prog 136 [.d (Am l)] (.raw (.bool false)):=by
 refine B2 Tryz.func136 Z Z Tryz.ntmps136 Z Z Z fun F hF=>(AF (AJ (AD Z Z (AG (AF (AJ (AC Z Z (AC Z Z ?_))))))))
 first | refine J (Fa Z Z Z) ?_ | refine J (F9 Z Z Z) ?_ | refine J (FM Z Z Z) ?_ | refine J (Fb Tryz.underlying9 Z Z Z) ?_ | refine J (Fd Tryz.underlying9 Z Z Z) ?_ | refine J (st_neqN Tryz.underlying9 Z Z) ?_ | refine J (Fc Tryz.underlying9 Z Z Z) ?_ | refine J (st_neqFN Tryz.underlying9 Z Z) ?_
 refine AD Z Z (AG (Ae ?_));exact ⟨_,[],[],Aa rfl,rfl,rfl,by simp,rfl⟩
def Dk (a b:Int):Int:=if a<b then -1 else if b<a then 1 else 0
def O6 (a b:List UInt8):Bool:=Op.bytesLess a b
def E2 (a b:List UInt8):Int:=if O6 a b=true then -1 else if O6 b a=true then 1 else 0
theorem F2 (a b:List UInt8):Op.bytesLess (⟨a.toArray⟩:ByteArray).toList (⟨b.toArray⟩:ByteArray).toList=O6 a b:=by rw [Lib.toList_data,Lib.toList_data];rfl
theorem JK (a b:Int):AU Tryz.prog 74 [.d (AH a),.d (AH b)] (AH (Dk a b)):=by
 refine B2 Tryz.func74 Z Z Tryz.ntmps74 Z Z Z fun F hF=>(AF (AJ (AD Z Z (AG (AF (AJ (AC Z Z (J (B1 (Xk a) Z Z) ?_))))))));refine AD Z Z (AG (AF (AJ (AC Z Z (J (B1 (Xk b) Z Z) (AD Z Z (AG (AF ?_))))))));refine AF (AJ (AC Z Z (AG (Fs rfl (rfl) (Ak (AF (AF (AJ ?_))))))));refine AC Z Z (AG (Fs rfl (rfl) (Ak (AF (AF (AJ (AC Z Z (AC Z Z ?_))))))))
 first | refine J (CD Z Z Z) ?_ | refine J (CE Z Z Z) ?_
 refine AG ?_
 first | refine Ay rfl (fun h16=>?_) (fun h16=>?_) | refine At rfl (fun h16=>?_) (fun h16=>?_)
 ·refine AF (AJ (AD Z Z (AG (Ae ?_))));exact ⟨_,[],[],Aa rfl,rfl,rfl,by first | exact Aj (by unfold Dk;rw [if_pos (by assumption)]) | exact Aj (by unfold Dk;rw [if_neg (by assumption),if_pos (by omega)]) | exact Aj (by unfold Dk;rw [if_neg (by assumption),if_neg (by omega)]),rfl⟩
 ·refine Ak (AF (AF (AJ (AC Z Z (AC Z Z ?_)))))
  first | refine J (Ca Z Z Z) ?_ | refine J (SB Z Z Z) ?_
  refine AG ?_
  first | refine Ay rfl (fun h19=>?_) (fun h19=>?_) | refine At rfl (fun h19=>?_) (fun h19=>?_)
  ·refine AF (AJ (AD Z Z (AG (Ae ?_))));exact ⟨_,[],[],Aa rfl,rfl,rfl,by first | exact Aj (by unfold Dk;rw [if_pos (by assumption)]) | exact Aj (by unfold Dk;rw [if_neg (by assumption),if_pos (by omega)]) | exact Aj (by unfold Dk;rw [if_neg (by assumption),if_neg (by omega)]),rfl⟩
  ·refine Ak (AF (AJ (AD Z Z (AG (Ae ?_)))));exact ⟨_,[],[],Aa rfl,rfl,rfl,by first | exact Aj (by unfold Dk;rw [if_pos (by assumption)]) | exact Aj (by unfold Dk;rw [if_neg (by assumption),if_pos (by omega)]) | exact Aj (by unfold Dk;rw [if_neg (by assumption),if_neg (by omega)]),rfl⟩
theorem JJ (a b:List UInt8):AU Tryz.prog 75 [.d (Am a),.d (Am b)] (AH (E2 a b)):=by
 refine B2 Tryz.func75 Z Z Tryz.ntmps75 Z Z Z fun F hF=>(AF (AJ (AD Z Z (AG (AF (AJ (AC Z Z (J (B1 (Xl a) Z Z) ?_))))))));refine AD Z Z (AG (AF (AJ (AC Z Z (J (B1 (Xl b) Z Z) (AD Z Z (AG (AF ?_))))))));refine AF (AJ (AC Z Z (AG (Fs rfl (rfl) (Ak (AF (AF (AJ ?_))))))));refine AC Z Z (AG (Fs rfl (rfl) (Ak (AF (AF (AJ (AC Z Z (AC Z Z ?_))))))))
 first | refine J (CD Z Z Z) ?_ | refine J (CE Z Z Z) ?_
 refine AG ?_
 first | refine Ay rfl (fun h16=>?_) (fun h16=>?_) | refine At rfl (fun h16=>?_) (fun h16=>?_)
 ·rw [F2] at h16;refine AF (AJ (AD Z Z (AG (Ae ?_))));exact ⟨_,[],[],Aa rfl,rfl,rfl,by first | exact Aj (by unfold E2;rw [if_pos h16]) | exact Aj (by unfold E2;rw [if_neg (by rw [h16];decide),if_pos h19]) | exact Aj (by unfold E2;rw [if_neg (by rw [h16];decide),if_neg (by rw [h19];decide)]),rfl⟩
 ·rw [F2] at h16;refine Ak (AF (AF (AJ (AC Z Z (AC Z Z ?_)))))
  first | refine J (Ca Z Z Z) ?_ | refine J (SB Z Z Z) ?_
  refine AG ?_
  first | refine Ay rfl (fun h19=>?_) (fun h19=>?_) | refine At rfl (fun h19=>?_) (fun h19=>?_)
  ·rw [F2] at h19;refine AF (AJ (AD Z Z (AG (Ae ?_))));exact ⟨_,[],[],Aa rfl,rfl,rfl,by first | exact Aj (by unfold E2;rw [if_pos h16]) | exact Aj (by unfold E2;rw [if_neg (by rw [h16];decide),if_pos h19]) | exact Aj (by unfold E2;rw [if_neg (by rw [h16];decide),if_neg (by rw [h19];decide)]),rfl⟩
  ·rw [F2] at h19;refine Ak (AF (AJ (AD Z Z (AG (Ae ?_)))));exact ⟨_,[],[],Aa rfl,rfl,rfl,by first | exact Aj (by unfold E2;rw [if_pos h16]) | exact Aj (by unfold E2;rw [if_neg (by rw [h16];decide),if_pos h19]) | exact Aj (by unfold E2;rw [if_neg (by rw [h16];decide),if_neg (by rw [h19];decide)]),rfl⟩
abbrev Mx:Int:=1000000000000000
def Bl:List Int ->Int
 | []=>0
 | e::r=>if e=0 then Bl r else e
theorem Vq {α:Type} {l:List α} {f:α ->Int} {k:Nat} (hk:k<l.length):Bl ((l.drop k).map f)=if f l[k]=0 then Bl ((l.drop (k+1)).map f) else f l[k]:=by
 rw [List.drop_eq_getElem_cons hk];rfl
theorem GG {α:Type} {l:List α} {f:α ->Int} {k:Nat} (hk:¬k<l.length):Bl ((l.drop k).map f)=0:=by
 rw [List.drop_of_length_le (by omega)];rfl
theorem Dg {α:Type} {l:List α} {f:α ->Int} {k:Nat} {E:Int} (hk:k<l.length) (h:E=Bl ((l.drop k).map f)):(f l[k]=0 ->E=Bl ((l.drop (k+1)).map f))∧∀e,f l[k]=e ->e≠0 ->e=E:=by
 rw [Vq hk] at h;exact ⟨fun h0=>by rw [h,if_pos h0],fun e h1 h2=>by rw [h,if_neg (by rw [h1];exact h2),h1]⟩
def Qn (p:Ec):Int:=if p.acc.o=[]∨p.acc.a=[] then 6 else if ¬(0≤p.acc.k∧p.acc.k≤4) then 11 else if ¬(-Mx≤p.d∧p.d≤Mx) then 12 else 0
def QP (p:N1):Int:=if p.f=[]∨p.t=[] then 6 else if p.f=p.t then 7 else if ¬(0≤p.n∧p.n≤Mx) then 2 else 0
def Rz (id:Int) (l:List Int) (k:Nat):Int:=if ¬(0≤l.getD k 0∧l.getD k 0≤1000000000) then 2 else if l.getD k 0=id∨l.getD k 0∈l.take k then 7 else 0
def MZ (i:AT):Int:=Bl (i.po.map Qn)
def Sr (i:AT):Int:=Bl (i.pa.map QP)
def Rt (i:AT):Int:=Bl ((List.range i.af.length).map (Rz i.id i.af))
def CS (l:List Ec) (a:List UInt8):Int:=(l.map fun p=>if p.acc.a=a then p.d else 0).sum
def Rr (i:AT):Int:=if ∃p∈i.po,CS i.po p.acc.a≠0 then 14 else 0
theorem Ju {α:Type} {l:List α} {x:α} {k:Nat} (hk:k<l.length) (h:x∉l.take k) (hne:x≠l[k]):x∉l.take (k+1):=by
 rw [List.take_succ_eq_append_getElem hk,List.mem_append]
 simp [h,hne]
theorem RG {α:Type} {l:List α} {x:α} {k:Nat} (hk:¬k<l.length) (h:x∉l.take k):x∉l:=by
 rwa [List.take_of_length_le (by omega)] at h
def ixI (x:Int) (l:List Int):Int:=if x∈l then (l.idxOf x:Int) else -1
theorem YL {l:List Int} {x:Int} {k:Nat} (hk:k<l.length) (h:x∉l.take k) (he:x=l[k]):ixI x l=(k:Int):=by
 unfold ixI;rw [if_pos (by rw [he];exact List.getElem_mem hk)];have h1:l=l.take k++l[k]::l.drop (k+1):=by rw [←List.drop_eq_getElem_cons hk,List.take_append_drop]
 rw [h1,List.idxOf_append,if_neg h,he,List.idxOf_cons_self]
 simp;omega
theorem U0 (l:List Int) (x:Int) (hn:l.length≤140737488355328):AU Tryz.prog 91 [.d (.sl none (l.map AH)),.d (AH x)] (AH (ixI x l)):=by
 refine B2 Tryz.func91 Z Z Tryz.ntmps91 Z Z Z fun F hF=>(AF (AJ (AD Z Z (AG (AF (AF (AJ (AC Z Z ?_))))))))
 first | refine J (Cz rfl Tryz.underlying33 rfl) ?_ | refine J (C9 Z Z Tryz.underlying33 rfl) ?_ | refine J (DB rfl Tryz.underlying33 rfl) ?_ | refine J (Cy rfl Tryz.underlying33 rfl) ?_ | refine J (Cr rfl Tryz.underlying33 rfl) ?_ | refine J (Cw rfl Tryz.underlying33 rfl) ?_
 refine AC Z Z (AG (Al (EQ (α:=Nat) (fun k=>⟨19,[(0,.d (.sl none (l.map AH))),(1,.d (AH x)),(7,(.d (AH (l.length:Int)))),(8,(.d (AH (k:Int))))],[]⟩) (fun k=>k≤l.length∧x∉l.take k) (fun k=>l.length - k) (0) (⟨Nat.zero_le _,by simp⟩) (Ui ⟨rfl,rfl,rfl,rfl,trivial⟩) ?_)));rintro k ⟨hk0,hk⟩;refine AF (AJ ?_)
 first | refine J (CD Z Z Z) ?_ | refine J (CE Z Z Z) ?_
 refine AG (AF ?_)
 first | refine Ay rfl (fun h9=>?_) (fun h9=>?_) | refine At rfl (fun h9=>?_) (fun h9=>?_)
 ·have hk1:k<l.length:=DA h9;refine Ak (AF (Al (AF ?_)));refine AJ (AC Z Z (AD Z Z (AG (AF (AJ (AC Z Z (AC Z Z (AC Z Z ?_))))))))
  first | refine J (CT (k) Z Z (rfl) (A0 hk1) Tryz.underlying33 rfl Ep rfl) ?_ | refine J (CU (k) Z Z (rfl) (A0 hk1) rfl Tryz.underlying33 Ep rfl) ?_
  first | refine J (AY Z Z Ab rfl) ?_ | refine J (AW Z Z Z Ab rfl) ?_ | refine J (AX Z Z (rfl) rfl Ab rfl) ?_
  first | refine J (Ea Z Z Z) ?_ | refine J (E9 Z Z Z) ?_ | refine J (EV Z Z Z) ?_ | refine J (E4 Tryz.underlying3 Z Z Z) ?_ | refine J (E7 Tryz.underlying3 Z Z Z) ?_ | refine J (E6 Tryz.underlying3 Z Z) ?_ | refine J (E5 Tryz.underlying3 Z Z Z) ?_ | refine J (E8 Tryz.underlying3 Z Z) ?_
  refine AG ?_
  first | refine Ay rfl (fun h16=>?_) (fun h16=>?_) | refine At rfl (fun h16=>?_) (fun h16=>?_)
  ·refine AF (AJ (AC Z Z (AD Z Z (AG (Ae ?_)))));exact ⟨_,[],[],Aa rfl,rfl,rfl,Aj (YL hk1 hk h16).symm,rfl⟩
  ·refine Ak (AJ (J (Bi Z Z (Ac (k+1) (by omega)) rfl) (AC Z Z (AG ?_))));exact ⟨k+1,⟨by show k+1≤_;omega,Ju hk1 hk h16⟩,by show l.length - (k+1)<l.length - k;omega,⟨rfl,rfl,fun _ _=>N2.get (l:=[(0,_),(1,_),(7,_),(8,_)]) ⟨rfl,rfl,rfl,rfl,trivial⟩⟩⟩
 ·refine CW (AF (AJ (AD Z Z (AG (Ae ?_)))));exact ⟨_,[],[],Aa rfl,rfl,rfl,Aj (by unfold ixI;rw [if_neg (RG (by have h:=h9;omega) hk)]),rfl⟩
theorem TT (l:List Int) (x:Int) (hn:l.length≤140737488355328):AU Tryz.prog 42 [.d (.sl none (l.map AH)),.d (AH x)] (.raw (.bool (decide (x∈l)))):=by
 refine B2 Tryz.func42 Z Z Tryz.ntmps42 Z Z Z fun F hF=>(AF (AJ (AD Z Z (AG ?_))));refine AF (AJ (AC Z Z (AC Z Z (J (B1 (U0 l x hn) Z Z) (J (G7 Z Z Z) (AD Z Z (AG (Ae ?_))))))));exact ⟨_,[],[],Aa rfl,rfl,rfl,Wv (by unfold ixI;split<;>rename_i h<;>simp [h]<;>omega),rfl⟩
theorem Sl (i:AT) (hn:i.po.length≤140737488355328):AU Tryz.prog 66 [.d (BH i)] (AH (MZ i)):=by
 refine B2 Tryz.func66 Z Z Tryz.ntmps66 Z Z Z fun F hF=>(AF (AJ (U (C5 1 Z Z Z Z Z Z Z) (AD Z Z (AG (AF (AF (AJ ?_))))))))
 first | refine J (AM rfl Dl Z Z Z) ?_ | refine J (AO rfl Dl Z Z Z) ?_ | refine J (AP rfl Dl Z Z Z) ?_ | refine J (AN rfl Dl Z Z Z) ?_ | refine J (AL rfl Dl Z Z Z) ?_
 first | refine J (AY Z Z Fi rfl) ?_ | refine J (AW Z Z Z Fi rfl) ?_ | refine J (AX Z Z (rfl) rfl Fi rfl) ?_
 first | refine J (Cz rfl Tryz.underlying46 rfl) ?_ | refine J (C9 Z Z Tryz.underlying46 rfl) ?_ | refine J (DB rfl Tryz.underlying46 rfl) ?_ | refine J (Cy rfl Tryz.underlying46 rfl) ?_ | refine J (Cr rfl Tryz.underlying46 rfl) ?_ | refine J (Cw rfl Tryz.underlying46 rfl) ?_
 refine AC Z Z (AG (Al (DG (α:=Nat) (fun k=>⟨35,[(1,(.ptr 1 0 0)),(6,(.d (.sl none (i.po.map Cm)))),(7,(.d (AH (i.po.length:Int)))),(8,(.d (AH (k:Int))))],[(1,[.blk 49 [.d (AH i.id),.d (AH i.pr),.d (AH i.sq),.d (.sl none (i.po.map Cm)),.d (.sl none (i.pa.map HC)),.d (.sl none (i.af.map AH))]])]⟩) (fun k=>k≤i.po.length∧MZ i=Bl ((i.po.drop k).map Qn)) (fun k=>i.po.length - k) (0) (⟨Nat.zero_le _,rfl⟩) (BA hF [1] Z Z ⟨rfl,rfl,rfl,rfl,trivial⟩) ?_)));rintro k ⟨hk0,hk⟩;refine AF (AJ ?_)
 first | refine J (CD Z Z Z) ?_ | refine J (CE Z Z Z) ?_
 refine AG (AF ?_)
 first | refine Ay rfl (fun h9=>?_) (fun h9=>?_) | refine At rfl (fun h9=>?_) (fun h9=>?_)
 ·have hk1:k<i.po.length:=DA h9;refine Ak (AF (Al (AF (AJ ?_))));have hE:=Dg hk1 hk
  first | refine J (CT (k) Z Z (rfl) (A0 hk1) Tryz.underlying46 rfl J8 rfl) ?_ | refine J (CU (k) Z Z (rfl) (A0 hk1) rfl Tryz.underlying46 J8 rfl) ?_
  first | refine J (Av Z Z Jj rfl) ?_ | refine J (Aw Z Z Jj Z Z Z) ?_ | refine J (Ax Z Z (rfl) rfl Jj rfl) ?_
  refine U (DO 2 J1 Z Z Z Z) (U (CF Z Z Z Z Z Z Z J8) (AG (Al (AF (AJ ?_)))))
  first | refine J (AM rfl JX Z Z Z) ?_ | refine J (AO rfl JX Z Z Z) ?_ | refine J (AP rfl JX Z Z Z) ?_ | refine J (AN rfl JX Z Z Z) ?_ | refine J (AL rfl JX Z Z Z) ?_
  first | refine J (AM rfl JS Z Z Z) ?_ | refine J (AO rfl JS Z Z Z) ?_ | refine J (AP rfl JS Z Z Z) ?_ | refine J (AN rfl JS Z Z Z) ?_ | refine J (AL rfl JS Z Z Z) ?_
  first | refine J (AY Z Z As rfl) ?_ | refine J (AW Z Z Z As rfl) ?_ | refine J (AX Z Z (rfl) rfl As rfl) ?_
  first | refine J (Ea Z Z Z) ?_ | refine J (E9 Z Z Z) ?_ | refine J (EV Z Z Z) ?_ | refine J (E4 Tryz.underlying9 Z Z Z) ?_ | refine J (E7 Tryz.underlying9 Z Z Z) ?_ | refine J (E6 Tryz.underlying9 Z Z) ?_ | refine J (E5 Tryz.underlying9 Z Z Z) ?_ | refine J (E8 Tryz.underlying9 Z Z) ?_
  refine AC Z Z ?_
  first | refine I5 17 rfl (fun h17=>?_) (fun h17=>?_) | refine Hw 17 rfl (fun h17=>?_) (fun h17=>?_)
  ·refine A8 Z Z Z Z (A8 Z Z Z Z (A8 Z Z Z Z (A8 Z Z Z Z ?_)));refine J (DX Z Z Z Z) (AD Z Z (AG (EB Z Z (AF (AJ (AD Z Z (AG (Ae ?_))))))));exact ⟨_,[],[],Aa rfl,rfl,rfl,Aj (hE.2 6 (by unfold Qn;rw [if_pos (.inl h17)]) (by decide)),rfl⟩
  ·refine A9 Z Z Z ?_
   first | refine J (AM rfl JX Z Z Z) ?_ | refine J (AO rfl JX Z Z Z) ?_ | refine J (AP rfl JX Z Z Z) ?_ | refine J (AN rfl JX Z Z Z) ?_ | refine J (AL rfl JX Z Z Z) ?_
   refine A9 Z Z Z ?_
   first | refine J (AM rfl Ht Z Z Z) ?_ | refine J (AO rfl Ht Z Z Z) ?_ | refine J (AP rfl Ht Z Z Z) ?_ | refine J (AN rfl Ht Z Z Z) ?_ | refine J (AL rfl Ht Z Z Z) ?_
   refine A9 Z Z Z ?_
   first | refine J (AY Z Z As rfl) ?_ | refine J (AW Z Z Z As rfl) ?_ | refine J (AX Z Z (rfl) rfl As rfl) ?_
   refine A9 Z Z Z ?_
   first | refine J (Ea Z Z Z) ?_ | refine J (E9 Z Z Z) ?_ | refine J (EV Z Z Z) ?_ | refine J (E4 Tryz.underlying9 Z Z Z) ?_ | refine J (E7 Tryz.underlying9 Z Z Z) ?_ | refine J (E6 Tryz.underlying9 Z Z) ?_ | refine J (E5 Tryz.underlying9 Z Z Z) ?_ | refine J (E8 Tryz.underlying9 Z Z) ?_
   refine J (EC Z Z Z Z) (AD Z Z (AG ?_))
   first | refine Ay rfl (fun h12=>?_) (fun h12=>?_) | refine At rfl (fun h12=>?_) (fun h12=>?_)
   ·refine AF (AJ (AD Z Z (AG (Ae ?_))));exact ⟨_,[],[],Aa rfl,rfl,rfl,Aj (hE.2 6 (by unfold Qn;rw [if_pos (.inr h12)]) (by decide)),rfl⟩
   ·refine AF (AJ ?_)
    first | refine J (AM rfl JX Z Z Z) ?_ | refine J (AO rfl JX Z Z Z) ?_ | refine J (AP rfl JX Z Z Z) ?_ | refine J (AN rfl JX Z Z Z) ?_ | refine J (AL rfl JX Z Z Z) ?_
    first | refine J (AM rfl Hs Z Z Z) ?_ | refine J (AO rfl Hs Z Z Z) ?_ | refine J (AP rfl Hs Z Z Z) ?_ | refine J (AN rfl Hs Z Z Z) ?_ | refine J (AL rfl Hs Z Z Z) ?_
    first | refine J (AY Z Z Ab rfl) ?_ | refine J (AW Z Z Z Ab rfl) ?_ | refine J (AX Z Z (rfl) rfl Ab rfl) ?_
    refine J (B1 (HJ _ _ _) Z Z) ?_
    first | refine J (GZ Z Z) ?_ | refine J (GP Z Z) ?_
    refine AD Z Z (AG ?_)
    first | refine Ay rfl (fun h23=>?_) (fun h23=>?_) | refine At rfl (fun h23=>?_) (fun h23=>?_)
    ·refine AF (AJ (AD Z Z (AG (Ae ?_))));exact ⟨_,[],[],Aa rfl,rfl,rfl,Aj (hE.2 11 (by unfold Qn;rw [if_neg (by simp [h17,h12]),if_pos h23]) (by decide)),rfl⟩
    ·refine AF (AJ ?_)
     first | refine J (AM rfl PD Z Z Z) ?_ | refine J (AO rfl PD Z Z Z) ?_ | refine J (AP rfl PD Z Z Z) ?_ | refine J (AN rfl PD Z Z Z) ?_ | refine J (AL rfl PD Z Z Z) ?_
     first | refine J (AY Z Z BI rfl) ?_ | refine J (AW Z Z Z BI rfl) ?_ | refine J (AX Z Z (rfl) rfl BI rfl) ?_
     refine J (B1 (G5 _ _ _) Z Z) ?_
     first | refine J (GZ Z Z) ?_ | refine J (GP Z Z) ?_
     refine AD Z Z (AG ?_)
     first | refine Ay rfl (fun h29=>?_) (fun h29=>?_) | refine At rfl (fun h29=>?_) (fun h29=>?_)
     ·refine AF (AJ (AD Z Z (AG (Ae ?_))));exact ⟨_,[],[],Aa rfl,rfl,rfl,Aj (hE.2 12 (by unfold Qn;rw [if_neg (by simp [h17,h12]),if_neg h23,if_pos h29]) (by decide)),rfl⟩
     ·refine Ak (AJ (J (Bi Z Z (Ac (k+1) (by omega)) rfl) (AC Z Z (AG ?_))));exact ⟨k+1,⟨by show k+1≤_;omega,hE.1 (by unfold Qn;rw [if_neg (by simp [h17,h12]),if_neg h23,if_neg h29])⟩,by show i.po.length - (k+1)<i.po.length - k;omega,BA hF [1] rfl (rfl) ⟨rfl,rfl,rfl,rfl,trivial⟩⟩
 ·refine CW (AF (AJ (AD Z Z (AG (Ae ?_)))));exact ⟨_,[],[],Aa rfl,rfl,rfl,Aj (by rw [hk,GG (by have h:=h9;omega)]),rfl⟩
theorem Sp (i:AT) (hn:i.pa.length≤140737488355328):AU Tryz.prog 67 [.d (BH i)] (AH (Sr i)):=by
 refine B2 Tryz.func67 Z Z Tryz.ntmps67 Z Z Z fun F hF=>(AF (AJ (U (C5 1 Z Z Z Z Z Z Z) (AD Z Z (AG (AF (AF (AJ ?_))))))))
 first | refine J (AM rfl FN Z Z Z) ?_ | refine J (AO rfl FN Z Z Z) ?_ | refine J (AP rfl FN Z Z Z) ?_ | refine J (AN rfl FN Z Z Z) ?_ | refine J (AL rfl FN Z Z Z) ?_
 first | refine J (AY Z Z HE rfl) ?_ | refine J (AW Z Z Z HE rfl) ?_ | refine J (AX Z Z (rfl) rfl HE rfl) ?_
 first | refine J (Cz rfl Tryz.underlying47 rfl) ?_ | refine J (C9 Z Z Tryz.underlying47 rfl) ?_ | refine J (DB rfl Tryz.underlying47 rfl) ?_ | refine J (Cy rfl Tryz.underlying47 rfl) ?_ | refine J (Cr rfl Tryz.underlying47 rfl) ?_ | refine J (Cw rfl Tryz.underlying47 rfl) ?_
 refine AC Z Z (AG (Al (DG (α:=Nat) (fun k=>⟨33,[(1,(.ptr 1 0 0)),(6,(.d (.sl none (i.pa.map HC)))),(7,(.d (AH (i.pa.length:Int)))),(8,(.d (AH (k:Int))))],[(1,[.blk 49 [.d (AH i.id),.d (AH i.pr),.d (AH i.sq),.d (.sl none (i.po.map Cm)),.d (.sl none (i.pa.map HC)),.d (.sl none (i.af.map AH))]])]⟩) (fun k=>k≤i.pa.length∧Sr i=Bl ((i.pa.drop k).map QP)) (fun k=>i.pa.length - k) (0) (⟨Nat.zero_le _,rfl⟩) (BA hF [1] Z Z ⟨rfl,rfl,rfl,rfl,trivial⟩) ?_)));rintro k ⟨hk0,hk⟩;refine AF (AJ ?_)
 first | refine J (CD Z Z Z) ?_ | refine J (CE Z Z Z) ?_
 refine AG (AF ?_)
 first | refine Ay rfl (fun h9=>?_) (fun h9=>?_) | refine At rfl (fun h9=>?_) (fun h9=>?_)
 ·have hk1:k<i.pa.length:=DA h9;refine Ak (AF (Al (AF (AJ ?_))));have hE:=Dg hk1 hk
  first | refine J (CT (k) Z Z (rfl) (A0 hk1) Tryz.underlying47 rfl OA rfl) ?_ | refine J (CU (k) Z Z (rfl) (A0 hk1) rfl Tryz.underlying47 OA rfl) ?_
  first | refine J (Av Z Z OJ rfl) ?_ | refine J (Aw Z Z OJ Z Z Z) ?_ | refine J (Ax Z Z (rfl) rfl OJ rfl) ?_
  refine U (DO 2 WT Z Z Z Z) (U (CF Z Z Z Z Z Z Z OA) (AG (Al (AF (AJ ?_)))))
  first | refine J (AM rfl GW Z Z Z) ?_ | refine J (AO rfl GW Z Z Z) ?_ | refine J (AP rfl GW Z Z Z) ?_ | refine J (AN rfl GW Z Z Z) ?_ | refine J (AL rfl GW Z Z Z) ?_
  first | refine J (AY Z Z As rfl) ?_ | refine J (AW Z Z Z As rfl) ?_ | refine J (AX Z Z (rfl) rfl As rfl) ?_
  first | refine J (Ea Z Z Z) ?_ | refine J (E9 Z Z Z) ?_ | refine J (EV Z Z Z) ?_ | refine J (E4 Tryz.underlying9 Z Z Z) ?_ | refine J (E7 Tryz.underlying9 Z Z Z) ?_ | refine J (E6 Tryz.underlying9 Z Z) ?_ | refine J (E5 Tryz.underlying9 Z Z Z) ?_ | refine J (E8 Tryz.underlying9 Z Z) ?_
  refine AC Z Z ?_
  first | refine I5 16 rfl (fun h16=>?_) (fun h16=>?_) | refine Hw 16 rfl (fun h16=>?_) (fun h16=>?_)
  ·refine A8 Z Z Z Z (A8 Z Z Z Z (A8 Z Z Z Z ?_));refine J (DX Z Z Z Z) (AD Z Z (AG (EB Z Z (AF (AJ (AD Z Z (AG (Ae ?_))))))));exact ⟨_,[],[],Aa rfl,rfl,rfl,Aj (hE.2 6 (by unfold QP;rw [if_pos (.inl h16)]) (by decide)),rfl⟩
  ·refine A9 Z Z Z ?_
   first | refine J (AM rfl GX Z Z Z) ?_ | refine J (AO rfl GX Z Z Z) ?_ | refine J (AP rfl GX Z Z Z) ?_ | refine J (AN rfl GX Z Z Z) ?_ | refine J (AL rfl GX Z Z Z) ?_
   refine A9 Z Z Z ?_
   first | refine J (AY Z Z As rfl) ?_ | refine J (AW Z Z Z As rfl) ?_ | refine J (AX Z Z (rfl) rfl As rfl) ?_
   refine A9 Z Z Z ?_
   first | refine J (Ea Z Z Z) ?_ | refine J (E9 Z Z Z) ?_ | refine J (EV Z Z Z) ?_ | refine J (E4 Tryz.underlying9 Z Z Z) ?_ | refine J (E7 Tryz.underlying9 Z Z Z) ?_ | refine J (E6 Tryz.underlying9 Z Z) ?_ | refine J (E5 Tryz.underlying9 Z Z Z) ?_ | refine J (E8 Tryz.underlying9 Z Z) ?_
   refine J (EC Z Z Z Z) (AD Z Z (AG ?_))
   first | refine Ay rfl (fun h12=>?_) (fun h12=>?_) | refine At rfl (fun h12=>?_) (fun h12=>?_)
   ·refine AF (AJ (AD Z Z (AG (Ae ?_))));exact ⟨_,[],[],Aa rfl,rfl,rfl,Aj (hE.2 6 (by unfold QP;rw [if_pos (.inr h12)]) (by decide)),rfl⟩
   ·refine AF (AJ ?_)
    first | refine J (AM rfl GW Z Z Z) ?_ | refine J (AO rfl GW Z Z Z) ?_ | refine J (AP rfl GW Z Z Z) ?_ | refine J (AN rfl GW Z Z Z) ?_ | refine J (AL rfl GW Z Z Z) ?_
    first | refine J (AY Z Z As rfl) ?_ | refine J (AW Z Z Z As rfl) ?_ | refine J (AX Z Z (rfl) rfl As rfl) ?_
    first | refine J (AM rfl GX Z Z Z) ?_ | refine J (AO rfl GX Z Z Z) ?_ | refine J (AP rfl GX Z Z Z) ?_ | refine J (AN rfl GX Z Z Z) ?_ | refine J (AL rfl GX Z Z Z) ?_
    first | refine J (AY Z Z As rfl) ?_ | refine J (AW Z Z Z As rfl) ?_ | refine J (AX Z Z (rfl) rfl As rfl) ?_
    first | refine J (Ea Z Z Z) ?_ | refine J (E9 Z Z Z) ?_ | refine J (EV Z Z Z) ?_ | refine J (E4 Tryz.underlying9 Z Z Z) ?_ | refine J (E7 Tryz.underlying9 Z Z Z) ?_ | refine J (E6 Tryz.underlying9 Z Z) ?_ | refine J (E5 Tryz.underlying9 Z Z Z) ?_ | refine J (E8 Tryz.underlying9 Z Z) ?_
    refine AD Z Z (AG ?_)
    first | refine Ay rfl (fun h21=>?_) (fun h21=>?_) | refine At rfl (fun h21=>?_) (fun h21=>?_)
    ·refine AF (AJ (AD Z Z (AG (Ae ?_))));exact ⟨_,[],[],Aa rfl,rfl,rfl,Aj (hE.2 7 (by unfold QP;rw [if_neg (by simp [h16,h12]),if_pos h21]) (by decide)),rfl⟩
    ·refine AF (AJ ?_)
     first | refine J (AM rfl FK Z Z Z) ?_ | refine J (AO rfl FK Z Z Z) ?_ | refine J (AP rfl FK Z Z Z) ?_ | refine J (AN rfl FK Z Z Z) ?_ | refine J (AL rfl FK Z Z Z) ?_
     first | refine J (AY Z Z BI rfl) ?_ | refine J (AW Z Z Z BI rfl) ?_ | refine J (AX Z Z (rfl) rfl BI rfl) ?_
     refine J (B1 (G5 _ _ _) Z Z) ?_
     first | refine J (GZ Z Z) ?_ | refine J (GP Z Z) ?_
     refine AD Z Z (AG ?_)
     first | refine Ay rfl (fun h27=>?_) (fun h27=>?_) | refine At rfl (fun h27=>?_) (fun h27=>?_)
     ·refine AF (AJ (AD Z Z (AG (Ae ?_))));exact ⟨_,[],[],Aa rfl,rfl,rfl,Aj (hE.2 2 (by unfold QP;rw [if_neg (by simp [h16,h12]),if_neg h21,if_pos h27]) (by decide)),rfl⟩
     ·refine Ak (AJ (J (Bi Z Z (Ac (k+1) (by omega)) rfl) (AC Z Z (AG ?_))));exact ⟨k+1,⟨by show k+1≤_;omega,hE.1 (by unfold QP;rw [if_neg (by simp [h16,h12]),if_neg h21,if_neg h27])⟩,by show i.pa.length - (k+1)<i.pa.length - k;omega,BA hF [1] rfl (rfl) ⟨rfl,rfl,rfl,rfl,trivial⟩⟩
 ·refine CW (AF (AJ (AD Z Z (AG (Ae ?_)))));exact ⟨_,[],[],Aa rfl,rfl,rfl,Aj (by rw [hk,GG (by have h:=h9;omega)]),rfl⟩
theorem FV {n k:Nat} {f:Nat ->Int} {E:Int} (hk:k<n) (h:E=Bl (((List.range n).drop k).map f)):(f k=0 ->E=Bl (((List.range n).drop (k+1)).map f))∧∀e,f k=e ->e≠0 ->e=E:=by
 have:=Dg (l:=List.range n) (k:=k) (by simpa using hk) h
 simpa using this
theorem after_p (i:AT) (hn:i.af.length≤140737488355328):AU Tryz.prog 68 [.d (BH i)] (AH (Rt i)):=by
 refine B2 Tryz.func68 Z Z Tryz.ntmps68 Z Z Z fun F hF=>(AF (AJ (U (C5 1 Z Z Z Z Z Z Z) (AD Z Z (AG (AF (AF (AJ ?_))))))))
 first | refine J (AM rfl El Z Z Z) ?_ | refine J (AO rfl El Z Z Z) ?_ | refine J (AP rfl El Z Z Z) ?_ | refine J (AN rfl El Z Z Z) ?_ | refine J (AL rfl El Z Z Z) ?_
 first | refine J (AY Z Z BO rfl) ?_ | refine J (AW Z Z Z BO rfl) ?_ | refine J (AX Z Z (rfl) rfl BO rfl) ?_
 first | refine J (Cz rfl Tryz.underlying33 rfl) ?_ | refine J (C9 Z Z Tryz.underlying33 rfl) ?_ | refine J (DB rfl Tryz.underlying33 rfl) ?_ | refine J (Cy rfl Tryz.underlying33 rfl) ?_ | refine J (Cr rfl Tryz.underlying33 rfl) ?_ | refine J (Cw rfl Tryz.underlying33 rfl) ?_
 refine AC Z Z (AG (Al (DG (α:=Nat) (fun k=>⟨31,[(1,(.ptr 1 0 0)),(6,(.d (.sl none (i.af.map AH)))),(7,(.d (AH (i.af.length:Int)))),(8,(.d (AH (k:Int))))],[(1,[.blk 49 [.d (AH i.id),.d (AH i.pr),.d (AH i.sq),.d (.sl none (i.po.map Cm)),.d (.sl none (i.pa.map HC)),.d (.sl none (i.af.map AH))]])]⟩) (fun k=>k≤i.af.length∧Rt i=Bl (((List.range i.af.length).drop k).map (Rz i.id i.af))) (fun k=>i.af.length - k) (0) (⟨Nat.zero_le _,rfl⟩) (BA hF [1] Z Z ⟨rfl,rfl,rfl,rfl,trivial⟩) ?_)));rintro k ⟨hk0,hk⟩;refine AF (AJ ?_)
 first | refine J (CD Z Z Z) ?_ | refine J (CE Z Z Z) ?_
 refine AG (AF ?_)
 first | refine Ay rfl (fun h9=>?_) (fun h9=>?_) | refine At rfl (fun h9=>?_) (fun h9=>?_)
 ·have hk1:k<i.af.length:=DA h9;refine Ak (AF (Al (AF (AJ ?_))));have hE:=FV hk1 hk;have hg:i.af.getD k 0=i.af[k]:=by simp [hk1]
  refine AC Z Z ?_
  first | refine J (CT (k) Z Z (rfl) (A0 hk1) Tryz.underlying33 rfl Ep rfl) ?_ | refine J (CU (k) Z Z (rfl) (A0 hk1) rfl Tryz.underlying33 Ep rfl) ?_
  first | refine J (AY Z Z Ab rfl) ?_ | refine J (AW Z Z Z Ab rfl) ?_ | refine J (AX Z Z (rfl) rfl Ab rfl) ?_
  refine AD Z Z (AD Z Z (AG (Al (AF (AJ (AC Z Z (J (B1 (HJ _ _ _) Z Z) ?_)))))))
  first | refine J (GZ Z Z) ?_ | refine J (GP Z Z) ?_
  refine AD Z Z (AG ?_)
  first | refine Ay rfl (fun h13=>?_) (fun h13=>?_) | refine At rfl (fun h13=>?_) (fun h13=>?_)
  ·refine AF (AJ (AD Z Z (AG (Ae ?_))));exact ⟨_,[],[],Aa rfl,rfl,rfl,Aj (hE.2 2 (by unfold Rz;rw [hg,if_pos h13]) (by decide)),rfl⟩
  ·refine AF (AJ (AC Z Z ?_))
   first | refine J (AM rfl Bm Z Z Z) ?_ | refine J (AO rfl Bm Z Z Z) ?_ | refine J (AP rfl Bm Z Z Z) ?_ | refine J (AN rfl Bm Z Z Z) ?_ | refine J (AL rfl Bm Z Z Z) ?_
   first | refine J (AY Z Z Ab rfl) ?_ | refine J (AW Z Z Z Ab rfl) ?_ | refine J (AX Z Z (rfl) rfl Ab rfl) ?_
   first | refine J (Ea Z Z Z) ?_ | refine J (E9 Z Z Z) ?_ | refine J (EV Z Z Z) ?_ | refine J (E4 Tryz.underlying3 Z Z Z) ?_ | refine J (E7 Tryz.underlying3 Z Z Z) ?_ | refine J (E6 Tryz.underlying3 Z Z) ?_ | refine J (E5 Tryz.underlying3 Z Z Z) ?_ | refine J (E8 Tryz.underlying3 Z Z) ?_
   refine AC Z Z ?_
   first | refine I5 22 rfl (fun h22=>?_) (fun h22=>?_) | refine Hw 22 rfl (fun h22=>?_) (fun h22=>?_)
   ·refine A8 Z Z Z Z (A8 Z Z Z Z (A8 Z Z Z Z (A8 Z Z Z Z (A8 Z Z Z Z (A8 Z Z Z Z ?_)))));refine J (DX Z Z Z Z) (AD Z Z (AG (EB Z Z (AF (AJ (AD Z Z (AG (Ae ?_))))))));exact ⟨_,[],[],Aa rfl,rfl,rfl,Aj (hE.2 7 (by unfold Rz;rw [hg,if_neg h13,if_pos (.inl h22)]) (by decide)),rfl⟩
   ·refine A9 Z Z Z ?_
    first | refine J (AM rfl El Z Z Z) ?_ | refine J (AO rfl El Z Z Z) ?_ | refine J (AP rfl El Z Z Z) ?_ | refine J (AN rfl El Z Z Z) ?_ | refine J (AL rfl El Z Z Z) ?_
    refine A9 Z Z Z ?_
    first | refine J (AY Z Z BO rfl) ?_ | refine J (AW Z Z Z BO rfl) ?_ | refine J (AX Z Z (rfl) rfl BO rfl) ?_
    refine A9 Z Z Z (AC Z Z ?_);refine A9 Z Z Z (J (LI (i.af) (k) Z Z Z (rfl) (by omega) Tryz.underlying33 Ep (fun _=>rfl) rfl) (A9 Z Z Z (AC Z Z (A9 Z Z Z (J (B1 (TT (i.af.take k) _ (by simp;omega)) Z Z) (J (EC Z Z Z Z) (AD Z Z (AG ?_))))))))
    first | refine Ay rfl (fun h17=>?_) (fun h17=>?_) | refine At rfl (fun h17=>?_) (fun h17=>?_)
    ·refine AF (AJ (AD Z Z (AG (Ae ?_))));exact ⟨_,[],[],Aa rfl,rfl,rfl,Aj (hE.2 7 (by unfold Rz;rw [hg,if_neg h13,if_pos (.inr h17)]) (by decide)),rfl⟩
    ·refine Ak (AJ (J (Bi Z Z (Ac (k+1) (by omega)) rfl) (AC Z Z (AG ?_))));exact ⟨k+1,⟨by show k+1≤_;omega,hE.1 (by unfold Rz;rw [hg,if_neg h13,if_neg (by simp [h22];exact h17)])⟩,by show i.af.length - (k+1)<i.af.length - k;omega,BA hF [1] rfl (rfl) ⟨rfl,rfl,rfl,rfl,trivial⟩⟩
 ·refine CW (AF (AJ (AD Z Z (AG (Ae ?_)))));exact ⟨_,[],[],Aa rfl,rfl,rfl,Aj (by rw [hk,GG (by simp;have h:=h9;omega)]),rfl⟩
theorem Nt (l:List Ec) (p:Ec) (a:List UInt8):CS (l++ [p]) a=CS l a+if p.acc.a=a then p.d else 0:=by simp [CS]
theorem NV (l:List Ec) (a:List UInt8) (h:∀p∈l,-Mx≤p.d∧p.d≤Mx): -(l.length*1000000000000000)≤CS l a∧CS l a≤l.length*1000000000000000:=by
 induction l with
 | nil=>simp [CS]
 | cons p r ih=>
  have h1:=ih fun q hq=>h q (by simp [hq]);have h2:=h p (by simp);have e:CS (p::r) a=(if p.acc.a=a then p.d else 0)+CS r a:=by simp [CS]
  rw [e];simp only [Mx] at h2;have e2:((p::r).length:Int)=r.length+1:=by simp
  rw [e2]
  split<;>omega
def T8 (l:List Ec) (M:List (List UInt8×Int)):Prop:=(M.map Prod.fst).Nodup∧(∀a,Ai M a 0=CS l a)∧(∀a,a∈M.map Prod.fst ->∃p∈l,p.acc.a=a)∧∀p∈l,p.acc.a∈M.map Prod.fst
theorem mem_put {α β:Type} [DecidableEq α] {M:List (α×β)} {a a':α} {b:β}:a'∈(BM M a b).map Prod.fst↔a'=a∨a'∈M.map Prod.fst:=by
 rw [Kh]
 split
 ·rename_i h
  exact ⟨.inr,fun h'=>h'.elim (fun e=>by rw [e];exact h) id⟩
 ·simp [or_comm]
theorem T8.snoc {l:List Ec} {M:List (List UInt8×Int)} (h:T8 l M) (p:Ec):T8 (l++ [p]) (BM M p.acc.a (Ai M p.acc.a 0+p.d)):=by
 obtain ⟨h1,h2,h3,h4⟩:=h;refine ⟨Mk h1,fun a=>?_,fun a ha=>?_,fun q hq=>?_⟩
 ·rw [Mm,Nt]
  split
  ·rename_i e;rw [e,h2,if_pos rfl]
  ·rename_i e;rw [h2,if_neg (fun e'=>e e'.symm)];omega
 ·rcases mem_put.1 ha with e | e
  ·exact ⟨p,by simp,e.symm⟩
  ·obtain ⟨q,hq,e2⟩:=h3 a e;exact ⟨q,by simp [hq],e2⟩
 ·rcases List.mem_append.1 hq with hq | hq
  ·exact mem_put.2 (.inr (h4 q hq))
  ·simp at hq;subst hq;exact mem_put.2 (.inl rfl)
theorem bal_bad {i:AT} {M:List (List UInt8×Int)} (h:T8 i.po M) {j:Nat} {a:List UInt8} {v:Int} (hm:M[j]?=some (a,v)) (hv:v≠0):(14:Int)=Rr i:=by
 have hmem:=List.mem_of_getElem? hm;have h1:=ZcV (z:=0) h.1 hmem;rw [h.2.1] at h1;obtain ⟨p,hp,e⟩:=h.2.2.1 a (List.mem_map_of_mem (f:=Prod.fst) hmem);unfold Rr;rw [if_pos ⟨p,hp,by rw [e,h1];exact hv⟩]
theorem bal_ok {i:AT} {M:List (List UInt8×Int)} (h:T8 i.po M) (h0:∀x∈M,x.2=0):(0:Int)=Rr i:=by
 unfold Rr;rw [if_neg];rintro ⟨p,hp,hne⟩;refine hne ?_;rw [←h.2.1];exact h0 _ (RE (z:=0) (h.2.2.2 p hp))
theorem Tb {l:List Ec} {k:Nat} (h:∀p∈l,-Mx≤p.d∧p.d≤Mx):∀p∈l.take k,-Mx≤p.d∧p.d≤Mx:=fun p hp=>h p (List.mem_of_mem_take hp)
theorem TX (i:AT) (hn:i.po.length≤256) (hb:∀p∈i.po,-Mx≤p.d∧p.d≤Mx):AU Tryz.prog 69 [.d (BH i)] (AH (Rr i)):=by
 refine B2 Tryz.func69 Z Z Tryz.ntmps69 Z Z Z fun F hF=>(AF (AJ (U (C5 1 Z Z Z Z Z Z Z) (AD Z Z ?_))));refine AG (AF (AJ (U (Ys 2 Z Z Z Z) (AD Z Z (AG (AF (AF (AJ ?_))))))))
 first | refine J (AM rfl Dl Z Z Z) ?_ | refine J (AO rfl Dl Z Z Z) ?_ | refine J (AP rfl Dl Z Z Z) ?_ | refine J (AN rfl Dl Z Z Z) ?_ | refine J (AL rfl Dl Z Z Z) ?_
 first | refine J (AY Z Z Fi rfl) ?_ | refine J (AW Z Z Z Fi rfl) ?_ | refine J (AX Z Z (rfl) rfl Fi rfl) ?_
 first | refine J (Cz rfl Tryz.underlying46 rfl) ?_ | refine J (C9 Z Z Tryz.underlying46 rfl) ?_ | refine J (DB rfl Tryz.underlying46 rfl) ?_ | refine J (Cy rfl Tryz.underlying46 rfl) ?_ | refine J (Cr rfl Tryz.underlying46 rfl) ?_ | refine J (Cw rfl Tryz.underlying46 rfl) ?_
 refine AC Z Z (AG (Al (DG (α:=Nat×List (List UInt8×Int)) (fun q=>⟨33,[(3,(.map 2 0)),(10,(.d (.sl none (i.po.map Cm)))),(11,(.d (AH (i.po.length:Int)))),(12,(.d (AH (q.1:Int))))],[(2,[CL Am AH q.2])]⟩) (fun q=>q.1≤i.po.length∧T8 (i.po.take q.1) q.2) (fun q=>i.po.length - q.1) ((0,[])) (⟨Nat.zero_le _,⟨by simp,by simp [CS,Ai],by simp,by simp⟩⟩) (BA hF [2] Z Z ⟨rfl,rfl,rfl,rfl,trivial⟩) ?_)));rintro ⟨k,M⟩ ⟨hk0,hM⟩;dsimp only at hk0 hM⊢;refine AF (AJ ?_)
 first | refine J (CD Z Z Z) ?_ | refine J (CE Z Z Z) ?_
 refine AG (AF ?_)
 first | refine Ay rfl (fun h13=>?_) (fun h13=>?_) | refine At rfl (fun h13=>?_) (fun h13=>?_)
 ·have hk1:k<i.po.length:=DA h13;refine Ak (AF (Al (AF (AJ ?_))));have hbk:=hb _ (List.getElem_mem hk1);have hgb:=NV (i.po.take k) i.po[k].acc.a (Tb hb);rw [←hM.2.1,List.length_take] at hgb;simp only [Mx] at hbk
  first | refine J (CT (k) Z Z (rfl) (A0 hk1) Tryz.underlying46 rfl J8 rfl) ?_ | refine J (CU (k) Z Z (rfl) (A0 hk1) rfl Tryz.underlying46 J8 rfl) ?_
  first | refine J (Av Z Z Jj rfl) ?_ | refine J (Aw Z Z Jj Z Z Z) ?_ | refine J (Ax Z Z (rfl) rfl Jj rfl) ?_
  refine U (DO 3 J1 Z Z Z Z) (U (CF Z Z Z Z Z Z Z J8) (AG (AJ (AC Z Z ?_))))
  first | refine J (AM rfl JX Z Z Z) ?_ | refine J (AO rfl JX Z Z Z) ?_ | refine J (AP rfl JX Z Z Z) ?_ | refine J (AN rfl JX Z Z Z) ?_ | refine J (AL rfl JX Z Z Z) ?_
  first | refine J (AM rfl Ht Z Z Z) ?_ | refine J (AO rfl Ht Z Z Z) ?_ | refine J (AP rfl Ht Z Z Z) ?_ | refine J (AN rfl Ht Z Z Z) ?_ | refine J (AL rfl Ht Z Z Z) ?_
  first | refine J (AY Z Z As rfl) ?_ | refine J (AW Z Z Z As rfl) ?_ | refine J (AX Z Z (rfl) rfl As rfl) ?_
  refine J (LC (M) (i.po[k].acc.a) (0) _ Z Z Z UT kt9 QO Z Z) ?_
  first | refine J (AM rfl PD Z Z Z) ?_ | refine J (AO rfl PD Z Z Z) ?_ | refine J (AP rfl PD Z Z Z) ?_ | refine J (AN rfl PD Z Z Z) ?_ | refine J (AL rfl PD Z Z Z) ?_
  first | refine J (AY Z Z BI rfl) ?_ | refine J (AW Z Z Z BI rfl) ?_ | refine J (AX Z Z (rfl) rfl BI rfl) ?_
  refine J (Bi Z Z (IntWalk.i64_in _ (by omega)) rfl) ?_
  first | refine U (FR (M) (i.po[k].acc.a) (Ai M i.po[k].acc.a 0+i.po[k].d) Z Z Z UT kt9 Z Z) ?_ | refine U (ED (M) (i.po[k].acc.a) (Ai M i.po[k].acc.a 0+i.po[k].d) Z Z Z UT kt9 Z Z) ?_
  refine AG (AJ (J (Bi Z Z (Ac (k+1) (by omega)) rfl) (AC Z Z (AG ?_))));exact ⟨(k+1,_),⟨by show k+1≤_;omega,by have:=hM.snoc i.po[k];rwa [←List.take_succ_eq_append_getElem hk1] at this⟩,by show i.po.length - (k+1)<i.po.length - k;omega,BA hF [2] rfl (rfl) ⟨rfl,rfl,rfl,rfl,trivial⟩⟩
 ·refine CW (AF (AF ?_));have hM':T8 i.po M:=by rw [List.take_of_length_le (by have h:=h13;omega)] at hM;exact hM
  refine AJ (AC Z Z (U (Ja 4 Z Z Z UT Z Z Z Z) (AG (Al (DG (α:=List Nat) (fun seen=>⟨33,[(26,(.ptr 4 0 0))],[(4,[.iter 2 0 M.length seen]),(2,[CL Am AH M])]⟩) (fun seen=>∀x∈M,x∈EP M (List.range M.length) seen∨x.2=0) (fun seen=>(EP M (List.range M.length) seen).length) ([]) (fun x hx=> .inl (by rw [IK (by simp)];exact hx)) (BA hF [4,2] Z Z ⟨rfl,trivial⟩) ?_)))));intro seen hI;refine AF (AJ (P3 (M) Z Z Z Z (fun hl27=>?_) (fun j27 b27 k27 v27 hm27 hb27 hB27 hp27=>⟨_,rfl,?_⟩)))
  ·first | refine J (B6 Z Z Z) ?_ | refine J (B7 Z Z Z) ?_
   refine AG (AF (Fs Z Z (CW (AF (AJ (AD Z Z (AG (Ae ?_))))))));exact ⟨_,[],[],Aa rfl,rfl,rfl,Aj (bal_ok hM' fun x hx=>(hI x hx).elim (fun h=>by rw [hl27] at h;cases h) id),rfl⟩
  ·first | refine J (B6 Z Z Z) ?_ | refine J (B7 Z Z Z) ?_
   refine AG (AF (EB Z Z (Ak (Al (AF (AJ (J (Jc (M) j27 b27 Z Z Z hm27 hb27 rfl) ?_)))))))
   first | refine J (B6 Z Z Z) ?_ | refine J (B7 Z Z Z) ?_
   refine AD Z Z (AG (AF (AJ (AC Z Z ?_))))
   first | refine J (Fa Z Z Z) ?_ | refine J (F9 Z Z Z) ?_ | refine J (FM Z Z Z) ?_ | refine J (Fb Tryz.underlying2 Z Z Z) ?_ | refine J (Fd Tryz.underlying2 Z Z Z) ?_ | refine J (st_neqN Tryz.underlying2 Z Z) ?_ | refine J (Fc Tryz.underlying2 Z Z Z) ?_ | refine J (st_neqFN Tryz.underlying2 Z Z) ?_
   refine AG ?_
   first | refine Ay rfl (fun h32=>?_) (fun h32=>?_) | refine At rfl (fun h32=>?_) (fun h32=>?_)
   ·refine AF (AJ (AD Z Z (AG (Ae ?_))));exact ⟨_,[],[],Aa rfl,rfl,rfl,Aj (bal_bad hM' hm27 h32),rfl⟩
   ·refine Ak ?_;exact ⟨seen++ [b27],fun x hx=>(hI x hx).elim (fun h=>(List.mem_cons.1 (hp27.mem_iff.1 h)).elim (fun e=> .inr (by rw [e];simpa using h32)) .inl) .inr,by rw [hp27.length_eq];exact Nat.lt_succ_self _,BA hF [4,2] rfl (rfl) ⟨rfl,trivial⟩⟩
abbrev acc0:PH:=⟨[],0,[]⟩
abbrev Gv (p:Ec):A5:=⟨0,p.acc,[],[]⟩
abbrev DQ (f t:List UInt8):A5:=⟨1,acc0,f,t⟩
abbrev EO (f:List UInt8):A5:=⟨2,acc0,f,[]⟩
def Yn (M:List (A5×Int)) (x:A5×Int):List (A5×Int):=BM M x.1 (Ai M x.1 0+x.2)
def KQ (l:List Ec):List (A5×Int):=l.map fun p=>(Gv p,p.d)
def Rf (p:N1):List (A5×Int):=[(DQ p.f p.t,-p.n),(DQ p.t p.f,p.n),(EO p.f,-p.n),(EO p.t,p.n)]
def NO (l:List N1):List (A5×Int):=l.flatMap Rf
def ctr (i:AT):List (A5×Int):=KQ i.po++NO i.pa
def sumL (l:List (A5×Int)):List (A5×Int):=l.foldl Yn []
def BZ (l:List (A5×Int)) (r:A5):Int:=(l.map fun x=>if x.1=r then x.2 else 0).sum
theorem T4 (l:List (A5×Int)) (x:A5×Int):sumL (l++ [x])=Yn (sumL l) x:=by simp [sumL]
theorem Nr (l m:List (A5×Int)) (r:A5):BZ (l++m) r=BZ l r+BZ m r:=by simp [BZ]
theorem TS (x:A5×Int) (r:A5):BZ [x] r=if x.1=r then x.2 else 0:=by simp [BZ]
theorem WO {α:Type} {p:List α ->Prop} (h0:p []) (h1:∀l x,p l ->p (l++ [x])) (l:List α):p l:=by
 have:∀m:List α,p m.reverse:=fun m=>by
  induction m with
  | nil=>exact h0
  | cons x r ih=>rw [List.reverse_cons];exact h1 _ _ ih
 have:=this l.reverse
 rwa [List.reverse_reverse] at this
theorem J9 (l:List (A5×Int)) (r:A5):Ai (sumL l) r 0=BZ l r:=by
 revert r
 refine WO (p:=fun l=>∀r,Ai (sumL l) r 0=BZ l r) (fun r=>rfl) (fun l x ih r=>?_) l;rw [T4,Yn,Mm,Nr,TS]
 split
 ·rename_i h;rw [ih,h,if_pos rfl]
 ·rename_i h;rw [ih,if_neg (fun e=>h e.symm)];omega
theorem Ik (l:List (A5×Int)):((sumL l).map Prod.fst).Nodup:=
 WO (p:=fun l=>((sumL l).map Prod.fst).Nodup) (by simp [sumL]) (fun l x ih=>by rw [T4];exact Mk ih) l
theorem K2 (l:List (A5×Int)) (r:A5):r∈(sumL l).map Prod.fst↔r∈l.map Prod.fst:=by
 refine WO (p:=fun l=>r∈(sumL l).map Prod.fst↔r∈l.map Prod.fst) (by simp [sumL]) (fun l x ih=>?_) l;rw [T4,Yn,mem_put,ih]
 simp [or_comm]
def QL (l:List (A5×Int)):Prop:=∀x∈l,-1000000000000000≤x.2∧x.2≤1000000000000000
theorem Pm {l:List (A5×Int)} (h:QL l) (r:A5): -(l.length*1000000000000000)≤BZ l r∧BZ l r≤l.length*1000000000000000:=by
 induction l with
 | nil=>simp [BZ]
 | cons x l ih=>
  have h1:=ih fun q hq=>h q (by simp [hq]);have h2:=h x (by simp);have e:BZ (x::l) r=(if x.1=r then x.2 else 0)+BZ l r:=by simp [BZ]
  have e2:((x::l).length:Int)=l.length+1:=by simp
  rw [e,e2]
  split<;>omega
structure ItmB (i:AT):Prop where
 po:i.po.length≤256
 pa:i.pa.length≤256
 af:i.af.length≤256
 d:∀p∈i.po,-Mx≤p.d∧p.d≤Mx
 n:∀p∈i.pa,0≤p.n∧p.n≤Mx
theorem L4 (l:List N1):(NO l).length=4*l.length:=by
 induction l with
 | nil=>rfl
 | cons p r ih=>simp only [NO,List.flatMap_cons,List.length_append,List.length_cons] at ih⊢;rw [ih];simp [Rf];omega
theorem bnd_P {l:List Ec} (h:∀p∈l,-Mx≤p.d∧p.d≤Mx):QL (KQ l):=fun x hx=>by
 obtain ⟨p,hp,rfl⟩:=List.mem_map.1 hx;have:=h p hp;simp only [Mx] at this;exact this
theorem bnd_1 {p:N1} (h:0≤p.n∧p.n≤Mx):QL (Rf p):=fun x hx=>by
 simp only [Mx] at h;simp only [Rf,List.mem_cons,List.not_mem_nil,or_false] at hx;rcases hx with rfl | rfl | rfl | rfl<;>simp only<;>omega
theorem bnd_Y {l:List N1} (h:∀p∈l,0≤p.n∧p.n≤Mx):QL (NO l):=fun x hx=>by
 obtain ⟨p,hp,hx⟩:=List.mem_flatMap.1 hx;exact bnd_1 (h p hp) x hx
theorem QL.append {l m:List (A5×Int)} (h:QL l) (h':QL m):QL (l++m):=fun x hx=>(List.mem_append.1 hx).elim (h x) (h' x)
theorem QL.take {l:List (A5×Int)} (h:QL l) (k:Nat):QL (l.take k):=fun x hx=>h x (List.mem_of_mem_take hx)
theorem Eq {l:List (A5×Int)} (h:QL l) (hl:l.length≤2000) (r:A5): -2000000000000000000≤Ai (sumL l) r 0∧Ai (sumL l) r 0≤2000000000000000000:=by
 have:=Pm h r;rw [J9];omega
theorem Vu {l:List Ec} {k:Nat} (hk:k<l.length):KQ (l.take (k+1))=KQ (l.take k)++ [(Gv l[k],l[k].d)]:=by
 simp only [KQ];rw [List.take_succ_eq_append_getElem hk,List.map_append];rfl
theorem Vt {l:List N1} {k:Nat} (hk:k<l.length):NO (l.take (k+1))=NO (l.take k)++Rf l[k]:=by
 simp only [NO];rw [List.take_succ_eq_append_getElem hk,List.flatMap_append];simp
def KY (M:List (A5×Int)) (p:N1):List (A5×Int):=BM M (DQ p.f p.t) (Ai M (DQ p.f p.t) 0 - p.n)
def PQ (M:List (A5×Int)) (p:N1):List (A5×Int):=BM M (DQ p.t p.f) (Ai M (DQ p.t p.f) 0+p.n)
def st3 (M:List (A5×Int)) (p:N1):List (A5×Int):=BM M (EO p.f) (Ai M (EO p.f) 0 - p.n)
def st4 (M:List (A5×Int)) (p:N1):List (A5×Int):=BM M (EO p.t) (Ai M (EO p.t) 0+p.n)
theorem We {l:List (A5×Int)} {p:N1} {M:List (A5×Int)} (h:M=sumL l):KY M p=sumL (l++ [(DQ p.f p.t,-p.n)])∧PQ (KY M p) p=sumL (l++ [(DQ p.f p.t,-p.n),(DQ p.t p.f,p.n)])∧st3 (PQ (KY M p) p) p=sumL (l++ [(DQ p.f p.t,-p.n),(DQ p.t p.f,p.n),(EO p.f,-p.n)])∧st4 (st3 (PQ (KY M p) p) p) p=sumL (l++Rf p):=by
 subst h;have e:∀(l:List (A5×Int)) (x:A5×Int) (r:List (A5×Int)),l++x::r=(l++ [x])++r:=by simp
 refine ⟨?_,?_,?_,?_⟩
 ·rw [T4];rfl
 ·rw [e,T4,T4];rfl
 ·rw [e,e,T4,T4,T4];rfl
 ·rw [Rf,e,e,e,T4,T4,T4,T4];rfl
theorem Wb {l:List (A5×Int)} {p:N1} {M:List (A5×Int)} (h:M=sumL l) (hb:QL l) (hl:l.length≤1900) (hp:0≤p.n∧p.n≤Mx) (r:A5):(-2000000000000000000≤Ai M r 0∧Ai M r 0≤2000000000000000000)∧(-2000000000000000000≤Ai (KY M p) r 0∧Ai (KY M p) r 0≤2000000000000000000)∧(-2000000000000000000≤Ai (PQ (KY M p) p) r 0∧Ai (PQ (KY M p) p) r 0≤2000000000000000000)∧(-2000000000000000000≤Ai (st3 (PQ (KY M p) p) p) r 0∧Ai (st3 (PQ (KY M p) p) p) r 0≤2000000000000000000):=by
 obtain ⟨e1,e2,e3,_⟩:=We (p:=p) h;have hb4:=bnd_1 hp;rw [e3,e2,e1,h];refine ⟨Eq hb (by omega) r,Eq (hb.append fun x hx=>hb4 x ?_) (by simp;omega) r,Eq (hb.append fun x hx=>hb4 x ?_) (by simp;omega) r,Eq (hb.append fun x hx=>hb4 x ?_) (by simp;omega) r⟩
 all_goals
  simp only [Rf,List.mem_cons,List.not_mem_nil,or_false] at hx⊢
  first
   | exact .inl hx
   | exact hx.elim .inl fun h=> .inr (.inl h)
   | exact hx.elim .inl fun h=>h.elim (fun h=> .inr (.inl h)) fun h=> .inr (.inr (.inl h))
set_option maxHeartbeats 1000000 in
theorem SS (i:AT) (hi:ItmB i):A2 Tryz.prog 30 [.d (BH i)] [] fun r H'=>r= .map 2 0∧H'=[(2,[CL EX AH (sumL (ctr i))])]:=by
 have hpo:=hi.po;have hpa:=hi.pa;refine B2 Tryz.func30 Z Z Tryz.ntmps30 Z Z Z fun F hF=>(AF (AJ (U (C5 1 Z Z Z Z Z Z Z) (AD Z Z ?_))));refine AG (AF (AJ (U (Ys 2 Z Z Z Z) (AD Z Z (AG (AF (AF (AJ ?_))))))))
 first | refine J (AM rfl Dl Z Z Z) ?_ | refine J (AO rfl Dl Z Z Z) ?_ | refine J (AP rfl Dl Z Z Z) ?_ | refine J (AN rfl Dl Z Z Z) ?_ | refine J (AL rfl Dl Z Z Z) ?_
 first | refine J (AY Z Z Fi rfl) ?_ | refine J (AW Z Z Z Fi rfl) ?_ | refine J (AX Z Z (rfl) rfl Fi rfl) ?_
 first | refine J (Cz rfl Tryz.underlying46 rfl) ?_ | refine J (C9 Z Z Tryz.underlying46 rfl) ?_ | refine J (DB rfl Tryz.underlying46 rfl) ?_ | refine J (Cy rfl Tryz.underlying46 rfl) ?_ | refine J (Cr rfl Tryz.underlying46 rfl) ?_ | refine J (Cw rfl Tryz.underlying46 rfl) ?_
 refine AC Z Z (AG (Al (DG (α:=Nat×List (A5×Int)) (fun q=>⟨80,[(1,(.ptr 1 0 0)),(3,(.map 2 0)),(10,(.d (.sl none (i.po.map Cm)))),(11,(.d (AH (i.po.length:Int)))),(12,(.d (AH (q.1:Int))))],[(2,[CL EX AH q.2]),(1,[.blk 49 [.d (AH i.id),.d (AH i.pr),.d (AH i.sq),.d (.sl none (i.po.map Cm)),.d (.sl none (i.pa.map HC)),.d (.sl none (i.af.map AH))]])]⟩) (fun q=>q.1≤i.po.length∧q.2=sumL (KQ (i.po.take q.1))) (fun q=>i.po.length - q.1) ((0,[])) (⟨Nat.zero_le _,rfl⟩) (BA hF [2,1] Z Z ⟨rfl,rfl,rfl,rfl,rfl,trivial⟩) ?_)));rintro ⟨k,M⟩ ⟨hk0,hM⟩;dsimp only at hk0 hM⊢;refine AF (AJ ?_)
 first | refine J (CD Z Z Z) ?_ | refine J (CE Z Z Z) ?_
 refine AG (AF ?_)
 first | refine Ay rfl (fun h13=>?_) (fun h13=>?_) | refine At rfl (fun h13=>?_) (fun h13=>?_)
 ·have hk1:k<i.po.length:=DA h13;refine Ak (AF (Al (AF (AJ ?_))));have hbk:=hi.d _ (List.getElem_mem hk1);simp only [Mx] at hbk;have hgb:=Eq (l:=KQ (i.po.take k)) (bnd_P (Tb hi.d)) (by simp [KQ];omega) (Gv i.po[k]);rw [←hM] at hgb
  first | refine J (CT (k) Z Z (rfl) (A0 hk1) Tryz.underlying46 rfl J8 rfl) ?_ | refine J (CU (k) Z Z (rfl) (A0 hk1) rfl Tryz.underlying46 J8 rfl) ?_
  first | refine J (Av Z Z Jj rfl) ?_ | refine J (Aw Z Z Jj Z Z Z) ?_ | refine J (Ax Z Z (rfl) rfl Jj rfl) ?_
  refine U (DO 3 J1 Z Z Z Z) (U (CF Z Z Z Z Z Z Z J8) (AG (Gp [[],[],[1],[1,2],[0,1,2,3],[],[5],[0,1,2,3,4,5,6],[0,1,2,3,5,6],[0,1,2,3,5,6,8],[0,1,2,3,4,5,6,7,8,9]] BF rfl (YZ 2 ([CL EX AH (Bb M (Gv i.po[k]) 0)]) rfl ?_))))
  first | refine AE [3] [] Z Z (fun _=>AB (Be Z Z)) ?_ | refine AI [3] Z Z (fun _=>AB (Be Z Z)) ?_
  first | refine AE [5] [] Z Z (fun _=>AB (AM rfl JX Z Z Z)) ?_ | refine AI [5] Z Z (fun _=>AB (AM rfl JX Z Z Z)) ?_ | refine AE [5] [] Z Z (fun _=>AB (AO rfl JX Z Z Z)) ?_ | refine AI [5] Z Z (fun _=>AB (AO rfl JX Z Z Z)) ?_ | refine AE [5] [] Z Z (fun _=>AB (AP rfl JX Z Z Z)) ?_ | refine AI [5] Z Z (fun _=>AB (AP rfl JX Z Z Z)) ?_ | refine AE [5] [] Z Z (fun _=>AB (AN rfl JX Z Z Z)) ?_ | refine AI [5] Z Z (fun _=>AB (AN rfl JX Z Z Z)) ?_ | refine AE [5] [] Z Z (fun _=>AB (AL rfl JX Z Z Z)) ?_ | refine AI [5] Z Z (fun _=>AB (AL rfl JX Z Z Z)) ?_
  first | refine AE [17] [] Z Z (fun _=>AB (Av Z Z Gz rfl)) ?_ | refine AI [17] Z Z (fun _=>AB (Av Z Z Gz rfl)) ?_ | refine AE [17] [] Z Z (fun _=>AB (Aw Z Z Gz Z Z Z)) ?_ | refine AI [17] Z Z (fun _=>AB (Aw Z Z Gz Z Z Z)) ?_ | refine AE [17] [] Z Z (fun _=>AB (Ax Z Z (rfl) rfl Gz rfl)) ?_ | refine AI [17] Z Z (fun _=>AB (Ax Z Z (rfl) rfl Gz rfl)) ?_
  first | refine AE [18] [] Z Z (fun _=>AB (DH Gy Jo Z Z Z)) ?_ | refine AI [18] Z Z (fun _=>AB (DH Gy Jo Z Z Z)) ?_
  refine KP [16,19] [] Z Z Z (fun _=>AB (LC (M) (Gv i.po[k]) (0) _ Z Z Z HH DU QO Z Z)) (fun _=>AB (LC (Bb (M) (Gv i.po[k]) (0)) (Gv i.po[k]) (0) _ Z Z Z HH DU QO (Ey _ _ _ _) rfl)) ?_
  first | refine AE [5] [] Z Z (fun _=>AB (AM rfl PD Z Z Z)) ?_ | refine AI [5] Z Z (fun _=>AB (AM rfl PD Z Z Z)) ?_ | refine AE [5] [] Z Z (fun _=>AB (AO rfl PD Z Z Z)) ?_ | refine AI [5] Z Z (fun _=>AB (AO rfl PD Z Z Z)) ?_ | refine AE [5] [] Z Z (fun _=>AB (AP rfl PD Z Z Z)) ?_ | refine AI [5] Z Z (fun _=>AB (AP rfl PD Z Z Z)) ?_ | refine AE [5] [] Z Z (fun _=>AB (AN rfl PD Z Z Z)) ?_ | refine AI [5] Z Z (fun _=>AB (AN rfl PD Z Z Z)) ?_ | refine AE [5] [] Z Z (fun _=>AB (AL rfl PD Z Z Z)) ?_ | refine AI [5] Z Z (fun _=>AB (AL rfl PD Z Z Z)) ?_
  first | refine AE [21] [] Z Z (fun _=>AB (AY Z Z BI rfl)) ?_ | refine AI [21] Z Z (fun _=>AB (AY Z Z BI rfl)) ?_ | refine AE [21] [] Z Z (fun _=>AB (AW Z Z Z BI rfl)) ?_ | refine AI [21] Z Z (fun _=>AB (AW Z Z Z BI rfl)) ?_ | refine AE [21] [] Z Z (fun _=>AB (AX Z Z (rfl) rfl BI rfl)) ?_ | refine AI [21] Z Z (fun _=>AB (AX Z Z (rfl) rfl BI rfl)) ?_
  first | refine AE [20,22] [] Z Z (fun _=>AB (Bi Z Z (IntWalk.i64_in _ (by omega)) rfl)) ?_ | refine AI [20,22] Z Z (fun _=>AB (Bi Z Z (IntWalk.i64_in _ (by omega)) rfl)) ?_
  refine Gn [16,19] [2] [(24,_)] Z Z (fun _=>Gq (Hy (M) (Gv i.po[k]) (0) Z Z Z HH DU QO Z Z)) (.inr ⟨24,_,rfl,rfl,rfl,rfl,rfl⟩) Z Z Z Z Z ?_ (hCn:=Rm rfl)
  first | refine AE [24] [] Z Z (fun _=>AB (B6 Z Z Z)) ?_ | refine AI [24] Z Z (fun _=>AB (B6 Z Z Z)) ?_ | refine AE [24] [] Z Z (fun _=>AB (B7 Z Z Z)) ?_ | refine AI [24] Z Z (fun _=>AB (B7 Z Z Z)) ?_
  refine GR 10 Z Z Z (BC 11 Z Z (U (Hz (M) (Gv i.po[k]) (0) (Ai M (Gv i.po[k]) 0+i.po[k].d) Z Z Z DU Z Z) (AG ⟨rfl,?_⟩)));refine GQ (AJ (J (Bi Z Z (Ac (k+1) (by omega)) rfl) (AC Z Z (AG ?_))));exact ⟨(k+1,_),⟨by show k+1≤_;omega,by show _=sumL (KQ (i.po.take (k+1)));rw [Vu hk1,T4,←hM];rfl⟩,by show i.po.length - (k+1)<i.po.length - k;omega,BA hF [2,1] rfl (rfl) ⟨rfl,rfl,rfl,rfl,rfl,trivial⟩⟩
 ·refine CW (AF (AF ?_));have hM0:M=sumL (KQ i.po++NO (i.pa.take 0)):=by rw [hM,List.take_of_length_le (by have h:=h13;omega)];simp [NO]
  refine AJ ?_
  first | refine J (AM rfl FN Z Z Z) ?_ | refine J (AO rfl FN Z Z Z) ?_ | refine J (AP rfl FN Z Z Z) ?_ | refine J (AN rfl FN Z Z Z) ?_ | refine J (AL rfl FN Z Z Z) ?_
  first | refine J (AY Z Z HE rfl) ?_ | refine J (AW Z Z Z HE rfl) ?_ | refine J (AX Z Z (rfl) rfl HE rfl) ?_
  first | refine J (Cz rfl Tryz.underlying47 rfl) ?_ | refine J (C9 Z Z Tryz.underlying47 rfl) ?_ | refine J (DB rfl Tryz.underlying47 rfl) ?_ | refine J (Cy rfl Tryz.underlying47 rfl) ?_ | refine J (Cr rfl Tryz.underlying47 rfl) ?_ | refine J (Cw rfl Tryz.underlying47 rfl) ?_
  refine AC Z Z (AG (Al (DG (α:=Nat×List (A5×Int)) (fun q=>⟨80,[(3,(.map 2 0)),(28,(.d (.sl none (i.pa.map HC)))),(29,(.d (AH (i.pa.length:Int)))),(30,(.d (AH (q.1:Int))))],[(2,[CL EX AH q.2])]⟩) (fun q=>q.1≤i.pa.length∧q.2=sumL (KQ i.po++NO (i.pa.take q.1))) (fun q=>i.pa.length - q.1) ((0,M)) (⟨Nat.zero_le _,hM0⟩) (BA hF [2] Z Z ⟨rfl,rfl,rfl,rfl,trivial⟩) ?_)));rintro ⟨m,N⟩ ⟨hm0,hN⟩;dsimp only at hm0 hN⊢;refine AF (AJ ?_)
  first | refine J (CD Z Z Z) ?_ | refine J (CE Z Z Z) ?_
  refine AG (AF ?_)
  first | refine Ay rfl (fun h31=>?_) (fun h31=>?_) | refine At rfl (fun h31=>?_) (fun h31=>?_)
  ·have hm1:m<i.pa.length:=DA h31;refine Ak (AF (Al (AF (AJ ?_))));have hbm:=hi.n _ (List.getElem_mem hm1);have hsm:=Wb hN ((bnd_P hi.d).append (bnd_Y fun q hq=>hi.n q (List.mem_of_mem_take hq))) (by rw [List.length_append,L4];simp [KQ];omega) hbm;simp only [Mx] at hbm
   first | refine J (CT (m) Z Z (rfl) (A0 hm1) Tryz.underlying47 rfl OA rfl) ?_ | refine J (CU (m) Z Z (rfl) (A0 hm1) rfl Tryz.underlying47 OA rfl) ?_
   first | refine J (Av Z Z OJ rfl) ?_ | refine J (Aw Z Z OJ Z Z Z) ?_ | refine J (Ax Z Z (rfl) rfl OJ rfl) ?_
   refine U (DO 4 WT Z Z Z Z) (U (CF Z Z Z Z Z Z Z OA) (AG (AF (Gp [[],[],[1],[],[3],[1,2,3,4],[0,1,2,3,4,5],[],[7],[0,1,2,3,4,5,6,7,8],[0,1,2,3,4,5,7,8],[0,1,2,3,4,5,7,8,10],[0,1,2,3,4,5,6,7,8,9,10,11]] BF rfl (YZ 2 ([CL EX AH (Bb N (DQ i.pa[m].f i.pa[m].t) 0)]) rfl ?_)))))
   first | refine AE [3] [] Z Z (fun _=>AB (Be Z Z)) ?_ | refine AI [3] Z Z (fun _=>AB (Be Z Z)) ?_
   first | refine AE [7] [] Z Z (fun _=>AB (AM rfl GW Z Z Z)) ?_ | refine AI [7] Z Z (fun _=>AB (AM rfl GW Z Z Z)) ?_ | refine AE [7] [] Z Z (fun _=>AB (AO rfl GW Z Z Z)) ?_ | refine AI [7] Z Z (fun _=>AB (AO rfl GW Z Z Z)) ?_ | refine AE [7] [] Z Z (fun _=>AB (AP rfl GW Z Z Z)) ?_ | refine AI [7] Z Z (fun _=>AB (AP rfl GW Z Z Z)) ?_ | refine AE [7] [] Z Z (fun _=>AB (AN rfl GW Z Z Z)) ?_ | refine AI [7] Z Z (fun _=>AB (AN rfl GW Z Z Z)) ?_ | refine AE [7] [] Z Z (fun _=>AB (AL rfl GW Z Z Z)) ?_ | refine AI [7] Z Z (fun _=>AB (AL rfl GW Z Z Z)) ?_
   first | refine AE [35] [] Z Z (fun _=>AB (AY Z Z As rfl)) ?_ | refine AI [35] Z Z (fun _=>AB (AY Z Z As rfl)) ?_ | refine AE [35] [] Z Z (fun _=>AB (AW Z Z Z As rfl)) ?_ | refine AI [35] Z Z (fun _=>AB (AW Z Z Z As rfl)) ?_ | refine AE [35] [] Z Z (fun _=>AB (AX Z Z (rfl) rfl As rfl)) ?_ | refine AI [35] Z Z (fun _=>AB (AX Z Z (rfl) rfl As rfl)) ?_
   first | refine AE [7] [] Z Z (fun _=>AB (AM rfl GX Z Z Z)) ?_ | refine AI [7] Z Z (fun _=>AB (AM rfl GX Z Z Z)) ?_ | refine AE [7] [] Z Z (fun _=>AB (AO rfl GX Z Z Z)) ?_ | refine AI [7] Z Z (fun _=>AB (AO rfl GX Z Z Z)) ?_ | refine AE [7] [] Z Z (fun _=>AB (AP rfl GX Z Z Z)) ?_ | refine AI [7] Z Z (fun _=>AB (AP rfl GX Z Z Z)) ?_ | refine AE [7] [] Z Z (fun _=>AB (AN rfl GX Z Z Z)) ?_ | refine AI [7] Z Z (fun _=>AB (AN rfl GX Z Z Z)) ?_ | refine AE [7] [] Z Z (fun _=>AB (AL rfl GX Z Z Z)) ?_ | refine AI [7] Z Z (fun _=>AB (AL rfl GX Z Z Z)) ?_
   first | refine AE [37] [] Z Z (fun _=>AB (AY Z Z As rfl)) ?_ | refine AI [37] Z Z (fun _=>AB (AY Z Z As rfl)) ?_ | refine AE [37] [] Z Z (fun _=>AB (AW Z Z Z As rfl)) ?_ | refine AI [37] Z Z (fun _=>AB (AW Z Z Z As rfl)) ?_ | refine AE [37] [] Z Z (fun _=>AB (AX Z Z (rfl) rfl As rfl)) ?_ | refine AI [37] Z Z (fun _=>AB (AX Z Z (rfl) rfl As rfl)) ?_
   first | refine AE [36,38] [] Z Z (fun _=>AB (DH Gy Jo Z Z Z)) ?_ | refine AI [36,38] Z Z (fun _=>AB (DH Gy Jo Z Z Z)) ?_
   refine KP [34,39] [] Z Z Z (fun _=>AB (LC (N) (DQ i.pa[m].f i.pa[m].t) (0) _ Z Z Z HH DU QO Z Z)) (fun _=>AB (LC (Bb (N) (DQ i.pa[m].f i.pa[m].t) (0)) (DQ i.pa[m].f i.pa[m].t) (0) _ Z Z Z HH DU QO (Ey _ _ _ _) rfl)) ?_
   first | refine AE [7] [] Z Z (fun _=>AB (AM rfl FK Z Z Z)) ?_ | refine AI [7] Z Z (fun _=>AB (AM rfl FK Z Z Z)) ?_ | refine AE [7] [] Z Z (fun _=>AB (AO rfl FK Z Z Z)) ?_ | refine AI [7] Z Z (fun _=>AB (AO rfl FK Z Z Z)) ?_ | refine AE [7] [] Z Z (fun _=>AB (AP rfl FK Z Z Z)) ?_ | refine AI [7] Z Z (fun _=>AB (AP rfl FK Z Z Z)) ?_ | refine AE [7] [] Z Z (fun _=>AB (AN rfl FK Z Z Z)) ?_ | refine AI [7] Z Z (fun _=>AB (AN rfl FK Z Z Z)) ?_ | refine AE [7] [] Z Z (fun _=>AB (AL rfl FK Z Z Z)) ?_ | refine AI [7] Z Z (fun _=>AB (AL rfl FK Z Z Z)) ?_
   first | refine AE [41] [] Z Z (fun _=>AB (AY Z Z BI rfl)) ?_ | refine AI [41] Z Z (fun _=>AB (AY Z Z BI rfl)) ?_ | refine AE [41] [] Z Z (fun _=>AB (AW Z Z Z BI rfl)) ?_ | refine AI [41] Z Z (fun _=>AB (AW Z Z Z BI rfl)) ?_ | refine AE [41] [] Z Z (fun _=>AB (AX Z Z (rfl) rfl BI rfl)) ?_ | refine AI [41] Z Z (fun _=>AB (AX Z Z (rfl) rfl BI rfl)) ?_
   have g:=(hsm (DQ i.pa[m].f i.pa[m].t)).1
   first | refine AE [40,42] [] Z Z (fun _=>AB (Er Z Z (IntWalk.i64_in _ (by omega)) rfl)) ?_ | refine AI [40,42] Z Z (fun _=>AB (Er Z Z (IntWalk.i64_in _ (by omega)) rfl)) ?_
   refine Gn [34,39] [2] [(44,_)] Z Z (fun _=>Gq (Hy (N) (DQ i.pa[m].f i.pa[m].t) (0) Z Z Z HH DU QO Z Z)) (.inr ⟨44,_,rfl,rfl,rfl,rfl,rfl⟩) Z Z Z Z Z ?_ (hCn:=Rm rfl)
   first | refine AE [44] [] Z Z (fun _=>AB (B6 Z Z Z)) ?_ | refine AI [44] Z Z (fun _=>AB (B6 Z Z Z)) ?_ | refine AE [44] [] Z Z (fun _=>AB (B7 Z Z Z)) ?_ | refine AI [44] Z Z (fun _=>AB (B7 Z Z Z)) ?_
   refine GR 12 Z Z Z (BC 13 Z Z (U (Hz (N) (DQ i.pa[m].f i.pa[m].t) (0) (Ai N (DQ i.pa[m].f i.pa[m].t) 0 - i.pa[m].n) Z Z Z DU Z Z) (AG ⟨rfl,?_⟩)));refine GQ (AF (Gp [[],[],[1],[],[3],[1,2,3,4],[0,1,2,3,4,5],[],[7],[0,1,2,3,4,5,6,7,8],[0,1,2,3,4,5,7,8],[0,1,2,3,4,5,7,8,10],[0,1,2,3,4,5,6,7,8,9,10,11]] BF rfl (YZ 2 ([CL EX AH (Bb (KY N i.pa[m]) (DQ i.pa[m].t i.pa[m].f) 0)]) rfl ?_)))
   first | refine AE [3] [] Z Z (fun _=>AB (Be Z Z)) ?_ | refine AI [3] Z Z (fun _=>AB (Be Z Z)) ?_
   first | refine AE [7] [] Z Z (fun _=>AB (AM rfl GX Z Z Z)) ?_ | refine AI [7] Z Z (fun _=>AB (AM rfl GX Z Z Z)) ?_ | refine AE [7] [] Z Z (fun _=>AB (AO rfl GX Z Z Z)) ?_ | refine AI [7] Z Z (fun _=>AB (AO rfl GX Z Z Z)) ?_ | refine AE [7] [] Z Z (fun _=>AB (AP rfl GX Z Z Z)) ?_ | refine AI [7] Z Z (fun _=>AB (AP rfl GX Z Z Z)) ?_ | refine AE [7] [] Z Z (fun _=>AB (AN rfl GX Z Z Z)) ?_ | refine AI [7] Z Z (fun _=>AB (AN rfl GX Z Z Z)) ?_ | refine AE [7] [] Z Z (fun _=>AB (AL rfl GX Z Z Z)) ?_ | refine AI [7] Z Z (fun _=>AB (AL rfl GX Z Z Z)) ?_
   first | refine AE [47] [] Z Z (fun _=>AB (AY Z Z As rfl)) ?_ | refine AI [47] Z Z (fun _=>AB (AY Z Z As rfl)) ?_ | refine AE [47] [] Z Z (fun _=>AB (AW Z Z Z As rfl)) ?_ | refine AI [47] Z Z (fun _=>AB (AW Z Z Z As rfl)) ?_ | refine AE [47] [] Z Z (fun _=>AB (AX Z Z (rfl) rfl As rfl)) ?_ | refine AI [47] Z Z (fun _=>AB (AX Z Z (rfl) rfl As rfl)) ?_
   first | refine AE [7] [] Z Z (fun _=>AB (AM rfl GW Z Z Z)) ?_ | refine AI [7] Z Z (fun _=>AB (AM rfl GW Z Z Z)) ?_ | refine AE [7] [] Z Z (fun _=>AB (AO rfl GW Z Z Z)) ?_ | refine AI [7] Z Z (fun _=>AB (AO rfl GW Z Z Z)) ?_ | refine AE [7] [] Z Z (fun _=>AB (AP rfl GW Z Z Z)) ?_ | refine AI [7] Z Z (fun _=>AB (AP rfl GW Z Z Z)) ?_ | refine AE [7] [] Z Z (fun _=>AB (AN rfl GW Z Z Z)) ?_ | refine AI [7] Z Z (fun _=>AB (AN rfl GW Z Z Z)) ?_ | refine AE [7] [] Z Z (fun _=>AB (AL rfl GW Z Z Z)) ?_ | refine AI [7] Z Z (fun _=>AB (AL rfl GW Z Z Z)) ?_
   first | refine AE [49] [] Z Z (fun _=>AB (AY Z Z As rfl)) ?_ | refine AI [49] Z Z (fun _=>AB (AY Z Z As rfl)) ?_ | refine AE [49] [] Z Z (fun _=>AB (AW Z Z Z As rfl)) ?_ | refine AI [49] Z Z (fun _=>AB (AW Z Z Z As rfl)) ?_ | refine AE [49] [] Z Z (fun _=>AB (AX Z Z (rfl) rfl As rfl)) ?_ | refine AI [49] Z Z (fun _=>AB (AX Z Z (rfl) rfl As rfl)) ?_
   first | refine AE [48,50] [] Z Z (fun _=>AB (DH Gy Jo Z Z Z)) ?_ | refine AI [48,50] Z Z (fun _=>AB (DH Gy Jo Z Z Z)) ?_
   refine KP [46,51] [] Z Z Z (fun _=>AB (LC (KY N i.pa[m]) (DQ i.pa[m].t i.pa[m].f) (0) _ Z Z Z HH DU QO Z Z)) (fun _=>AB (LC (Bb (KY N i.pa[m]) (DQ i.pa[m].t i.pa[m].f) (0)) (DQ i.pa[m].t i.pa[m].f) (0) _ Z Z Z HH DU QO (Ey _ _ _ _) rfl)) ?_
   first | refine AE [7] [] Z Z (fun _=>AB (AM rfl FK Z Z Z)) ?_ | refine AI [7] Z Z (fun _=>AB (AM rfl FK Z Z Z)) ?_ | refine AE [7] [] Z Z (fun _=>AB (AO rfl FK Z Z Z)) ?_ | refine AI [7] Z Z (fun _=>AB (AO rfl FK Z Z Z)) ?_ | refine AE [7] [] Z Z (fun _=>AB (AP rfl FK Z Z Z)) ?_ | refine AI [7] Z Z (fun _=>AB (AP rfl FK Z Z Z)) ?_ | refine AE [7] [] Z Z (fun _=>AB (AN rfl FK Z Z Z)) ?_ | refine AI [7] Z Z (fun _=>AB (AN rfl FK Z Z Z)) ?_ | refine AE [7] [] Z Z (fun _=>AB (AL rfl FK Z Z Z)) ?_ | refine AI [7] Z Z (fun _=>AB (AL rfl FK Z Z Z)) ?_
   first | refine AE [53] [] Z Z (fun _=>AB (AY Z Z BI rfl)) ?_ | refine AI [53] Z Z (fun _=>AB (AY Z Z BI rfl)) ?_ | refine AE [53] [] Z Z (fun _=>AB (AW Z Z Z BI rfl)) ?_ | refine AI [53] Z Z (fun _=>AB (AW Z Z Z BI rfl)) ?_ | refine AE [53] [] Z Z (fun _=>AB (AX Z Z (rfl) rfl BI rfl)) ?_ | refine AI [53] Z Z (fun _=>AB (AX Z Z (rfl) rfl BI rfl)) ?_
   have g:=(hsm (DQ i.pa[m].t i.pa[m].f)).2.1
   first | refine AE [52,54] [] Z Z (fun _=>AB (Bi Z Z (IntWalk.i64_in _ (by omega)) rfl)) ?_ | refine AI [52,54] Z Z (fun _=>AB (Bi Z Z (IntWalk.i64_in _ (by omega)) rfl)) ?_
   refine Gn [46,51] [2] [(56,_)] Z Z (fun _=>Gq (Hy (KY N i.pa[m]) (DQ i.pa[m].t i.pa[m].f) (0) Z Z Z HH DU QO Z Z)) (.inr ⟨56,_,rfl,rfl,rfl,rfl,rfl⟩) Z Z Z Z Z ?_ (hCn:=Rm rfl)
   first | refine AE [56] [] Z Z (fun _=>AB (B6 Z Z Z)) ?_ | refine AI [56] Z Z (fun _=>AB (B6 Z Z Z)) ?_ | refine AE [56] [] Z Z (fun _=>AB (B7 Z Z Z)) ?_ | refine AI [56] Z Z (fun _=>AB (B7 Z Z Z)) ?_
   refine GR 12 Z Z Z (BC 13 Z Z (U (Hz (KY N i.pa[m]) (DQ i.pa[m].t i.pa[m].f) (0) (Ai (KY N i.pa[m]) (DQ i.pa[m].t i.pa[m].f) 0+i.pa[m].n) Z Z Z DU Z Z) (AG ⟨rfl,?_⟩)));refine GQ (AF (Gp [[],[],[1],[1,2],[0,1,2,3],[],[5],[0,1,2,3,4,5,6],[0,1,2,3,5,6],[0,1,2,3,5,6,8],[0,1,2,3,4,5,6,7,8,9]] BF rfl (YZ 2 ([CL EX AH (Bb (PQ (KY N i.pa[m]) i.pa[m]) (EO i.pa[m].f) 0)]) rfl ?_)))
   first | refine AE [3] [] Z Z (fun _=>AB (Be Z Z)) ?_ | refine AI [3] Z Z (fun _=>AB (Be Z Z)) ?_
   first | refine AE [7] [] Z Z (fun _=>AB (AM rfl GW Z Z Z)) ?_ | refine AI [7] Z Z (fun _=>AB (AM rfl GW Z Z Z)) ?_ | refine AE [7] [] Z Z (fun _=>AB (AO rfl GW Z Z Z)) ?_ | refine AI [7] Z Z (fun _=>AB (AO rfl GW Z Z Z)) ?_ | refine AE [7] [] Z Z (fun _=>AB (AP rfl GW Z Z Z)) ?_ | refine AI [7] Z Z (fun _=>AB (AP rfl GW Z Z Z)) ?_ | refine AE [7] [] Z Z (fun _=>AB (AN rfl GW Z Z Z)) ?_ | refine AI [7] Z Z (fun _=>AB (AN rfl GW Z Z Z)) ?_ | refine AE [7] [] Z Z (fun _=>AB (AL rfl GW Z Z Z)) ?_ | refine AI [7] Z Z (fun _=>AB (AL rfl GW Z Z Z)) ?_
   first | refine AE [59] [] Z Z (fun _=>AB (AY Z Z As rfl)) ?_ | refine AI [59] Z Z (fun _=>AB (AY Z Z As rfl)) ?_ | refine AE [59] [] Z Z (fun _=>AB (AW Z Z Z As rfl)) ?_ | refine AI [59] Z Z (fun _=>AB (AW Z Z Z As rfl)) ?_ | refine AE [59] [] Z Z (fun _=>AB (AX Z Z (rfl) rfl As rfl)) ?_ | refine AI [59] Z Z (fun _=>AB (AX Z Z (rfl) rfl As rfl)) ?_
   first | refine AE [60] [] Z Z (fun _=>AB (DH Gy Jo Z Z Z)) ?_ | refine AI [60] Z Z (fun _=>AB (DH Gy Jo Z Z Z)) ?_
   refine KP [58,61] [] Z Z Z (fun _=>AB (LC (PQ (KY N i.pa[m]) i.pa[m]) (EO i.pa[m].f) (0) _ Z Z Z HH DU QO Z Z)) (fun _=>AB (LC (Bb (PQ (KY N i.pa[m]) i.pa[m]) (EO i.pa[m].f) (0)) (EO i.pa[m].f) (0) _ Z Z Z HH DU QO (Ey _ _ _ _) rfl)) ?_
   first | refine AE [7] [] Z Z (fun _=>AB (AM rfl FK Z Z Z)) ?_ | refine AI [7] Z Z (fun _=>AB (AM rfl FK Z Z Z)) ?_ | refine AE [7] [] Z Z (fun _=>AB (AO rfl FK Z Z Z)) ?_ | refine AI [7] Z Z (fun _=>AB (AO rfl FK Z Z Z)) ?_ | refine AE [7] [] Z Z (fun _=>AB (AP rfl FK Z Z Z)) ?_ | refine AI [7] Z Z (fun _=>AB (AP rfl FK Z Z Z)) ?_ | refine AE [7] [] Z Z (fun _=>AB (AN rfl FK Z Z Z)) ?_ | refine AI [7] Z Z (fun _=>AB (AN rfl FK Z Z Z)) ?_ | refine AE [7] [] Z Z (fun _=>AB (AL rfl FK Z Z Z)) ?_ | refine AI [7] Z Z (fun _=>AB (AL rfl FK Z Z Z)) ?_
   first | refine AE [63] [] Z Z (fun _=>AB (AY Z Z BI rfl)) ?_ | refine AI [63] Z Z (fun _=>AB (AY Z Z BI rfl)) ?_ | refine AE [63] [] Z Z (fun _=>AB (AW Z Z Z BI rfl)) ?_ | refine AI [63] Z Z (fun _=>AB (AW Z Z Z BI rfl)) ?_ | refine AE [63] [] Z Z (fun _=>AB (AX Z Z (rfl) rfl BI rfl)) ?_ | refine AI [63] Z Z (fun _=>AB (AX Z Z (rfl) rfl BI rfl)) ?_
   have g:=(hsm (EO i.pa[m].f)).2.2.1
   first | refine AE [62,64] [] Z Z (fun _=>AB (Er Z Z (IntWalk.i64_in _ (by omega)) rfl)) ?_ | refine AI [62,64] Z Z (fun _=>AB (Er Z Z (IntWalk.i64_in _ (by omega)) rfl)) ?_
   refine Gn [58,61] [2] [(66,_)] Z Z (fun _=>Gq (Hy (PQ (KY N i.pa[m]) i.pa[m]) (EO i.pa[m].f) (0) Z Z Z HH DU QO Z Z)) (.inr ⟨66,_,rfl,rfl,rfl,rfl,rfl⟩) Z Z Z Z Z ?_ (hCn:=Rm rfl)
   first | refine AE [66] [] Z Z (fun _=>AB (B6 Z Z Z)) ?_ | refine AI [66] Z Z (fun _=>AB (B6 Z Z Z)) ?_ | refine AE [66] [] Z Z (fun _=>AB (B7 Z Z Z)) ?_ | refine AI [66] Z Z (fun _=>AB (B7 Z Z Z)) ?_
   refine GR 10 Z Z Z (BC 11 Z Z (U (Hz (PQ (KY N i.pa[m]) i.pa[m]) (EO i.pa[m].f) (0) (Ai (PQ (KY N i.pa[m]) i.pa[m]) (EO i.pa[m].f) 0 - i.pa[m].n) Z Z Z DU Z Z) (AG ⟨rfl,?_⟩)));refine GQ (Gp [[],[],[1],[1,2],[0,1,2,3],[],[5],[0,1,2,3,4,5,6],[0,1,2,3,5,6],[0,1,2,3,5,6,8],[0,1,2,3,4,5,6,7,8,9]] BF rfl (YZ 2 ([CL EX AH (Bb (st3 (PQ (KY N i.pa[m]) i.pa[m]) i.pa[m]) (EO i.pa[m].t) 0)]) rfl ?_))
   first | refine AE [3] [] Z Z (fun _=>AB (Be Z Z)) ?_ | refine AI [3] Z Z (fun _=>AB (Be Z Z)) ?_
   first | refine AE [7] [] Z Z (fun _=>AB (AM rfl GX Z Z Z)) ?_ | refine AI [7] Z Z (fun _=>AB (AM rfl GX Z Z Z)) ?_ | refine AE [7] [] Z Z (fun _=>AB (AO rfl GX Z Z Z)) ?_ | refine AI [7] Z Z (fun _=>AB (AO rfl GX Z Z Z)) ?_ | refine AE [7] [] Z Z (fun _=>AB (AP rfl GX Z Z Z)) ?_ | refine AI [7] Z Z (fun _=>AB (AP rfl GX Z Z Z)) ?_ | refine AE [7] [] Z Z (fun _=>AB (AN rfl GX Z Z Z)) ?_ | refine AI [7] Z Z (fun _=>AB (AN rfl GX Z Z Z)) ?_ | refine AE [7] [] Z Z (fun _=>AB (AL rfl GX Z Z Z)) ?_ | refine AI [7] Z Z (fun _=>AB (AL rfl GX Z Z Z)) ?_
   first | refine AE [69] [] Z Z (fun _=>AB (AY Z Z As rfl)) ?_ | refine AI [69] Z Z (fun _=>AB (AY Z Z As rfl)) ?_ | refine AE [69] [] Z Z (fun _=>AB (AW Z Z Z As rfl)) ?_ | refine AI [69] Z Z (fun _=>AB (AW Z Z Z As rfl)) ?_ | refine AE [69] [] Z Z (fun _=>AB (AX Z Z (rfl) rfl As rfl)) ?_ | refine AI [69] Z Z (fun _=>AB (AX Z Z (rfl) rfl As rfl)) ?_
   first | refine AE [70] [] Z Z (fun _=>AB (DH Gy Jo Z Z Z)) ?_ | refine AI [70] Z Z (fun _=>AB (DH Gy Jo Z Z Z)) ?_
   refine KP [68,71] [] Z Z Z (fun _=>AB (LC (st3 (PQ (KY N i.pa[m]) i.pa[m]) i.pa[m]) (EO i.pa[m].t) (0) _ Z Z Z HH DU QO Z Z)) (fun _=>AB (LC (Bb (st3 (PQ (KY N i.pa[m]) i.pa[m]) i.pa[m]) (EO i.pa[m].t) (0)) (EO i.pa[m].t) (0) _ Z Z Z HH DU QO (Ey _ _ _ _) rfl)) ?_
   first | refine AE [7] [] Z Z (fun _=>AB (AM rfl FK Z Z Z)) ?_ | refine AI [7] Z Z (fun _=>AB (AM rfl FK Z Z Z)) ?_ | refine AE [7] [] Z Z (fun _=>AB (AO rfl FK Z Z Z)) ?_ | refine AI [7] Z Z (fun _=>AB (AO rfl FK Z Z Z)) ?_ | refine AE [7] [] Z Z (fun _=>AB (AP rfl FK Z Z Z)) ?_ | refine AI [7] Z Z (fun _=>AB (AP rfl FK Z Z Z)) ?_ | refine AE [7] [] Z Z (fun _=>AB (AN rfl FK Z Z Z)) ?_ | refine AI [7] Z Z (fun _=>AB (AN rfl FK Z Z Z)) ?_ | refine AE [7] [] Z Z (fun _=>AB (AL rfl FK Z Z Z)) ?_ | refine AI [7] Z Z (fun _=>AB (AL rfl FK Z Z Z)) ?_
   first | refine AE [73] [] Z Z (fun _=>AB (AY Z Z BI rfl)) ?_ | refine AI [73] Z Z (fun _=>AB (AY Z Z BI rfl)) ?_ | refine AE [73] [] Z Z (fun _=>AB (AW Z Z Z BI rfl)) ?_ | refine AI [73] Z Z (fun _=>AB (AW Z Z Z BI rfl)) ?_ | refine AE [73] [] Z Z (fun _=>AB (AX Z Z (rfl) rfl BI rfl)) ?_ | refine AI [73] Z Z (fun _=>AB (AX Z Z (rfl) rfl BI rfl)) ?_
   have g:=(hsm (EO i.pa[m].t)).2.2.2
   first | refine AE [72,74] [] Z Z (fun _=>AB (Bi Z Z (IntWalk.i64_in _ (by omega)) rfl)) ?_ | refine AI [72,74] Z Z (fun _=>AB (Bi Z Z (IntWalk.i64_in _ (by omega)) rfl)) ?_
   refine Gn [68,71] [2] [(76,_)] Z Z (fun _=>Gq (Hy (st3 (PQ (KY N i.pa[m]) i.pa[m]) i.pa[m]) (EO i.pa[m].t) (0) Z Z Z HH DU QO Z Z)) (.inr ⟨76,_,rfl,rfl,rfl,rfl,rfl⟩) Z Z Z Z Z ?_ (hCn:=Rm rfl)
   first | refine AE [76] [] Z Z (fun _=>AB (B6 Z Z Z)) ?_ | refine AI [76] Z Z (fun _=>AB (B6 Z Z Z)) ?_ | refine AE [76] [] Z Z (fun _=>AB (B7 Z Z Z)) ?_ | refine AI [76] Z Z (fun _=>AB (B7 Z Z Z)) ?_
   refine GR 10 Z Z Z (BC 11 Z Z (U (Hz (st3 (PQ (KY N i.pa[m]) i.pa[m]) i.pa[m]) (EO i.pa[m].t) (0) (Ai (st3 (PQ (KY N i.pa[m]) i.pa[m]) i.pa[m]) (EO i.pa[m].t) 0+i.pa[m].n) Z Z Z DU Z Z) (AG ⟨rfl,?_⟩)));refine GQ (AJ (J (Bi Z Z (Ac (m+1) (by omega)) rfl) (AC Z Z (AG ?_))));exact ⟨(m+1,_),⟨by show m+1≤_;omega,by show _=sumL (KQ i.po++NO (i.pa.take (m+1)));rw [Vt hm1,←List.append_assoc];exact (We hN).2.2.2⟩,by show i.pa.length - (m+1)<i.pa.length - m;omega,BA hF [2] rfl (rfl) ⟨rfl,rfl,rfl,rfl,trivial⟩⟩
  ·refine CW (AF (AJ (AC Z Z (AD Z Z (AG (Ae ?_))))));exact ⟨_,[2],_,Aa rfl,rfl,rfl,rfl,by rw [hN,List.take_of_length_le (by have h:=h31;omega)]<;>rfl⟩
end Go.Proofs.YtnkkaeblokdifaaGreat
