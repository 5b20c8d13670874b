/- Laws as rows: arguments opened by their types, and a contract over frozen data. -/
import Derived.Test.YtnkkaeblokdifaaGreatMg13
import Derived.SizedLaws
namespace Go.Proofs.YtnkkaeblokdifaaGreat
open Go.ChangeShapes Go.WideShapes Go.ChangeAt Go.RowKit Go.Deep
abbrev noB:Nat ->Prop:=fun _=>False
def Tk (w:World) (d:D) (cs:List Value):Prop:=cs.length=d.cells.length∧(∀c∈d.cells,c.one=true)∧∀(j:Nat) c u,d.cells[j]?=some c ->cs[j]?=some u ->AX w noB c u
theorem Jv {w:World} {d:D} {u:Value} (hd:d.one=true) (h:AX w noB d u):Tk w d [u]:=by
 rw [Tk,D.cells_one hd];refine ⟨rfl,by simp [hd],fun j c u' hc hu=>?_⟩
 cases j with
 | zero=>simp at hc hu;subst hc hu;exact h
 | succ j=>simp at hc
theorem Tk.argS {w:World} {ρ:Nat ->Nat ->Value} {O:Nat ->Prop} {ds:List D} {cs:Array Value} (hO:O=noB) (h:Tk w (.agg ds) (Value.agg cs).cells.toList):A3 w O ρ (.d (.agg ds)) (.agg cs):=by
 subst hO;obtain ⟨h1,h2,h3⟩:=h;have:=AX.agg (w:=w) (O:=noB) (cs:=ds) (vs:=cs.toList) h1 h2 h3;exact .d (by simpa using this)
section
variable {H:Type} {enc:TypeId×Value ->H} {P:Program} {w:World}
def CT {α:Type} (enc:TypeId×Value ->H) (P:Program) (w:World) (t:TypeId) (k:Nat) (emb:α ->D) (Q:α ->Prop):Prop:=
 ∀fuel cs x,DataW.trod enc P w 0 (fun _=>true) true fuel t cs=some x ->(∀p∈x.2,p.block<w.heap.size) ->(∀n∈x.1.weights P t,n≤reachBytes) ->∃a,Q a∧(emb a).cells.length=k∧Tk w (emb a) cs
theorem MU {e:TypeId} {l:List (DataW H)} {d:DataW H} (hd:d∈l) {n:Nat} (hn:n∈d.weights P e):n∈DataW.weightsAll P e l:=by
 induction l with
 | nil=>cases hd
 | cons a r ih=>
  simp only [DataW.weightsAll,List.mem_append];rcases List.mem_cons.1 hd with rfl | hd
  ·exact .inl hn
  ·exact .inr (ih hd)
theorem openInt {t:TypeId} {k:IntKind} (ht:P.underlying t=some (.int k)):CT enc P w t 1 (fun z:Int=> .raw (.int k z)) (fun z=>k.min≤z∧z≤k.max):=fun fuel cs x h _ _=>by
 obtain ⟨z,rfl,_,hw⟩:=DataW.trod_int ht h;simp only [Lit.wf,Bool.and_eq_true,decide_eq_true_eq] at hw;exact ⟨z,hw,rfl,Jv rfl (.raw rfl)⟩
theorem openStr {t:TypeId} (ht:P.underlying t=some .string):CT enc P w t 1 (fun s:ByteArray=> .raw (.string s)) (fun s=>s.size≤140737488351232):=fun fuel cs x h _ hw=>by
 obtain ⟨s,rfl,rfl,hs⟩:=DataW.trod_string ht h;exact ⟨s,by simpa [DataW.weights,reachBytes] using hw,rfl,Jv rfl (.raw rfl)⟩
theorem Mt {α:Type} {t e:TypeId} {k b:Nat} {emb:α ->D} {Q:α ->Prop} (ht:P.underlying t=some (.slice e)) (hk:P.cellsOf e=k) (hk0:0<k) (hb:P.bytesOf e=b) (hO:CT enc P w e k emb Q):CT enc P w t 1 (fun l:List α=> .sl none (l.map emb)) (fun l=>(∀a∈l,Q a)∧l.length*b≤140737488351232):=fun fuel cs x h hlt hwt=>by
 rcases open_slice ht h with ⟨rfl,rfl⟩ | ⟨a,len,cap,m,n,Dd,Pl,rfl,_,hl,hm,hmm,rfl,hi⟩
 ·refine ⟨[],⟨by simp,by simp⟩,rfl,Jv rfl (.sl k (fun b hb=>by cases hb) (fun _=>rfl) rfl (Nat.le_refl _) (Nat.zero_le _) (by simp) (by simp) (fun b o e=>by cases e))⟩
 ·simp only [if_true] at hmm;subst hmm
  have hall:∀i,i<len ->∃y:α,Q y∧(emb y).cells.length=k∧∃cs':List Value,Tk w (emb y) cs'∧∀j,j<k ->w.cell? ((a.add (i*k)).add j)=cs'[j]?:=by
   intro i hil;obtain ⟨cs',hc,ht'⟩:=hi i (by omega)
   obtain ⟨y,hq,hyk,hr⟩:=hO _ _ _ ht' (fun p hp=>hlt p (by
    simp only [List.mem_append,List.mem_flatMap,List.mem_range]
    exact .inr ⟨i,by omega,hp⟩)) (fun n hn=>hwt n (by
    simp only [DataW.weights,ht,List.mem_cons,List.mem_append]
    exact .inr (.inl (MU (List.mem_map.2 ⟨i,List.mem_range.2 hil,rfl⟩) hn))))
   obtain ⟨_,hlen,hat⟩:=World.cells?_some hc;rw [hk] at hat;exact ⟨y,hq,hyk,cs',hr,hat⟩
  obtain ⟨l,hln,hlq⟩:=list_of len hall;refine ⟨l,⟨fun y hy=>?_,?_⟩,rfl,Jv rfl (.sl k (fun b hb=>by cases hb) (fun e=>by cases e) (by rw [List.length_map];exact hln) hl hm (fun x hx=>?_) (fun hne=>?_) (fun b o e i x hx=>?_))⟩
  ·obtain ⟨i,hi',rfl⟩:=List.getElem_of_mem hy;exact (hlq i _ (List.getElem?_eq_getElem hi')).1
  ·have h1:=hwt ((len+(m - len))*P.bytesOf e) (by simp [DataW.weights,ht]);rw [hb] at h1;have h2:=Nat.mul_le_mul_right b (show l.length≤len+(m - len) by omega);have h3:reachBytes=140737488351232:=rfl;omega
  ·obtain ⟨y,hy,rfl⟩:=List.mem_map.1 hx;obtain ⟨i,hi',rfl⟩:=List.getElem_of_mem hy;exact (hlq i _ (List.getElem?_eq_getElem hi')).2.1
  ·have h0:0<l.length:=by
    cases l with
    | nil=>exact absurd rfl hne
    | cons _ _=>simp
   obtain ⟨_,h1,cs',h2,h3⟩:=hlq 0 _ (List.getElem?_eq_getElem h0);have h4:=h3 0 hk0;have hlen:cs'.length=k:=by rw [h2.1,h1]
   rw [List.getElem?_eq_getElem (by omega)] at h4;have:a.spot=none:=by simpa [Addr.add] using World.cell?_spot h4
   exact ⟨a.block,a.off,by cases a;simp_all⟩
  ·rw [List.getElem?_map] at hx
   cases hy:l[i]? with
   | none=>rw [hy] at hx;cases hx
   | some y=>
    rw [hy] at hx;injection hx with hx
    subst hx;obtain ⟨hq,h1,cs',h2,h3⟩:=hlq i y hy;injection e with e
    subst e;have hlen:cs'.length=k:=by rw [h2.1,h1]
    have hil:i<len:=by rw [←hln];exact (List.getElem?_eq_some_iff.1 hy).1
    have hin:∀j,j<k ->w.cell? ⟨b,o+i*k+j,none⟩=cs'[j]?:=fun j hj=>by
     have:=h3 j hj
     rwa [Go.WideShapes.add_plain,Go.WideShapes.add_plain] at this
    refine .ptr (fun j=>cs'.getD j undef) ?_ (fun h=>h) h2.2.1 (fun j c hc=>?_) (fun j c hc=>?_)
    ·have hmem:MemPlace.cell b (o+i*k)∈MemPlace.row ⟨b,o,none⟩ (m*P.cellsOf e):=MemPlace.mem_row.2 ⟨i*k,by
      rw [hk];have:(i+1)*k≤m*k:=Nat.mul_le_mul_right _ (by omega)
      rw [Nat.add_mul] at this;omega,rfl⟩
     exact hlt _ (List.mem_append_left _ hmem)
    ·have hj:j<k:=by rw [←h1];exact (List.getElem?_eq_some_iff.1 hc).1
     rw [hin j hj,List.getD_eq_getElem?_getD,List.getElem?_eq_getElem (by omega)];rfl
    ·have hj:j<k:=by rw [←h1];exact (List.getElem?_eq_some_iff.1 hc).1
     rw [List.getD_eq_getElem?_getD,List.getElem?_eq_getElem (by omega)];exact h2.2.2 j c _ hc (List.getElem?_eq_getElem (by omega))
def Q0 {α:Type} (enc:TypeId×Value ->H) (P:Program) (w:World) (off total:Nat) (fs:List Field) (emb:α ->List D) (Q:α ->Prop):Prop:=
 ∀n (cs:List Value),cs.length=total ->(∀(i:Nat) f,fs[i]?=some f ->∃x,DataW.trod enc P w 0 (fun _=>true) true n f.type ((cs.drop f.offset).take (P.cellsOf f.type))=some x∧(∀p∈x.2,p.block<w.heap.size)∧∀n∈x.1.weights P f.type,n≤reachBytes)→
  ∃a,Q a∧off+(emb a).length=total∧(∀c∈emb a,c.one=true)∧∀(j:Nat) c u,(emb a)[j]?=some c ->cs[off+j]?=some u ->AX w noB c u
theorem JB {total:Nat}:Q0 enc P w total total [] (fun _:Unit=> []) (fun _=>True):=fun n cs _ _=>⟨(),trivial,rfl,by simp,by simp⟩
theorem Bt {α β:Type} {off k total:Nat} {f:Field} {fs:List Field} {emb:α ->D} {embs:β ->List D} {Q:α ->Prop} {Qs:β ->Prop} (ho:f.offset=off) (hk:P.cellsOf f.type=k) (h1:CT enc P w f.type k emb Q) (h2:Q0 enc P w (off+k) total fs embs Qs):
  Q0 enc P w off total (f::fs) (fun a:α×β=>(emb a.1).cells++embs a.2) (fun a=>Q a.1∧Qs a.2):=fun n cs hcs hf=>by
 obtain ⟨x,hx,hp,hwt⟩:=hf 0 f rfl;obtain ⟨a,q1,q2,q3⟩:=h1 _ _ _ hx hp hwt;obtain ⟨b,r1,r2,r3,r4⟩:=h2 n cs hcs (fun i g hg=>hf (i+1) g (by simpa using hg));rw [ho,hk] at q3;refine ⟨(a,b),⟨q1,r1⟩,by simp only [List.length_append,q2];omega,fun c hc=>?_,fun j c u hc hu=>?_⟩
 ·rcases List.mem_append.1 hc with hc | hc
  ·exact q3.2.1 c hc
  ·exact r3 c hc
 ·rcases Nat.lt_or_ge j k with hj | hj
  ·rw [List.getElem?_append_left (by rw [q2];exact hj)] at hc;exact q3.2.2 j c u hc (by rw [List.getElem?_take,if_pos hj,List.getElem?_drop];exact hu)
  ·rw [List.getElem?_append_right (by rw [q2];exact hj),q2] at hc;exact r4 (j - k) c u hc (by rw [show off+k+(j - k)=off+j by omega];exact hu)
theorem JA {α:Type} {t:TypeId} {fs:Array Field} {k:Nat} {embs:α ->List D} {Q:α ->Prop} (ht:P.underlying t=some (.struct fs)) (hk:P.cellsOf t=k) (h:Q0 enc P w 0 k fs.toList embs Q):CT enc P w t k (fun a=> .agg (embs a)) Q:=fun fuel cs x hx hlt hwt=>by
 obtain ⟨xs,n,_,rfl,hl,hlen,hf⟩:=DataW.trod_struct ht hx
 obtain ⟨a,q1,q2,q3,q4⟩:=h n cs (by rw [hl,hk]) (fun i f hi=>by
  have hi':fs[i]?=some f:=by simpa using hi
  have hlt':i<xs.length:=by rw [hlen];exact (Array.getElem?_eq_some_iff.1 hi').1
  refine ⟨xs[i],by rw [hf i f hi'];exact List.getElem?_eq_getElem hlt',fun p hp=>hlt p (List.mem_flatMap.2 ⟨_,List.getElem_mem hlt',hp⟩),fun n hn=>hwt n ?_⟩;simp only [DataW.weights,ht]
  refine DataW.weights_mem_each (j:=i) (t:=f.type) (d:=xs[i].1) (by rw [List.getElem?_map];simp [hi']) (by rw [List.getElem?_map,List.getElem?_eq_getElem hlt'];rfl) n hn)
 rw [Nat.zero_add] at q2;exact ⟨a,q1,q2,by show cs.length=_;rw [hl,hk];exact q2.symm,q3,fun j c u hc hu=>q4 j c u hc (by rw [Nat.zero_add];exact hu)⟩
theorem CT.as {α β:Type} {t:TypeId} {k:Nat} {emb:α ->D} {Q:α ->Prop} {emb':β ->D} {Q':β ->Prop} (h:CT enc P w t k emb Q) (f:α ->β) (he:∀a,emb a=emb' (f a)) (hq:∀a,Q a ->Q' (f a)):CT enc P w t k emb' Q':=fun fuel cs x hx hlt hwt=>by
 obtain ⟨a,h1,h2,h3⟩:=h fuel cs x hx hlt hwt;exact ⟨f a,hq a h1,by rw [←he];exact h2,by rw [←he];exact h3⟩
end
theorem Vo {P:Program} {f:FuncId} {args:List AV} (h:AU P f args (.raw (.bool true))) {w:World} {vs:List Value} (hl:vs.length=args.length) (hr:∀(i:Nat) a v,args[i]?=some a ->vs[i]?=some v ->A3 w noB (fun _ _=>undef) a v):
  Calls P f vs.toArray w fun e w'=>e= .returned (.bool true)∧Below w.heap.size w w':=by
 have hno:∀ρ b,¬Ax ρ [] b:=fun ρ b ⟨_,_,_,h,_⟩=>by cases h
 let ρ:Nat ->Nat ->Value:=fun _ _=>undef
 let F:Fr:=Fr.mk none w.heap.size w noB (Ax ρ []) (Cr ρ []) (fun b hb=>hb.elim) [] (fun _ _ _ h=>Dn h)
 have hO:F.O ρ []=noB:=funext fun b=>propext ⟨fun h=>h.elim id fun h=>(hno ρ b h).elim,fun h=>h.elim⟩
 have hheap:B2 F [] ρ w:=⟨(fun f i o ho=>by cases ho),(fun f i f' i' o o' b ho=>by cases ho),fun b hb=>(hno ρ b hb).elim,rfl,rfl,rfl,Nat.le_refl _,fun _ _ _=>rfl,fun f i b hb=>Zc5 hb,Nat.le_refl _⟩
 refine (h.2 F ρ vs Z Z ⟨rfl,rfl,rfl⟩ hheap hl (fun i a v ha hv=>by rw [hO];exact hr i a v ha hv)).mono fun e w' ⟨v,r,H',ρ',e1,⟨e2,e3⟩,hrep,hh'⟩=>?_;subst e1 e2 e3;refine ⟨?_,hh'.os,hh'.tape,hh'.output,hh'.size0,fun b hlt=>hh'.keep b hlt (hno ρ b)⟩
 cases hrep with
 | d hrep=>
  cases hrep with
  | raw _=>rfl
end Go.Proofs.YtnkkaeblokdifaaGreat
/- Openers under other words. No program in sight. -/
namespace Go.Proofs.YtnkkaeblokdifaaGreat
open Go.ChangeShapes Go.WideShapes Go.ChangeAt Go.RowKit
section
variable {H:Type} {enc:TypeId×Value ->H} {P:Program} {w:World}
theorem CT.asQ {α β:Type} {t:TypeId} {k:Nat} {emb:α ->D} {Q:α ->Prop} {emb':β ->D} {Q':β ->Prop} (h:CT enc P w t k emb Q) (f:α ->β) (he:∀a,Q a ->emb a=emb' (f a)) (hq:∀a,Q a ->Q' (f a)):CT enc P w t k emb' Q':=fun fuel cs x hx hlt hwt=>by
 obtain ⟨a,h1,h2,h3⟩:=h fuel cs x hx hlt hwt;exact ⟨f a,hq a h1,by rw [←he a h1];exact h2,by rw [←he a h1];exact h3⟩
theorem UU {t:TypeId} (ht:P.underlying t=some (.int .i64)):CT enc P w t 1 (fun n:Int=> .raw (.int .i64 n)) (fun n=> -9223372036854775808≤n∧n≤9223372036854775807):=
 (openInt ht).asQ id (fun _ _=>rfl) (fun _ h=>h)
theorem Xc {t:TypeId} (ht:P.underlying t=some .string):CT enc P w t 1 As (fun l=>l.length≤140737488351232):=
 (openStr ht).asQ (fun s=>s.data.toList) (fun a _=>rfl) (fun a h=>by simpa using h)
end
end Go.Proofs.YtnkkaeblokdifaaGreat
/- The data of layer 28, and how they lie in memory. -/
namespace Go.Proofs.YtnkkaeblokdifaaGreat
open Go.RowKit
set_option maxRecDepth 100000
abbrev AG (z:Int):D:= .raw (.int .i64 z)
structure PY where
 o:List UInt8
 k:Int
 a:List UInt8
structure A4 where
 k:Int
 acc:PY
 f:List UInt8
 t:List UInt8
structure Er where
 acc:PY
 d:Int
structure Lo where
 f:List UInt8
 t:List UInt8
 n:Int
structure AT where
 id:Int
 pr:Int
 sq:Int
 po:List Er
 pa:List Lo
 af:List Int
structure Roo where
 r:A4
 n:Int
structure Prb where
 ro:List Roo
 it:List AT
theorem PY.eq_iff {x y:PY}:x=y↔x.o=y.o∧x.k=y.k∧x.a=y.a:=by cases x;cases y;simp
instance:DecidableEq PY:=fun _ _=>decidable_of_iff _ PY.eq_iff.symm
theorem A4.eq_iff {x y:A4}:x=y↔x.k=y.k∧x.acc=y.acc∧x.f=y.f∧x.t=y.t:=by cases x;cases y;simp
instance:DecidableEq A4:=fun _ _=>decidable_of_iff _ A4.eq_iff.symm
abbrev accD (x:PY):D:= .agg [As x.o,AG x.k,As x.a]
abbrev D5 (x:A4):D:= .agg [AG x.k,As x.acc.o,AG x.acc.k,As x.acc.a,As x.f,As x.t]
abbrev Cf (x:Er):D:= .agg [As x.acc.o,AG x.acc.k,As x.acc.a,AG x.d]
abbrev Gl (x:Lo):D:= .agg [As x.f,As x.t,AG x.n]
abbrev Aw (x:AT):D:= .agg [AG x.id,AG x.pr,AG x.sq,.sl none (x.po.map Cf),.sl none (x.pa.map Gl),.sl none (x.af.map AG)]
abbrev DT (x:Roo):D:= .agg [AG x.r.k,As x.r.acc.o,AG x.r.acc.k,As x.r.acc.a,As x.r.f,As x.r.t,AG x.n]
abbrev CI (x:Prb):D:= .agg [.sl none (x.ro.map DT),.sl none (x.it.map Aw)]
def VW (x:A4):List Value:=[.int .i64 x.k,I4 x.acc.o,.int .i64 x.acc.k,I4 x.acc.a,I4 x.f,I4 x.t]
def SQ (x:PY):List Value:=[I4 x.o,.int .i64 x.k,I4 x.a]
abbrev rscT:List TypeDesc:=[.int .i64,.string,.int .i64,.string,.string,.string]
abbrev accT:List TypeDesc:=[.string,.int .i64,.string]
theorem JO (a b:Int):N7 (.int .i64 a) (.int .i64 b)=decide (a=b):=by
 simp only [N7];exact Bool.beq_eq_decide_eq a b
theorem JN (a b:List UInt8):N7 (I4 a) (I4 b)=decide (a=b):=by
 simp only [N7,I4,←beq_toListBytes,PK]
theorem rsc_eqC (a b:A4):B6 (VW a) (VW b)=decide (a=b):=by
 simp only [VW,B6,JO,JN,A4.eq_iff,PY.eq_iff,Bool.and_true,Bool.decide_and,Bool.and_assoc]
theorem Ur (a b:PY):B6 (SQ a) (SQ b)=decide (a=b):=by
 simp only [SQ,B6,JO,JN,PY.eq_iff,Bool.and_true,Bool.decide_and]
theorem S1 {d:TypeDesc} {ds:List TypeDesc} {u:Value} {us:List Value} (h:MapKept.IsKey d u) (hr:BU ds us):BU (d::ds) (u::us):=
 ⟨by simp [hr.1],fun i d' u' hd hu=>by
  cases i with
  | zero=>simp at hd hu;subst hd hu;exact h
  | succ i=>exact hr.2 i d' u' (by simpa using hd) (by simpa using hu)⟩
theorem Ku:BU [] []:=⟨rfl,by simp⟩
theorem VV (a:A4):BU rscT (VW a):=S1 rfl (S1 trivial (S1 rfl (S1 trivial (S1 trivial (S1 trivial Ku)))))
theorem I2 (a:PY):BU accT (SQ a):=S1 trivial (S1 rfl (S1 trivial Ku))
theorem rsc_val (a:A4):(D5 a).val?=some (.agg (VW a).toArray):=rfl
theorem Ch:Bs Tryz.prog 53 D5 (fun a=> .agg (VW a).toArray):=Bs.flat (ds:=rscT) (by kernel_rfl) (by kernel_rfl) rsc_val VV rsc_eqC
theorem PI {fs:List (Nat×Option (List AM))} {f:Nat} {c1 c2:List AM} (h:B1 fs f=some (some c2)):∀g c,B1 fs g=some c ->C2 f c1 c2 g c:=fun g c hg e=>by
 subst e;rw [h] at hg;injection hg with hg;exact .inr hg.symm
theorem XI {p q:Prop} [Decidable p] [Decidable q] (h:p↔q):AV.d (.raw (.bool (decide p)))= .d (.raw (.bool (decide q))):=by rw [decide_eq_decide.2 h]
theorem retT {q:Prop} [Decidable q] (h:q):AV.d (.raw (.bool true))= .d (.raw (.bool (decide q))):=by rw [decide_eq_true h]
theorem Pd {q:Prop} [Decidable q] (h:¬q):AV.d (.raw (.bool false))= .d (.raw (.bool (decide q))):=by rw [decide_eq_false h]
theorem Al {a b:Int} (h:a=b):AV.d (.raw (.int .i64 a))= .d (.raw (.int .i64 b)):=by rw [h]
theorem A6 (n:Nat) (h:n≤9223372036854775807):IntKind.i64.wrap (n:Int)=(n:Int):=IntWalk.i64_in _ (by omega)
theorem HT (n lo hi:Int):AU Tryz.prog 65 [.d (AG n),.d (AG lo),.d (AG hi)] (.raw (.bool (decide (lo≤n∧n≤hi)))):=by
 refine BY Tryz.func65 Z Z Tryz.ntmps65 Z Z Z fun F hF=>(AF ?_);refine AJ (AD Z Z (AH (AF (AJ (AC Z Z (AC Z Z (J (Ip Z Z Z) (AC Z Z ?_))))))))
 first | refine K9 10 rfl (fun h10=>?_) (fun h10=>?_) | refine J4 10 rfl (fun h10=>?_) (fun h10=>?_)
 ·refine Ah Z Z Z ?_;refine AC Z Z (Ah Z Z Z (AC Z Z (Ah Z Z Z (J (Se Z Z Z) (J (EB Z Z Z Z) (AD Z Z (AH (Af ?_))))))));exact ⟨_,[],[],Ae rfl,rfl,rfl,by first | exact XI (by omega) | exact Pd (by omega),rfl⟩
 ·refine Aj Z Z Z Z (Aj Z Z Z Z (Aj Z Z Z Z (J (Ei Z Z Z Z) (AD Z Z (AH (Af ?_))))));exact ⟨_,[],[],Ae rfl,rfl,rfl,by first | exact XI (by omega) | exact Pd (by omega),rfl⟩
theorem FC (n lo hi:Int):AU Tryz.prog 41 [.d (AG n),.d (AG lo),.d (AG hi)] (.raw (.bool (decide (lo≤n∧n≤hi)))):=by
 refine BY Tryz.func41 Z Z Tryz.ntmps41 Z Z Z fun F hF=>(AF ?_);refine AJ (AD Z Z (AH (AF (AJ (AC Z Z (AC Z Z (J (Ip Z Z Z) (AC Z Z ?_))))))))
 first | refine K9 10 rfl (fun h10=>?_) (fun h10=>?_) | refine J4 10 rfl (fun h10=>?_) (fun h10=>?_)
 ·refine Ah Z Z Z ?_;refine AC Z Z (Ah Z Z Z (AC Z Z (Ah Z Z Z (J (Se Z Z Z) (J (EB Z Z Z Z) (AD Z Z (AH (Af ?_))))))));exact ⟨_,[],[],Ae rfl,rfl,rfl,by first | exact XI (by omega) | exact Pd (by omega),rfl⟩
 ·refine Aj Z Z Z Z (Aj Z Z Z Z (Aj Z Z Z Z (J (Ei Z Z Z Z) (AD Z Z (AH (Af ?_))))));exact ⟨_,[],[],Ae rfl,rfl,rfl,by first | exact XI (by omega) | exact Pd (by omega),rfl⟩
theorem Xv (n:Int):AU Tryz.prog 135 [.d (AG n)] (.raw (.bool false)):=by
 refine BY Tryz.func135 Z Z Tryz.ntmps135 Z Z Z fun F hF=>(AF (AJ (AD Z Z (AH (AF (AJ (AC Z Z (AC Z Z ?_))))))))
 first | refine J (E9 Z Z Z) ?_ | refine J (Ed Z Z Z) ?_ | refine J (EU Z Z Z) ?_ | refine J (Ea Tryz.underlying3 Z Z Z) ?_ | refine J (Ec Tryz.underlying3 Z Z Z) ?_ | refine J (st_neqN Tryz.underlying3 Z Z) ?_ | refine J (Eb Tryz.underlying3 Z Z Z) ?_ | refine J (st_neqFN Tryz.underlying3 Z Z) ?_
 refine AD Z Z (AH (Af ?_));exact ⟨_,[],[],Ae rfl,rfl,rfl,by simp,rfl⟩
theorem Xw (l:List UInt8):AU Tryz.prog 136 [.d (As l)] (.raw (.bool false)):=by
 refine BY Tryz.func136 Z Z Tryz.ntmps136 Z Z Z fun F hF=>(AF (AJ (AD Z Z (AH (AF (AJ (AC Z Z (AC Z Z ?_))))))))
 first | refine J (E9 Z Z Z) ?_ | refine J (Ed Z Z Z) ?_ | refine J (EU Z Z Z) ?_ | refine J (Ea Tryz.underlying9 Z Z Z) ?_ | refine J (Ec Tryz.underlying9 Z Z Z) ?_ | refine J (st_neqN Tryz.underlying9 Z Z) ?_ | refine J (Eb Tryz.underlying9 Z Z Z) ?_ | refine J (st_neqFN Tryz.underlying9 Z Z) ?_
 refine AD Z Z (AH (Af ?_));exact ⟨_,[],[],Ae rfl,rfl,rfl,by simp,rfl⟩
def Dy (a b:Int):Int:=if a<b then -1 else if b<a then 1 else 0
def Oj (a b:List UInt8):Bool:=Op.bytesLess a b
def Ep (a b:List UInt8):Int:=if Oj a b=true then -1 else if Oj b a=true then 1 else 0
theorem Fa (a b:List UInt8):Op.bytesLess (⟨a.toArray⟩:ByteArray).toList (⟨b.toArray⟩:ByteArray).toList=Oj a b:=by rw [Lib.toList_data,Lib.toList_data];rfl
theorem JT (a b:Int):AU Tryz.prog 74 [.d (AG a),.d (AG b)] (AG (Dy a b)):=by
 refine BY Tryz.func74 Z Z Tryz.ntmps74 Z Z Z fun F hF=>(AF (AJ (AD Z Z (AH (AF (AJ (AC Z Z (J (BF (Xv a) Z Z) ?_))))))));refine AD Z Z (AH (AF (AJ (AC Z Z (J (BF (Xv b) Z Z) (AD Z Z (AH (AF ?_))))))));refine AF (AJ (AC Z Z (AH (Ey rfl (rfl) (Am (AF (AF (AJ ?_))))))));refine AC Z Z (AH (Ey rfl (rfl) (Am (AF (AF (AJ (AC Z Z (AC Z Z ?_))))))))
 first | refine J (C7 Z Z Z) ?_ | refine J (Ca Z Z Z) ?_
 refine AH ?_
 first | refine BJ rfl (fun h16=>?_) (fun h16=>?_) | refine BB rfl (fun h16=>?_) (fun h16=>?_)
 ·refine AF (AJ (AD Z Z (AH (Af ?_))));exact ⟨_,[],[],Ae rfl,rfl,rfl,by first | exact Al (by unfold Dy;rw [if_pos (by assumption)]) | exact Al (by unfold Dy;rw [if_neg (by assumption),if_pos (by omega)]) | exact Al (by unfold Dy;rw [if_neg (by assumption),if_neg (by omega)]),rfl⟩
 ·refine Am (AF (AF (AJ (AC Z Z (AC Z Z ?_)))))
  first | refine J (Dj Z Z Z) ?_ | refine J (Co Z Z Z) ?_
  refine AH ?_
  first | refine BJ rfl (fun h19=>?_) (fun h19=>?_) | refine BB rfl (fun h19=>?_) (fun h19=>?_)
  ·refine AF (AJ (AD Z Z (AH (Af ?_))));exact ⟨_,[],[],Ae rfl,rfl,rfl,by first | exact Al (by unfold Dy;rw [if_pos (by assumption)]) | exact Al (by unfold Dy;rw [if_neg (by assumption),if_pos (by omega)]) | exact Al (by unfold Dy;rw [if_neg (by assumption),if_neg (by omega)]),rfl⟩
  ·refine Am (AF (AJ (AD Z Z (AH (Af ?_)))));exact ⟨_,[],[],Ae rfl,rfl,rfl,by first | exact Al (by unfold Dy;rw [if_pos (by assumption)]) | exact Al (by unfold Dy;rw [if_neg (by assumption),if_pos (by omega)]) | exact Al (by unfold Dy;rw [if_neg (by assumption),if_neg (by omega)]),rfl⟩
theorem JS (a b:List UInt8):AU Tryz.prog 75 [.d (As a),.d (As b)] (AG (Ep a b)):=by
 refine BY Tryz.func75 Z Z Tryz.ntmps75 Z Z Z fun F hF=>(AF (AJ (AD Z Z (AH (AF (AJ (AC Z Z (J (BF (Xw a) Z Z) ?_))))))));refine AD Z Z (AH (AF (AJ (AC Z Z (J (BF (Xw b) Z Z) (AD Z Z (AH (AF ?_))))))));refine AF (AJ (AC Z Z (AH (Ey rfl (rfl) (Am (AF (AF (AJ ?_))))))));refine AC Z Z (AH (Ey rfl (rfl) (Am (AF (AF (AJ (AC Z Z (AC Z Z ?_))))))))
 first | refine J (C7 Z Z Z) ?_ | refine J (Ca Z Z Z) ?_
 refine AH ?_
 first | refine BJ rfl (fun h16=>?_) (fun h16=>?_) | refine BB rfl (fun h16=>?_) (fun h16=>?_)
 ·rw [Fa] at h16;refine AF (AJ (AD Z Z (AH (Af ?_))));exact ⟨_,[],[],Ae rfl,rfl,rfl,by first | exact Al (by unfold Ep;rw [if_pos h16]) | exact Al (by unfold Ep;rw [if_neg (by rw [h16];decide),if_pos h19]) | exact Al (by unfold Ep;rw [if_neg (by rw [h16];decide),if_neg (by rw [h19];decide)]),rfl⟩
 ·rw [Fa] at h16;refine Am (AF (AF (AJ (AC Z Z (AC Z Z ?_)))))
  first | refine J (Dj Z Z Z) ?_ | refine J (Co Z Z Z) ?_
  refine AH ?_
  first | refine BJ rfl (fun h19=>?_) (fun h19=>?_) | refine BB rfl (fun h19=>?_) (fun h19=>?_)
  ·rw [Fa] at h19;refine AF (AJ (AD Z Z (AH (Af ?_))));exact ⟨_,[],[],Ae rfl,rfl,rfl,by first | exact Al (by unfold Ep;rw [if_pos h16]) | exact Al (by unfold Ep;rw [if_neg (by rw [h16];decide),if_pos h19]) | exact Al (by unfold Ep;rw [if_neg (by rw [h16];decide),if_neg (by rw [h19];decide)]),rfl⟩
  ·rw [Fa] at h19;refine Am (AF (AJ (AD Z Z (AH (Af ?_)))));exact ⟨_,[],[],Ae rfl,rfl,rfl,by first | exact Al (by unfold Ep;rw [if_pos h16]) | exact Al (by unfold Ep;rw [if_neg (by rw [h16];decide),if_pos h19]) | exact Al (by unfold Ep;rw [if_neg (by rw [h16];decide),if_neg (by rw [h19];decide)]),rfl⟩
abbrev Mx:Int:=1000000000000000
def Bk:List Int ->Int
 | []=>0
 | e::r=>if e=0 then Bk r else e
theorem Vz {α:Type} {l:List α} {f:α ->Int} {k:Nat} (hk:k<l.length):Bk ((l.drop k).map f)=if f l[k]=0 then Bk ((l.drop (k+1)).map f) else f l[k]:=by
 rw [List.drop_eq_getElem_cons hk];rfl
theorem GT {α:Type} {l:List α} {f:α ->Int} {k:Nat} (hk:¬k<l.length):Bk ((l.drop k).map f)=0:=by
 rw [List.drop_of_length_le (by omega)];rfl
theorem Dt {α:Type} {l:List α} {f:α ->Int} {k:Nat} {E:Int} (hk:k<l.length) (h:E=Bk ((l.drop k).map f)):(f l[k]=0 ->E=Bk ((l.drop (k+1)).map f))∧∀e,f l[k]=e ->e≠0 ->e=E:=by
 rw [Vz hk] at h;exact ⟨fun h0=>by rw [h,if_pos h0],fun e h1 h2=>by rw [h,if_neg (by rw [h1];exact h2),h1]⟩
def RE (p:Er):Int:=if p.acc.o=[]∨p.acc.a=[] then 6 else if ¬(0≤p.acc.k∧p.acc.k≤4) then 11 else if ¬(-Mx≤p.d∧p.d≤Mx) then 12 else 0
def Q7 (p:Lo):Int:=if p.f=[]∨p.t=[] then 6 else if p.f=p.t then 7 else if ¬(0≤p.n∧p.n≤Mx) then 2 else 0
def SU (id:Int) (l:List Int) (k:Nat):Int:=if ¬(0≤l.getD k 0∧l.getD k 0≤1000000000) then 2 else if l.getD k 0=id∨l.getD k 0∈l.take k then 7 else 0
def Mm (i:AT):Int:=Bk (i.po.map RE)
def TF (i:AT):Int:=Bk (i.pa.map Q7)
def SN (i:AT):Int:=Bk ((List.range i.af.length).map (SU i.id i.af))
def CS (l:List Er) (a:List UInt8):Int:=(l.map fun p=>if p.acc.a=a then p.d else 0).sum
def SK (i:AT):Int:=if ∃p∈i.po,CS i.po p.acc.a≠0 then 14 else 0
theorem KF {α:Type} {l:List α} {x:α} {k:Nat} (hk:k<l.length) (h:x∉l.take k) (hne:x≠l[k]):x∉l.take (k+1):=by
 rw [List.take_succ_eq_append_getElem hk,List.mem_append]
 simp [h,hne]
theorem R0 {α:Type} {l:List α} {x:α} {k:Nat} (hk:¬k<l.length) (h:x∉l.take k):x∉l:=by
 rwa [List.take_of_length_le (by omega)] at h
def YP (x:Int) (l:List Int):Int:=if x∈l then (l.idxOf x:Int) else -1
theorem Y1 {l:List Int} {x:Int} {k:Nat} (hk:k<l.length) (h:x∉l.take k) (he:x=l[k]):YP x l=(k:Int):=by
 unfold YP;rw [if_pos (by rw [he];exact List.getElem_mem hk)];have h1:l=l.take k++l[k]::l.drop (k+1):=by rw [←List.drop_eq_getElem_cons hk,List.take_append_drop]
 rw [h1,List.idxOf_append,if_neg h,he,List.idxOf_cons_self]
 simp;omega
theorem U8 (l:List Int) (x:Int) (hn:l.length≤140737488355328):AU Tryz.prog 91 [.d (.sl none (l.map AG)),.d (AG x)] (AG (YP x l)):=by
 refine BY Tryz.func91 Z Z Tryz.ntmps91 Z Z Z fun F hF=>(AF (AJ (AD Z Z (AH (AF (AF (AJ (AC Z Z ?_))))))))
 first | refine J (Cc rfl Tryz.underlying33 rfl) ?_ | refine J (C8 Z Z Tryz.underlying33 rfl) ?_ | refine J (Cd rfl Tryz.underlying33 rfl) ?_ | refine J (Cb rfl Tryz.underlying33 rfl) ?_ | refine J (CW rfl Tryz.underlying33 rfl) ?_ | refine J (C9 rfl Tryz.underlying33 rfl) ?_
 refine AC Z Z (AH (Au (Dz (α:=Nat) (fun k=>⟨19,[(0,.d (.sl none (l.map AG))),(1,.d (AG x)),(7,(.d (AG (l.length:Int)))),(8,(.d (AG (k:Int))))],[]⟩) (fun k=>k≤l.length∧x∉l.take k) (fun k=>l.length - k) (0) (⟨Nat.zero_le _,by simp⟩) (Ti ⟨rfl,rfl,rfl,rfl,trivial⟩) ?_)));rintro k ⟨hk0,hk⟩;refine AF (AJ ?_)
 first | refine J (C7 Z Z Z) ?_ | refine J (Ca Z Z Z) ?_
 refine AH (AF ?_)
 first | refine BJ rfl (fun h9=>?_) (fun h9=>?_) | refine BB rfl (fun h9=>?_) (fun h9=>?_)
 ·have hk1:k<l.length:=DZ h9;refine Am (AF (Au (AF ?_)));refine AJ (AC Z Z (AD Z Z (AH (AF (AJ (AC Z Z (AC Z Z (AC Z Z ?_))))))))
  first | refine J (CY (k) Z Z (rfl) (A2 hk1) Tryz.underlying33 rfl Dh rfl) ?_ | refine J (CZ (k) Z Z (rfl) (A2 hk1) rfl Tryz.underlying33 Dh rfl) ?_
  first | refine J (A0 Z Z A9 rfl) ?_ | refine J (AY Z Z Z A9 rfl) ?_ | refine J (AZ Z Z (rfl) rfl A9 rfl) ?_
  first | refine J (EP Z Z Z) ?_ | refine J (EW Z Z Z) ?_ | refine J (EA Z Z Z) ?_ | refine J (EQ Tryz.underlying3 Z Z Z) ?_ | refine J (ET Tryz.underlying3 Z Z Z) ?_ | refine J (ES Tryz.underlying3 Z Z) ?_ | refine J (ER Tryz.underlying3 Z Z Z) ?_ | refine J (EV Tryz.underlying3 Z Z) ?_
  refine AH ?_
  first | refine BJ rfl (fun h16=>?_) (fun h16=>?_) | refine BB rfl (fun h16=>?_) (fun h16=>?_)
  ·refine AF (AJ (AC Z Z (AD Z Z (AH (Af ?_)))));exact ⟨_,[],[],Ae rfl,rfl,rfl,Al (Y1 hk1 hk h16).symm,rfl⟩
  ·refine Am (AJ (J (Bi Z Z (A6 (k+1) (by omega)) rfl) (AC Z Z (AH ?_))));exact ⟨k+1,⟨by show k+1≤_;omega,KF hk1 hk h16⟩,by show l.length - (k+1)<l.length - k;omega,⟨rfl,rfl,fun _ _=>MT.get (l:=[(0,_),(1,_),(7,_),(8,_)]) ⟨rfl,rfl,rfl,rfl,trivial⟩⟩⟩
 ·refine C6 (AF (AJ (AD Z Z (AH (Af ?_)))));exact ⟨_,[],[],Ae rfl,rfl,rfl,Al (by unfold YP;rw [if_neg (R0 (by have h:=h9;omega) hk)]),rfl⟩
theorem JR (l:List Int) (x:Int) (hn:l.length≤140737488355328):AU Tryz.prog 42 [.d (.sl none (l.map AG)),.d (AG x)] (.raw (.bool (decide (x∈l)))):=by
 refine BY Tryz.func42 Z Z Tryz.ntmps42 Z Z Z fun F hF=>(AF (AJ (AD Z Z (AH ?_))));refine AF (AJ (AC Z Z (AC Z Z (J (BF (U8 l x hn) Z Z) (J (Ip Z Z Z) (AD Z Z (AH (Af ?_))))))));exact ⟨_,[],[],Ae rfl,rfl,rfl,XI (by unfold YP;split<;>rename_i h<;>simp [h]<;>omega),rfl⟩
theorem Sz (i:AT) (hn:i.po.length≤140737488355328):AU Tryz.prog 66 [.d (Aw i)] (AG (Mm i)):=by
 refine BY Tryz.func66 Z Z Tryz.ntmps66 Z Z Z fun F hF=>(AF (AJ (U (CJ 1 Z Z Z Z Z Z Z) (AD Z Z (AH (AF (AF (AJ ?_))))))))
 first | refine J (AO rfl C1 Z Z Z) ?_ | refine J (AQ rfl C1 Z Z Z) ?_ | refine J (AR rfl C1 Z Z Z) ?_ | refine J (AP rfl C1 Z Z Z) ?_ | refine J (AN rfl C1 Z Z Z) ?_
 first | refine J (A0 Z Z Ej rfl) ?_ | refine J (AY Z Z Z Ej rfl) ?_ | refine J (AZ Z Z (rfl) rfl Ej rfl) ?_
 first | refine J (Cc rfl Tryz.underlying46 rfl) ?_ | refine J (C8 Z Z Tryz.underlying46 rfl) ?_ | refine J (Cd rfl Tryz.underlying46 rfl) ?_ | refine J (Cb rfl Tryz.underlying46 rfl) ?_ | refine J (CW rfl Tryz.underlying46 rfl) ?_ | refine J (C9 rfl Tryz.underlying46 rfl) ?_
 refine AC Z Z (AH (Au (De (α:=Nat) (fun k=>⟨35,[(1,(.ptr 1 0 0)),(6,(.d (.sl none (i.po.map Cf)))),(7,(.d (AG (i.po.length:Int)))),(8,(.d (AG (k:Int))))],[(1,[.blk 49 [.d (AG i.id),.d (AG i.pr),.d (AG i.sq),.d (.sl none (i.po.map Cf)),.d (.sl none (i.pa.map Gl)),.d (.sl none (i.af.map AG))]])]⟩) (fun k=>k≤i.po.length∧Mm i=Bk ((i.po.drop k).map RE)) (fun k=>i.po.length - k) (0) (⟨Nat.zero_le _,rfl⟩) (BP hF [1] Z Z ⟨rfl,rfl,rfl,rfl,trivial⟩) ?_)));rintro k ⟨hk0,hk⟩;refine AF (AJ ?_)
 first | refine J (C7 Z Z Z) ?_ | refine J (Ca Z Z Z) ?_
 refine AH (AF ?_)
 first | refine BJ rfl (fun h9=>?_) (fun h9=>?_) | refine BB rfl (fun h9=>?_) (fun h9=>?_)
 ·have hk1:k<i.po.length:=DZ h9;refine Am (AF (Au (AF (AJ ?_))));have hE:=Dt hk1 hk
  first | refine J (CY (k) Z Z (rfl) (A2 hk1) Tryz.underlying46 rfl Ji rfl) ?_ | refine J (CZ (k) Z Z (rfl) (A2 hk1) rfl Tryz.underlying46 Ji rfl) ?_
  first | refine J (An Z Z Jt rfl) ?_ | refine J (Ao Z Z Jt Z Z Z) ?_ | refine J (Ap Z Z (rfl) rfl Jt rfl) ?_
  refine U (Cm 2 Ja Z Z Z Z) (U (Bj Z Z Z Z Z Z Z Ji) (AH (Au (AF (AJ ?_)))))
  first | refine J (AO rfl J8 Z Z Z) ?_ | refine J (AQ rfl J8 Z Z Z) ?_ | refine J (AR rfl J8 Z Z Z) ?_ | refine J (AP rfl J8 Z Z Z) ?_ | refine J (AN rfl J8 Z Z Z) ?_
  first | refine J (AO rfl J1 Z Z Z) ?_ | refine J (AQ rfl J1 Z Z Z) ?_ | refine J (AR rfl J1 Z Z Z) ?_ | refine J (AP rfl J1 Z Z Z) ?_ | refine J (AN rfl J1 Z Z Z) ?_
  first | refine J (A0 Z Z Ay rfl) ?_ | refine J (AY Z Z Z Ay rfl) ?_ | refine J (AZ Z Z (rfl) rfl Ay rfl) ?_
  first | refine J (EP Z Z Z) ?_ | refine J (EW Z Z Z) ?_ | refine J (EA Z Z Z) ?_ | refine J (EQ Tryz.underlying9 Z Z Z) ?_ | refine J (ET Tryz.underlying9 Z Z Z) ?_ | refine J (ES Tryz.underlying9 Z Z) ?_ | refine J (ER Tryz.underlying9 Z Z Z) ?_ | refine J (EV Tryz.underlying9 Z Z) ?_
  refine AC Z Z ?_
  first | refine K9 17 rfl (fun h17=>?_) (fun h17=>?_) | refine J4 17 rfl (fun h17=>?_) (fun h17=>?_)
  ·refine Aj Z Z Z Z (Aj Z Z Z Z (Aj Z Z Z Z (Aj Z Z Z Z ?_)));refine J (EB Z Z Z Z) (AD Z Z (AH (Dg Z Z (AF (AJ (AD Z Z (AH (Af ?_))))))));exact ⟨_,[],[],Ae rfl,rfl,rfl,Al (hE.2 6 (by unfold RE;rw [if_pos (.inl h17)]) (by decide)),rfl⟩
  ·refine Ah Z Z Z ?_
   first | refine J (AO rfl J8 Z Z Z) ?_ | refine J (AQ rfl J8 Z Z Z) ?_ | refine J (AR rfl J8 Z Z Z) ?_ | refine J (AP rfl J8 Z Z Z) ?_ | refine J (AN rfl J8 Z Z Z) ?_
   refine Ah Z Z Z ?_
   first | refine J (AO rfl IE Z Z Z) ?_ | refine J (AQ rfl IE Z Z Z) ?_ | refine J (AR rfl IE Z Z Z) ?_ | refine J (AP rfl IE Z Z Z) ?_ | refine J (AN rfl IE Z Z Z) ?_
   refine Ah Z Z Z ?_
   first | refine J (A0 Z Z Ay rfl) ?_ | refine J (AY Z Z Z Ay rfl) ?_ | refine J (AZ Z Z (rfl) rfl Ay rfl) ?_
   refine Ah Z Z Z ?_
   first | refine J (EP Z Z Z) ?_ | refine J (EW Z Z Z) ?_ | refine J (EA Z Z Z) ?_ | refine J (EQ Tryz.underlying9 Z Z Z) ?_ | refine J (ET Tryz.underlying9 Z Z Z) ?_ | refine J (ES Tryz.underlying9 Z Z) ?_ | refine J (ER Tryz.underlying9 Z Z Z) ?_ | refine J (EV Tryz.underlying9 Z Z) ?_
   refine J (Ei Z Z Z Z) (AD Z Z (AH ?_))
   first | refine BJ rfl (fun h12=>?_) (fun h12=>?_) | refine BB rfl (fun h12=>?_) (fun h12=>?_)
   ·refine AF (AJ (AD Z Z (AH (Af ?_))));exact ⟨_,[],[],Ae rfl,rfl,rfl,Al (hE.2 6 (by unfold RE;rw [if_pos (.inr h12)]) (by decide)),rfl⟩
   ·refine AF (AJ ?_)
    first | refine J (AO rfl J8 Z Z Z) ?_ | refine J (AQ rfl J8 Z Z Z) ?_ | refine J (AR rfl J8 Z Z Z) ?_ | refine J (AP rfl J8 Z Z Z) ?_ | refine J (AN rfl J8 Z Z Z) ?_
    first | refine J (AO rfl Hz Z Z Z) ?_ | refine J (AQ rfl Hz Z Z Z) ?_ | refine J (AR rfl Hz Z Z Z) ?_ | refine J (AP rfl Hz Z Z Z) ?_ | refine J (AN rfl Hz Z Z Z) ?_
    first | refine J (A0 Z Z A9 rfl) ?_ | refine J (AY Z Z Z A9 rfl) ?_ | refine J (AZ Z Z (rfl) rfl A9 rfl) ?_
    refine J (BF (HT _ _ _) Z Z) ?_
    first | refine J (F2 Z Z) ?_ | refine J (FT Z Z) ?_
    refine AD Z Z (AH ?_)
    first | refine BJ rfl (fun h23=>?_) (fun h23=>?_) | refine BB rfl (fun h23=>?_) (fun h23=>?_)
    ·refine AF (AJ (AD Z Z (AH (Af ?_))));exact ⟨_,[],[],Ae rfl,rfl,rfl,Al (hE.2 11 (by unfold RE;rw [if_neg (by simp [h17,h12]),if_pos h23]) (by decide)),rfl⟩
    ·refine AF (AJ ?_)
     first | refine J (AO rfl PT Z Z Z) ?_ | refine J (AQ rfl PT Z Z Z) ?_ | refine J (AR rfl PT Z Z Z) ?_ | refine J (AP rfl PT Z Z Z) ?_ | refine J (AN rfl PT Z Z Z) ?_
     first | refine J (A0 Z Z Be rfl) ?_ | refine J (AY Z Z Z Be rfl) ?_ | refine J (AZ Z Z (rfl) rfl Be rfl) ?_
     refine J (BF (FC _ _ _) Z Z) ?_
     first | refine J (F2 Z Z) ?_ | refine J (FT Z Z) ?_
     refine AD Z Z (AH ?_)
     first | refine BJ rfl (fun h29=>?_) (fun h29=>?_) | refine BB rfl (fun h29=>?_) (fun h29=>?_)
     ·refine AF (AJ (AD Z Z (AH (Af ?_))));exact ⟨_,[],[],Ae rfl,rfl,rfl,Al (hE.2 12 (by unfold RE;rw [if_neg (by simp [h17,h12]),if_neg h23,if_pos h29]) (by decide)),rfl⟩
     ·refine Am (AJ (J (Bi Z Z (A6 (k+1) (by omega)) rfl) (AC Z Z (AH ?_))));exact ⟨k+1,⟨by show k+1≤_;omega,hE.1 (by unfold RE;rw [if_neg (by simp [h17,h12]),if_neg h23,if_neg h29])⟩,by show i.po.length - (k+1)<i.po.length - k;omega,BP hF [1] rfl (rfl) ⟨rfl,rfl,rfl,rfl,trivial⟩⟩
 ·refine C6 (AF (AJ (AD Z Z (AH (Af ?_)))));exact ⟨_,[],[],Ae rfl,rfl,rfl,Al (by rw [hk,GT (by have h:=h9;omega)]),rfl⟩
theorem TD (i:AT) (hn:i.pa.length≤140737488355328):AU Tryz.prog 67 [.d (Aw i)] (AG (TF i)):=by
 refine BY Tryz.func67 Z Z Tryz.ntmps67 Z Z Z fun F hF=>(AF (AJ (U (CJ 1 Z Z Z Z Z Z Z) (AD Z Z (AH (AF (AF (AJ ?_))))))))
 first | refine J (AO rfl DX Z Z Z) ?_ | refine J (AQ rfl DX Z Z Z) ?_ | refine J (AR rfl DX Z Z Z) ?_ | refine J (AP rfl DX Z Z Z) ?_ | refine J (AN rfl DX Z Z Z) ?_
 first | refine J (A0 Z Z Fm rfl) ?_ | refine J (AY Z Z Z Fm rfl) ?_ | refine J (AZ Z Z (rfl) rfl Fm rfl) ?_
 first | refine J (Cc rfl Tryz.underlying47 rfl) ?_ | refine J (C8 Z Z Tryz.underlying47 rfl) ?_ | refine J (Cd rfl Tryz.underlying47 rfl) ?_ | refine J (Cb rfl Tryz.underlying47 rfl) ?_ | refine J (CW rfl Tryz.underlying47 rfl) ?_ | refine J (C9 rfl Tryz.underlying47 rfl) ?_
 refine AC Z Z (AH (Au (De (α:=Nat) (fun k=>⟨33,[(1,(.ptr 1 0 0)),(6,(.d (.sl none (i.pa.map Gl)))),(7,(.d (AG (i.pa.length:Int)))),(8,(.d (AG (k:Int))))],[(1,[.blk 49 [.d (AG i.id),.d (AG i.pr),.d (AG i.sq),.d (.sl none (i.po.map Cf)),.d (.sl none (i.pa.map Gl)),.d (.sl none (i.af.map AG))]])]⟩) (fun k=>k≤i.pa.length∧TF i=Bk ((i.pa.drop k).map Q7)) (fun k=>i.pa.length - k) (0) (⟨Nat.zero_le _,rfl⟩) (BP hF [1] Z Z ⟨rfl,rfl,rfl,rfl,trivial⟩) ?_)));rintro k ⟨hk0,hk⟩;refine AF (AJ ?_)
 first | refine J (C7 Z Z Z) ?_ | refine J (Ca Z Z Z) ?_
 refine AH (AF ?_)
 first | refine BJ rfl (fun h9=>?_) (fun h9=>?_) | refine BB rfl (fun h9=>?_) (fun h9=>?_)
 ·have hk1:k<i.pa.length:=DZ h9;refine Am (AF (Au (AF (AJ ?_))));have hE:=Dt hk1 hk
  first | refine J (CY (k) Z Z (rfl) (A2 hk1) Tryz.underlying47 rfl OH rfl) ?_ | refine J (CZ (k) Z Z (rfl) (A2 hk1) rfl Tryz.underlying47 OH rfl) ?_
  first | refine J (An Z Z OV rfl) ?_ | refine J (Ao Z Z OV Z Z Z) ?_ | refine J (Ap Z Z (rfl) rfl OV rfl) ?_
  refine U (Cm 2 W6 Z Z Z Z) (U (Bj Z Z Z Z Z Z Z OH) (AH (Au (AF (AJ ?_)))))
  first | refine J (AO rfl Gc Z Z Z) ?_ | refine J (AQ rfl Gc Z Z Z) ?_ | refine J (AR rfl Gc Z Z Z) ?_ | refine J (AP rfl Gc Z Z Z) ?_ | refine J (AN rfl Gc Z Z Z) ?_
  first | refine J (A0 Z Z Ay rfl) ?_ | refine J (AY Z Z Z Ay rfl) ?_ | refine J (AZ Z Z (rfl) rfl Ay rfl) ?_
  first | refine J (EP Z Z Z) ?_ | refine J (EW Z Z Z) ?_ | refine J (EA Z Z Z) ?_ | refine J (EQ Tryz.underlying9 Z Z Z) ?_ | refine J (ET Tryz.underlying9 Z Z Z) ?_ | refine J (ES Tryz.underlying9 Z Z) ?_ | refine J (ER Tryz.underlying9 Z Z Z) ?_ | refine J (EV Tryz.underlying9 Z Z) ?_
  refine AC Z Z ?_
  first | refine K9 16 rfl (fun h16=>?_) (fun h16=>?_) | refine J4 16 rfl (fun h16=>?_) (fun h16=>?_)
  ·refine Aj Z Z Z Z (Aj Z Z Z Z (Aj Z Z Z Z ?_));refine J (EB Z Z Z Z) (AD Z Z (AH (Dg Z Z (AF (AJ (AD Z Z (AH (Af ?_))))))));exact ⟨_,[],[],Ae rfl,rfl,rfl,Al (hE.2 6 (by unfold Q7;rw [if_pos (.inl h16)]) (by decide)),rfl⟩
  ·refine Ah Z Z Z ?_
   first | refine J (AO rfl Gd Z Z Z) ?_ | refine J (AQ rfl Gd Z Z Z) ?_ | refine J (AR rfl Gd Z Z Z) ?_ | refine J (AP rfl Gd Z Z Z) ?_ | refine J (AN rfl Gd Z Z Z) ?_
   refine Ah Z Z Z ?_
   first | refine J (A0 Z Z Ay rfl) ?_ | refine J (AY Z Z Z Ay rfl) ?_ | refine J (AZ Z Z (rfl) rfl Ay rfl) ?_
   refine Ah Z Z Z ?_
   first | refine J (EP Z Z Z) ?_ | refine J (EW Z Z Z) ?_ | refine J (EA Z Z Z) ?_ | refine J (EQ Tryz.underlying9 Z Z Z) ?_ | refine J (ET Tryz.underlying9 Z Z Z) ?_ | refine J (ES Tryz.underlying9 Z Z) ?_ | refine J (ER Tryz.underlying9 Z Z Z) ?_ | refine J (EV Tryz.underlying9 Z Z) ?_
   refine J (Ei Z Z Z Z) (AD Z Z (AH ?_))
   first | refine BJ rfl (fun h12=>?_) (fun h12=>?_) | refine BB rfl (fun h12=>?_) (fun h12=>?_)
   ·refine AF (AJ (AD Z Z (AH (Af ?_))));exact ⟨_,[],[],Ae rfl,rfl,rfl,Al (hE.2 6 (by unfold Q7;rw [if_pos (.inr h12)]) (by decide)),rfl⟩
   ·refine AF (AJ ?_)
    first | refine J (AO rfl Gc Z Z Z) ?_ | refine J (AQ rfl Gc Z Z Z) ?_ | refine J (AR rfl Gc Z Z Z) ?_ | refine J (AP rfl Gc Z Z Z) ?_ | refine J (AN rfl Gc Z Z Z) ?_
    first | refine J (A0 Z Z Ay rfl) ?_ | refine J (AY Z Z Z Ay rfl) ?_ | refine J (AZ Z Z (rfl) rfl Ay rfl) ?_
    first | refine J (AO rfl Gd Z Z Z) ?_ | refine J (AQ rfl Gd Z Z Z) ?_ | refine J (AR rfl Gd Z Z Z) ?_ | refine J (AP rfl Gd Z Z Z) ?_ | refine J (AN rfl Gd Z Z Z) ?_
    first | refine J (A0 Z Z Ay rfl) ?_ | refine J (AY Z Z Z Ay rfl) ?_ | refine J (AZ Z Z (rfl) rfl Ay rfl) ?_
    first | refine J (EP Z Z Z) ?_ | refine J (EW Z Z Z) ?_ | refine J (EA Z Z Z) ?_ | refine J (EQ Tryz.underlying9 Z Z Z) ?_ | refine J (ET Tryz.underlying9 Z Z Z) ?_ | refine J (ES Tryz.underlying9 Z Z) ?_ | refine J (ER Tryz.underlying9 Z Z Z) ?_ | refine J (EV Tryz.underlying9 Z Z) ?_
    refine AD Z Z (AH ?_)
    first | refine BJ rfl (fun h21=>?_) (fun h21=>?_) | refine BB rfl (fun h21=>?_) (fun h21=>?_)
    ·refine AF (AJ (AD Z Z (AH (Af ?_))));exact ⟨_,[],[],Ae rfl,rfl,rfl,Al (hE.2 7 (by unfold Q7;rw [if_neg (by simp [h16,h12]),if_pos h21]) (by decide)),rfl⟩
    ·refine AF (AJ ?_)
     first | refine J (AO rfl FZ Z Z Z) ?_ | refine J (AQ rfl FZ Z Z Z) ?_ | refine J (AR rfl FZ Z Z Z) ?_ | refine J (AP rfl FZ Z Z Z) ?_ | refine J (AN rfl FZ Z Z Z) ?_
     first | refine J (A0 Z Z Be rfl) ?_ | refine J (AY Z Z Z Be rfl) ?_ | refine J (AZ Z Z (rfl) rfl Be rfl) ?_
     refine J (BF (FC _ _ _) Z Z) ?_
     first | refine J (F2 Z Z) ?_ | refine J (FT Z Z) ?_
     refine AD Z Z (AH ?_)
     first | refine BJ rfl (fun h27=>?_) (fun h27=>?_) | refine BB rfl (fun h27=>?_) (fun h27=>?_)
     ·refine AF (AJ (AD Z Z (AH (Af ?_))));exact ⟨_,[],[],Ae rfl,rfl,rfl,Al (hE.2 2 (by unfold Q7;rw [if_neg (by simp [h16,h12]),if_neg h21,if_pos h27]) (by decide)),rfl⟩
     ·refine Am (AJ (J (Bi Z Z (A6 (k+1) (by omega)) rfl) (AC Z Z (AH ?_))));exact ⟨k+1,⟨by show k+1≤_;omega,hE.1 (by unfold Q7;rw [if_neg (by simp [h16,h12]),if_neg h21,if_neg h27])⟩,by show i.pa.length - (k+1)<i.pa.length - k;omega,BP hF [1] rfl (rfl) ⟨rfl,rfl,rfl,rfl,trivial⟩⟩
 ·refine C6 (AF (AJ (AD Z Z (AH (Af ?_)))));exact ⟨_,[],[],Ae rfl,rfl,rfl,Al (by rw [hk,GT (by have h:=h9;omega)]),rfl⟩
theorem E1 {n k:Nat} {f:Nat ->Int} {E:Int} (hk:k<n) (h:E=Bk (((List.range n).drop k).map f)):(f k=0 ->E=Bk (((List.range n).drop (k+1)).map f))∧∀e,f k=e ->e≠0 ->e=E:=by
 have:=Dt (l:=List.range n) (k:=k) (by simpa using hk) h
 simpa using this
theorem after_p (i:AT) (hn:i.af.length≤140737488355328):AU Tryz.prog 68 [.d (Aw i)] (AG (SN i)):=by
 refine BY Tryz.func68 Z Z Tryz.ntmps68 Z Z Z fun F hF=>(AF (AJ (U (CJ 1 Z Z Z Z Z Z Z) (AD Z Z (AH (AF (AF (AJ ?_))))))))
 first | refine J (AO rfl Ct Z Z Z) ?_ | refine J (AQ rfl Ct Z Z Z) ?_ | refine J (AR rfl Ct Z Z Z) ?_ | refine J (AP rfl Ct Z Z Z) ?_ | refine J (AN rfl Ct Z Z Z) ?_
 first | refine J (A0 Z Z Aq rfl) ?_ | refine J (AY Z Z Z Aq rfl) ?_ | refine J (AZ Z Z (rfl) rfl Aq rfl) ?_
 first | refine J (Cc rfl Tryz.underlying33 rfl) ?_ | refine J (C8 Z Z Tryz.underlying33 rfl) ?_ | refine J (Cd rfl Tryz.underlying33 rfl) ?_ | refine J (Cb rfl Tryz.underlying33 rfl) ?_ | refine J (CW rfl Tryz.underlying33 rfl) ?_ | refine J (C9 rfl Tryz.underlying33 rfl) ?_
 refine AC Z Z (AH (Au (De (α:=Nat) (fun k=>⟨31,[(1,(.ptr 1 0 0)),(6,(.d (.sl none (i.af.map AG)))),(7,(.d (AG (i.af.length:Int)))),(8,(.d (AG (k:Int))))],[(1,[.blk 49 [.d (AG i.id),.d (AG i.pr),.d (AG i.sq),.d (.sl none (i.po.map Cf)),.d (.sl none (i.pa.map Gl)),.d (.sl none (i.af.map AG))]])]⟩) (fun k=>k≤i.af.length∧SN i=Bk (((List.range i.af.length).drop k).map (SU i.id i.af))) (fun k=>i.af.length - k) (0) (⟨Nat.zero_le _,rfl⟩) (BP hF [1] Z Z ⟨rfl,rfl,rfl,rfl,trivial⟩) ?_)));rintro k ⟨hk0,hk⟩;refine AF (AJ ?_)
 first | refine J (C7 Z Z Z) ?_ | refine J (Ca Z Z Z) ?_
 refine AH (AF ?_)
 first | refine BJ rfl (fun h9=>?_) (fun h9=>?_) | refine BB rfl (fun h9=>?_) (fun h9=>?_)
 ·have hk1:k<i.af.length:=DZ h9;refine Am (AF (Au (AF (AJ ?_))));have hE:=E1 hk1 hk;have hg:i.af.getD k 0=i.af[k]:=by simp [hk1]
  refine AC Z Z ?_
  first | refine J (CY (k) Z Z (rfl) (A2 hk1) Tryz.underlying33 rfl Dh rfl) ?_ | refine J (CZ (k) Z Z (rfl) (A2 hk1) rfl Tryz.underlying33 Dh rfl) ?_
  first | refine J (A0 Z Z A9 rfl) ?_ | refine J (AY Z Z Z A9 rfl) ?_ | refine J (AZ Z Z (rfl) rfl A9 rfl) ?_
  refine AD Z Z (AD Z Z (AH (Au (AF (AJ (AC Z Z (J (BF (HT _ _ _) Z Z) ?_)))))))
  first | refine J (F2 Z Z) ?_ | refine J (FT Z Z) ?_
  refine AD Z Z (AH ?_)
  first | refine BJ rfl (fun h13=>?_) (fun h13=>?_) | refine BB rfl (fun h13=>?_) (fun h13=>?_)
  ·refine AF (AJ (AD Z Z (AH (Af ?_))));exact ⟨_,[],[],Ae rfl,rfl,rfl,Al (hE.2 2 (by unfold SU;rw [hg,if_pos h13]) (by decide)),rfl⟩
  ·refine AF (AJ (AC Z Z ?_))
   first | refine J (AO rfl B4 Z Z Z) ?_ | refine J (AQ rfl B4 Z Z Z) ?_ | refine J (AR rfl B4 Z Z Z) ?_ | refine J (AP rfl B4 Z Z Z) ?_ | refine J (AN rfl B4 Z Z Z) ?_
   first | refine J (A0 Z Z A9 rfl) ?_ | refine J (AY Z Z Z A9 rfl) ?_ | refine J (AZ Z Z (rfl) rfl A9 rfl) ?_
   first | refine J (EP Z Z Z) ?_ | refine J (EW Z Z Z) ?_ | refine J (EA Z Z Z) ?_ | refine J (EQ Tryz.underlying3 Z Z Z) ?_ | refine J (ET Tryz.underlying3 Z Z Z) ?_ | refine J (ES Tryz.underlying3 Z Z) ?_ | refine J (ER Tryz.underlying3 Z Z Z) ?_ | refine J (EV Tryz.underlying3 Z Z) ?_
   refine AC Z Z ?_
   first | refine K9 22 rfl (fun h22=>?_) (fun h22=>?_) | refine J4 22 rfl (fun h22=>?_) (fun h22=>?_)
   ·refine Aj Z Z Z Z (Aj Z Z Z Z (Aj Z Z Z Z (Aj Z Z Z Z (Aj Z Z Z Z (Aj Z Z Z Z ?_)))));refine J (EB Z Z Z Z) (AD Z Z (AH (Dg Z Z (AF (AJ (AD Z Z (AH (Af ?_))))))));exact ⟨_,[],[],Ae rfl,rfl,rfl,Al (hE.2 7 (by unfold SU;rw [hg,if_neg h13,if_pos (.inl h22)]) (by decide)),rfl⟩
   ·refine Ah Z Z Z ?_
    first | refine J (AO rfl Ct Z Z Z) ?_ | refine J (AQ rfl Ct Z Z Z) ?_ | refine J (AR rfl Ct Z Z Z) ?_ | refine J (AP rfl Ct Z Z Z) ?_ | refine J (AN rfl Ct Z Z Z) ?_
    refine Ah Z Z Z ?_
    first | refine J (A0 Z Z Aq rfl) ?_ | refine J (AY Z Z Z Aq rfl) ?_ | refine J (AZ Z Z (rfl) rfl Aq rfl) ?_
    refine Ah Z Z Z (AC Z Z ?_);refine Ah Z Z Z (J (LW (i.af) (k) Z Z Z (rfl) (by omega) Tryz.underlying33 Dh (fun _=>rfl) rfl) (Ah Z Z Z (AC Z Z (Ah Z Z Z (J (BF (JR (i.af.take k) _ (by simp;omega)) Z Z) (J (Ei Z Z Z Z) (AD Z Z (AH ?_))))))))
    first | refine BJ rfl (fun h17=>?_) (fun h17=>?_) | refine BB rfl (fun h17=>?_) (fun h17=>?_)
    ·refine AF (AJ (AD Z Z (AH (Af ?_))));exact ⟨_,[],[],Ae rfl,rfl,rfl,Al (hE.2 7 (by unfold SU;rw [hg,if_neg h13,if_pos (.inr h17)]) (by decide)),rfl⟩
    ·refine Am (AJ (J (Bi Z Z (A6 (k+1) (by omega)) rfl) (AC Z Z (AH ?_))));exact ⟨k+1,⟨by show k+1≤_;omega,hE.1 (by unfold SU;rw [hg,if_neg h13,if_neg (by simp [h22];exact h17)])⟩,by show i.af.length - (k+1)<i.af.length - k;omega,BP hF [1] rfl (rfl) ⟨rfl,rfl,rfl,rfl,trivial⟩⟩
 ·refine C6 (AF (AJ (AD Z Z (AH (Af ?_)))));exact ⟨_,[],[],Ae rfl,rfl,rfl,Al (by rw [hk,GT (by simp;have h:=h9;omega)]),rfl⟩
theorem OC (l:List Er) (p:Er) (a:List UInt8):CS (l++ [p]) a=CS l a+if p.acc.a=a then p.d else 0:=by simp [CS]
theorem Nh (l:List Er) (a:List UInt8) (h:∀p∈l,-Mx≤p.d∧p.d≤Mx): -(l.length*1000000000000000)≤CS l a∧CS l a≤l.length*1000000000000000:=by
 induction l with
 | nil=>simp [CS]
 | cons p r ih=>
  have h1:=ih fun q hq=>h q (by simp [hq]);have h2:=h p (by simp);have e:CS (p::r) a=(if p.acc.a=a then p.d else 0)+CS r a:=by simp [CS]
  rw [e];simp only [Mx] at h2;have e2:((p::r).length:Int)=r.length+1:=by simp
  rw [e2]
  split<;>omega
def Tl (l:List Er) (M:List (List UInt8×Int)):Prop:=(M.map Prod.fst).Nodup∧(∀a,Ad M a 0=CS l a)∧(∀a,a∈M.map Prod.fst ->∃p∈l,p.acc.a=a)∧∀p∈l,p.acc.a∈M.map Prod.fst
theorem mem_put {α β:Type} [DecidableEq α] {M:List (α×β)} {a a':α} {b:β}:a'∈(BO M a b).map Prod.fst↔a'=a∨a'∈M.map Prod.fst:=by
 rw [Ky]
 split
 ·rename_i h
  exact ⟨.inr,fun h'=>h'.elim (fun e=>by rw [e];exact h) id⟩
 ·simp [or_comm]
theorem Tl.snoc {l:List Er} {M:List (List UInt8×Int)} (h:Tl l M) (p:Er):Tl (l++ [p]) (BO M p.acc.a (Ad M p.acc.a 0+p.d)):=by
 obtain ⟨h1,h2,h3,h4⟩:=h;refine ⟨NF h1,fun a=>?_,fun a ha=>?_,fun q hq=>?_⟩
 ·rw [KJ,OC]
  split
  ·rename_i e;rw [e,h2,if_pos rfl]
  ·rename_i e;rw [h2,if_neg (fun e'=>e e'.symm)];omega
 ·rcases mem_put.1 ha with e | e
  ·exact ⟨p,by simp,e.symm⟩
  ·obtain ⟨q,hq,e2⟩:=h3 a e;exact ⟨q,by simp [hq],e2⟩
 ·rcases List.mem_append.1 hq with hq | hq
  ·exact mem_put.2 (.inr (h4 q hq))
  ·simp at hq;subst hq;exact mem_put.2 (.inl rfl)
theorem bal_bad {i:AT} {M:List (List UInt8×Int)} (h:Tl i.po M) {j:Nat} {a:List UInt8} {v:Int} (hm:M[j]?=some (a,v)) (hv:v≠0):(14:Int)=SK i:=by
 have hmem:=List.mem_of_getElem? hm;have h1:=Zc9 (z:=0) h.1 hmem;rw [h.2.1] at h1;obtain ⟨p,hp,e⟩:=h.2.2.1 a (List.mem_map_of_mem (f:=Prod.fst) hmem);unfold SK;rw [if_pos ⟨p,hp,by rw [e,h1];exact hv⟩]
theorem bal_ok {i:AT} {M:List (List UInt8×Int)} (h:Tl i.po M) (h0:∀x∈M,x.2=0):(0:Int)=SK i:=by
 unfold SK;rw [if_neg];rintro ⟨p,hp,hne⟩;refine hne ?_;rw [←h.2.1];exact h0 _ (RZ (z:=0) (h.2.2.2 p hp))
theorem Tp {l:List Er} {k:Nat} (h:∀p∈l,-Mx≤p.d∧p.d≤Mx):∀p∈l.take k,-Mx≤p.d∧p.d≤Mx:=fun p hp=>h p (List.mem_of_mem_take hp)
theorem T9 (i:AT) (hn:i.po.length≤256) (hb:∀p∈i.po,-Mx≤p.d∧p.d≤Mx):AU Tryz.prog 69 [.d (Aw i)] (AG (SK i)):=by
 refine BY Tryz.func69 Z Z Tryz.ntmps69 Z Z Z fun F hF=>(AF (AJ (U (CJ 1 Z Z Z Z Z Z Z) (AD Z Z ?_))));refine AH (AF (AJ (U (S3 2 Z Z Z Z) (AD Z Z (AH (AF (AF (AJ ?_))))))))
 first | refine J (AO rfl C1 Z Z Z) ?_ | refine J (AQ rfl C1 Z Z Z) ?_ | refine J (AR rfl C1 Z Z Z) ?_ | refine J (AP rfl C1 Z Z Z) ?_ | refine J (AN rfl C1 Z Z Z) ?_
 first | refine J (A0 Z Z Ej rfl) ?_ | refine J (AY Z Z Z Ej rfl) ?_ | refine J (AZ Z Z (rfl) rfl Ej rfl) ?_
 first | refine J (Cc rfl Tryz.underlying46 rfl) ?_ | refine J (C8 Z Z Tryz.underlying46 rfl) ?_ | refine J (Cd rfl Tryz.underlying46 rfl) ?_ | refine J (Cb rfl Tryz.underlying46 rfl) ?_ | refine J (CW rfl Tryz.underlying46 rfl) ?_ | refine J (C9 rfl Tryz.underlying46 rfl) ?_
 refine AC Z Z (AH (Au (De (α:=Nat×List (List UInt8×Int)) (fun q=>⟨33,[(3,(.map 2 0)),(10,(.d (.sl none (i.po.map Cf)))),(11,(.d (AG (i.po.length:Int)))),(12,(.d (AG (q.1:Int))))],[(2,[B5 As AG q.2])]⟩) (fun q=>q.1≤i.po.length∧Tl (i.po.take q.1) q.2) (fun q=>i.po.length - q.1) ((0,[])) (⟨Nat.zero_le _,⟨by simp,by simp [CS,Ad],by simp,by simp⟩⟩) (BP hF [2] Z Z ⟨rfl,rfl,rfl,rfl,trivial⟩) ?_)));rintro ⟨k,M⟩ ⟨hk0,hM⟩;dsimp only at hk0 hM⊢;refine AF (AJ ?_)
 first | refine J (C7 Z Z Z) ?_ | refine J (Ca Z Z Z) ?_
 refine AH (AF ?_)
 first | refine BJ rfl (fun h13=>?_) (fun h13=>?_) | refine BB rfl (fun h13=>?_) (fun h13=>?_)
 ·have hk1:k<i.po.length:=DZ h13;refine Am (AF (Au (AF (AJ ?_))));have hbk:=hb _ (List.getElem_mem hk1);have hgb:=Nh (i.po.take k) i.po[k].acc.a (Tp hb);rw [←hM.2.1,List.length_take] at hgb;simp only [Mx] at hbk
  first | refine J (CY (k) Z Z (rfl) (A2 hk1) Tryz.underlying46 rfl Ji rfl) ?_ | refine J (CZ (k) Z Z (rfl) (A2 hk1) rfl Tryz.underlying46 Ji rfl) ?_
  first | refine J (An Z Z Jt rfl) ?_ | refine J (Ao Z Z Jt Z Z Z) ?_ | refine J (Ap Z Z (rfl) rfl Jt rfl) ?_
  refine U (Cm 3 Ja Z Z Z Z) (U (Bj Z Z Z Z Z Z Z Ji) (AH (AJ (AC Z Z ?_))))
  first | refine J (AO rfl J8 Z Z Z) ?_ | refine J (AQ rfl J8 Z Z Z) ?_ | refine J (AR rfl J8 Z Z Z) ?_ | refine J (AP rfl J8 Z Z Z) ?_ | refine J (AN rfl J8 Z Z Z) ?_
  first | refine J (AO rfl IE Z Z Z) ?_ | refine J (AQ rfl IE Z Z Z) ?_ | refine J (AR rfl IE Z Z Z) ?_ | refine J (AP rfl IE Z Z Z) ?_ | refine J (AN rfl IE Z Z Z) ?_
  first | refine J (A0 Z Z Ay rfl) ?_ | refine J (AY Z Z Z Ay rfl) ?_ | refine J (AZ Z Z (rfl) rfl Ay rfl) ?_
  refine J (IC (M) (i.po[k].acc.a) (0) _ Z Z Z U2 kt9 Nk Z Z) ?_
  first | refine J (AO rfl PT Z Z Z) ?_ | refine J (AQ rfl PT Z Z Z) ?_ | refine J (AR rfl PT Z Z Z) ?_ | refine J (AP rfl PT Z Z Z) ?_ | refine J (AN rfl PT Z Z Z) ?_
  first | refine J (A0 Z Z Be rfl) ?_ | refine J (AY Z Z Z Be rfl) ?_ | refine J (AZ Z Z (rfl) rfl Be rfl) ?_
  refine J (Bi Z Z (IntWalk.i64_in _ (by omega)) rfl) ?_
  first | refine U (DE (M) (i.po[k].acc.a) (Ad M i.po[k].acc.a 0+i.po[k].d) Z Z Z U2 kt9 Z Z) ?_ | refine U (WZ (M) (i.po[k].acc.a) (Ad M i.po[k].acc.a 0+i.po[k].d) Z Z Z U2 kt9 Z Z) ?_
  refine AH (AJ (J (Bi Z Z (A6 (k+1) (by omega)) rfl) (AC Z Z (AH ?_))));exact ⟨(k+1,_),⟨by show k+1≤_;omega,by have:=hM.snoc i.po[k];rwa [←List.take_succ_eq_append_getElem hk1] at this⟩,by show i.po.length - (k+1)<i.po.length - k;omega,BP hF [2] rfl (rfl) ⟨rfl,rfl,rfl,rfl,trivial⟩⟩
 ·refine C6 (AF (AF ?_));have hM':Tl i.po M:=by rw [List.take_of_length_le (by have h:=h13;omega)] at hM;exact hM
  refine AJ (AC Z Z (U (HZ 4 Z Z Z U2 Z Z Z Z) (AH (Au (De (α:=List Nat) (fun seen=>⟨33,[(26,(.ptr 4 0 0))],[(4,[.iter 2 0 M.length seen]),(2,[B5 As AG M])]⟩) (fun seen=>∀x∈M,x∈DW M (List.range M.length) seen∨x.2=0) (fun seen=>(DW M (List.range M.length) seen).length) ([]) (fun x hx=> .inl (by rw [GN (by simp)];exact hx)) (BP hF [4,2] Z Z ⟨rfl,trivial⟩) ?_)))));intro seen hI;refine AF (AJ (NA (M) Z Z Z Z (fun hl27=>?_) (fun j27 b27 k27 v27 hm27 hb27 hB27 hp27=>⟨_,rfl,?_⟩)))
  ·first | refine J (BT Z Z Z) ?_ | refine J (BS Z Z Z) ?_
   refine AH (AF (Ey Z Z (C6 (AF (AJ (AD Z Z (AH (Af ?_))))))));exact ⟨_,[],[],Ae rfl,rfl,rfl,Al (bal_ok hM' fun x hx=>(hI x hx).elim (fun h=>by rw [hl27] at h;cases h) id),rfl⟩
  ·first | refine J (BT Z Z Z) ?_ | refine J (BS Z Z Z) ?_
   refine AH (AF (Dg Z Z (Am (Au (AF (AJ (J (H1 (M) j27 b27 Z Z Z hm27 hb27 rfl) ?_)))))))
   first | refine J (BT Z Z Z) ?_ | refine J (BS Z Z Z) ?_
   refine AD Z Z (AH (AF (AJ (AC Z Z ?_))))
   first | refine J (E9 Z Z Z) ?_ | refine J (Ed Z Z Z) ?_ | refine J (EU Z Z Z) ?_ | refine J (Ea Tryz.underlying2 Z Z Z) ?_ | refine J (Ec Tryz.underlying2 Z Z Z) ?_ | refine J (st_neqN Tryz.underlying2 Z Z) ?_ | refine J (Eb Tryz.underlying2 Z Z Z) ?_ | refine J (st_neqFN Tryz.underlying2 Z Z) ?_
   refine AH ?_
   first | refine BJ rfl (fun h32=>?_) (fun h32=>?_) | refine BB rfl (fun h32=>?_) (fun h32=>?_)
   ·refine AF (AJ (AD Z Z (AH (Af ?_))));exact ⟨_,[],[],Ae rfl,rfl,rfl,Al (bal_bad hM' hm27 h32),rfl⟩
   ·refine Am ?_;exact ⟨seen++ [b27],fun x hx=>(hI x hx).elim (fun h=>(List.mem_cons.1 (hp27.mem_iff.1 h)).elim (fun e=> .inr (by rw [e];simpa using h32)) .inl) .inr,by rw [hp27.length_eq];exact Nat.lt_succ_self _,BP hF [4,2] rfl (rfl) ⟨rfl,trivial⟩⟩
abbrev acc0:PY:=⟨[],0,[]⟩
abbrev GH (p:Er):A4:=⟨0,p.acc,[],[]⟩
abbrev DU (f t:List UInt8):A4:=⟨1,acc0,f,t⟩
abbrev E2 (f:List UInt8):A4:=⟨2,acc0,f,[]⟩
def Yu (M:List (A4×Int)) (x:A4×Int):List (A4×Int):=BO M x.1 (Ad M x.1 0+x.2)
def I9 (l:List Er):List (A4×Int):=l.map fun p=>(GH p,p.d)
def OA (p:Lo):List (A4×Int):=[(DU p.f p.t,-p.n),(DU p.t p.f,p.n),(E2 p.f,-p.n),(E2 p.t,p.n)]
def LO (l:List Lo):List (A4×Int):=l.flatMap OA
def ctr (i:AT):List (A4×Int):=I9 i.po++LO i.pa
def sumL (l:List (A4×Int)):List (A4×Int):=l.foldl Yu []
def Ai (l:List (A4×Int)) (r:A4):Int:=(l.map fun x=>if x.1=r then x.2 else 0).sum
theorem Tj (l:List (A4×Int)) (x:A4×Int):sumL (l++ [x])=Yu (sumL l) x:=by simp [sumL]
theorem Fv (l m:List (A4×Int)) (r:A4):Ai (l++m) r=Ai l r+Ai m r:=by simp [Ai]
theorem T4 (x:A4×Int) (r:A4):Ai [x] r=if x.1=r then x.2 else 0:=by simp [Ai]
theorem ZB {α:Type} {p:List α ->Prop} (h0:p []) (h1:∀l x,p l ->p (l++ [x])) (l:List α):p l:=by
 have:∀m:List α,p m.reverse:=fun m=>by
  induction m with
  | nil=>exact h0
  | cons x r ih=>rw [List.reverse_cons];exact h1 _ _ ih
 have:=this l.reverse
 rwa [List.reverse_reverse] at this
theorem Jk (l:List (A4×Int)) (r:A4):Ad (sumL l) r 0=Ai l r:=by
 revert r
 refine ZB (p:=fun l=>∀r,Ad (sumL l) r 0=Ai l r) (fun r=>rfl) (fun l x ih r=>?_) l;rw [Tj,Yu,KJ,Fv,T4]
 split
 ·rename_i h;rw [ih,h,if_pos rfl]
 ·rename_i h;rw [ih,if_neg (fun e=>h e.symm)];omega
theorem FG (l:List (A4×Int)):((sumL l).map Prod.fst).Nodup:=
 ZB (p:=fun l=>((sumL l).map Prod.fst).Nodup) (by simp [sumL]) (fun l x ih=>by rw [Tj];exact NF ih) l
theorem II (l:List (A4×Int)) (r:A4):r∈(sumL l).map Prod.fst↔r∈l.map Prod.fst:=by
 refine ZB (p:=fun l=>r∈(sumL l).map Prod.fst↔r∈l.map Prod.fst) (by simp [sumL]) (fun l x ih=>?_) l;rw [Tj,Yu,mem_put,ih]
 simp [or_comm]
def Q5 (l:List (A4×Int)):Prop:=∀x∈l,-1000000000000000≤x.2∧x.2≤1000000000000000
theorem Gx {l:List (A4×Int)} (h:Q5 l) (r:A4): -(l.length*1000000000000000)≤Ai l r∧Ai l r≤l.length*1000000000000000:=by
 induction l with
 | nil=>simp [Ai]
 | cons x l ih=>
  have h1:=ih fun q hq=>h q (by simp [hq]);have h2:=h x (by simp);have e:Ai (x::l) r=(if x.1=r then x.2 else 0)+Ai l r:=by simp [Ai]
  have e2:((x::l).length:Int)=l.length+1:=by simp
  rw [e,e2]
  split<;>omega
structure ItmB (i:AT):Prop where
 po:i.po.length≤256
 pa:i.pa.length≤256
 af:i.af.length≤256
 d:∀p∈i.po,-Mx≤p.d∧p.d≤Mx
 n:∀p∈i.pa,0≤p.n∧p.n≤Mx
theorem Lg (l:List Lo):(LO l).length=4*l.length:=by
 induction l with
 | nil=>rfl
 | cons p r ih=>simp only [LO,List.flatMap_cons,List.length_append,List.length_cons] at ih⊢;rw [ih];simp [OA];omega
theorem bnd_P {l:List Er} (h:∀p∈l,-Mx≤p.d∧p.d≤Mx):Q5 (I9 l):=fun x hx=>by
 obtain ⟨p,hp,rfl⟩:=List.mem_map.1 hx;have:=h p hp;simp only [Mx] at this;exact this
theorem bnd_1 {p:Lo} (h:0≤p.n∧p.n≤Mx):Q5 (OA p):=fun x hx=>by
 simp only [Mx] at h;simp only [OA,List.mem_cons,List.not_mem_nil,or_false] at hx;rcases hx with rfl | rfl | rfl | rfl<;>simp only<;>omega
theorem bnd_Y {l:List Lo} (h:∀p∈l,0≤p.n∧p.n≤Mx):Q5 (LO l):=fun x hx=>by
 obtain ⟨p,hp,hx⟩:=List.mem_flatMap.1 hx;exact bnd_1 (h p hp) x hx
theorem Q5.append {l m:List (A4×Int)} (h:Q5 l) (h':Q5 m):Q5 (l++m):=fun x hx=>(List.mem_append.1 hx).elim (h x) (h' x)
theorem Q5.take {l:List (A4×Int)} (h:Q5 l) (k:Nat):Q5 (l.take k):=fun x hx=>h x (List.mem_of_mem_take hx)
theorem FF {l:List (A4×Int)} (h:Q5 l) (hl:l.length≤2000) (r:A4): -2000000000000000000≤Ad (sumL l) r 0∧Ad (sumL l) r 0≤2000000000000000000:=by
 have:=Gx h r;rw [Jk];omega
theorem WF {l:List Er} {k:Nat} (hk:k<l.length):I9 (l.take (k+1))=I9 (l.take k)++ [(GH l[k],l[k].d)]:=by
 simp only [I9];rw [List.take_succ_eq_append_getElem hk,List.map_append];rfl
theorem WE {l:List Lo} {k:Nat} (hk:k<l.length):LO (l.take (k+1))=LO (l.take k)++OA l[k]:=by
 simp only [LO];rw [List.take_succ_eq_append_getElem hk,List.flatMap_append];simp
def K8 (M:List (A4×Int)) (p:Lo):List (A4×Int):=BO M (DU p.f p.t) (Ad M (DU p.f p.t) 0 - p.n)
def P6 (M:List (A4×Int)) (p:Lo):List (A4×Int):=BO M (DU p.t p.f) (Ad M (DU p.t p.f) 0+p.n)
def st3 (M:List (A4×Int)) (p:Lo):List (A4×Int):=BO M (E2 p.f) (Ad M (E2 p.f) 0 - p.n)
def st4 (M:List (A4×Int)) (p:Lo):List (A4×Int):=BO M (E2 p.t) (Ad M (E2 p.t) 0+p.n)
theorem Wu {l:List (A4×Int)} {p:Lo} {M:List (A4×Int)} (h:M=sumL l):K8 M p=sumL (l++ [(DU p.f p.t,-p.n)])∧P6 (K8 M p) p=sumL (l++ [(DU p.f p.t,-p.n),(DU p.t p.f,p.n)])∧st3 (P6 (K8 M p) p) p=sumL (l++ [(DU p.f p.t,-p.n),(DU p.t p.f,p.n),(E2 p.f,-p.n)])∧st4 (st3 (P6 (K8 M p) p) p) p=sumL (l++OA p):=by
 subst h;have e:∀(l:List (A4×Int)) (x:A4×Int) (r:List (A4×Int)),l++x::r=(l++ [x])++r:=by simp
 refine ⟨?_,?_,?_,?_⟩
 ·rw [Tj];rfl
 ·rw [e,Tj,Tj];rfl
 ·rw [e,e,Tj,Tj,Tj];rfl
 ·rw [OA,e,e,e,Tj,Tj,Tj,Tj];rfl
theorem Wr {l:List (A4×Int)} {p:Lo} {M:List (A4×Int)} (h:M=sumL l) (hb:Q5 l) (hl:l.length≤1900) (hp:0≤p.n∧p.n≤Mx) (r:A4):(-2000000000000000000≤Ad M r 0∧Ad M r 0≤2000000000000000000)∧(-2000000000000000000≤Ad (K8 M p) r 0∧Ad (K8 M p) r 0≤2000000000000000000)∧(-2000000000000000000≤Ad (P6 (K8 M p) p) r 0∧Ad (P6 (K8 M p) p) r 0≤2000000000000000000)∧(-2000000000000000000≤Ad (st3 (P6 (K8 M p) p) p) r 0∧Ad (st3 (P6 (K8 M p) p) p) r 0≤2000000000000000000):=by
 obtain ⟨e1,e2,e3,_⟩:=Wu (p:=p) h;have hb4:=bnd_1 hp;rw [e3,e2,e1,h];refine ⟨FF hb (by omega) r,FF (hb.append fun x hx=>hb4 x ?_) (by simp;omega) r,FF (hb.append fun x hx=>hb4 x ?_) (by simp;omega) r,FF (hb.append fun x hx=>hb4 x ?_) (by simp;omega) r⟩
 all_goals
  simp only [OA,List.mem_cons,List.not_mem_nil,or_false] at hx⊢
  first
   | exact .inl hx
   | exact hx.elim .inl fun h=> .inr (.inl h)
   | exact hx.elim .inl fun h=>h.elim (fun h=> .inr (.inl h)) fun h=> .inr (.inr (.inl h))
set_option maxHeartbeats 1000000 in
theorem P3 (i:AT) (hi:ItmB i):A8 Tryz.prog 30 [.d (Aw i)] [] fun r H'=>r= .map 2 0∧H'=[(2,[B5 D5 AG (sumL (ctr i))])]:=by
 have hpo:=hi.po;have hpa:=hi.pa;refine BY Tryz.func30 Z Z Tryz.ntmps30 Z Z Z fun F hF=>(AF (AJ (U (CJ 1 Z Z Z Z Z Z Z) (AD Z Z ?_))));refine AH (AF (AJ (U (S3 2 Z Z Z Z) (AD Z Z (AH (AF (AF (AJ ?_))))))))
 first | refine J (AO rfl C1 Z Z Z) ?_ | refine J (AQ rfl C1 Z Z Z) ?_ | refine J (AR rfl C1 Z Z Z) ?_ | refine J (AP rfl C1 Z Z Z) ?_ | refine J (AN rfl C1 Z Z Z) ?_
 first | refine J (A0 Z Z Ej rfl) ?_ | refine J (AY Z Z Z Ej rfl) ?_ | refine J (AZ Z Z (rfl) rfl Ej rfl) ?_
 first | refine J (Cc rfl Tryz.underlying46 rfl) ?_ | refine J (C8 Z Z Tryz.underlying46 rfl) ?_ | refine J (Cd rfl Tryz.underlying46 rfl) ?_ | refine J (Cb rfl Tryz.underlying46 rfl) ?_ | refine J (CW rfl Tryz.underlying46 rfl) ?_ | refine J (C9 rfl Tryz.underlying46 rfl) ?_
 refine AC Z Z (AH (Au (De (α:=Nat×List (A4×Int)) (fun q=>⟨80,[(1,(.ptr 1 0 0)),(3,(.map 2 0)),(10,(.d (.sl none (i.po.map Cf)))),(11,(.d (AG (i.po.length:Int)))),(12,(.d (AG (q.1:Int))))],[(2,[B5 D5 AG q.2]),(1,[.blk 49 [.d (AG i.id),.d (AG i.pr),.d (AG i.sq),.d (.sl none (i.po.map Cf)),.d (.sl none (i.pa.map Gl)),.d (.sl none (i.af.map AG))]])]⟩) (fun q=>q.1≤i.po.length∧q.2=sumL (I9 (i.po.take q.1))) (fun q=>i.po.length - q.1) ((0,[])) (⟨Nat.zero_le _,rfl⟩) (BP hF [2,1] Z Z ⟨rfl,rfl,rfl,rfl,rfl,trivial⟩) ?_)));rintro ⟨k,M⟩ ⟨hk0,hM⟩;dsimp only at hk0 hM⊢;refine AF (AJ ?_)
 first | refine J (C7 Z Z Z) ?_ | refine J (Ca Z Z Z) ?_
 refine AH (AF ?_)
 first | refine BJ rfl (fun h13=>?_) (fun h13=>?_) | refine BB rfl (fun h13=>?_) (fun h13=>?_)
 ·have hk1:k<i.po.length:=DZ h13;refine Am (AF (Au (AF (AJ ?_))));have hbk:=hi.d _ (List.getElem_mem hk1);simp only [Mx] at hbk;have hgb:=FF (l:=I9 (i.po.take k)) (bnd_P (Tp hi.d)) (by simp [I9];omega) (GH i.po[k]);rw [←hM] at hgb
  first | refine J (CY (k) Z Z (rfl) (A2 hk1) Tryz.underlying46 rfl Ji rfl) ?_ | refine J (CZ (k) Z Z (rfl) (A2 hk1) rfl Tryz.underlying46 Ji rfl) ?_
  first | refine J (An Z Z Jt rfl) ?_ | refine J (Ao Z Z Jt Z Z Z) ?_ | refine J (Ap Z Z (rfl) rfl Jt rfl) ?_
  refine U (Cm 3 Ja Z Z Z Z) (U (Bj Z Z Z Z Z Z Z Ji) (AH (G8 [[],[],[1],[1,2],[0,1,2,3],[],[5],[0,1,2,3,4,5,6],[0,1,2,3,5,6],[0,1,2,3,5,6,8],[0,1,2,3,4,5,6,7,8,9]] BC rfl (WC 2 ([B5 D5 AG (BZ M (GH i.po[k]) 0)]) rfl ?_))))
  first | refine AE [3] [] Z Z (fun _=>AB (B7 Z Z)) ?_ | refine AI [3] Z Z (fun _=>AB (B7 Z Z)) ?_
  first | refine AE [5] [] Z Z (fun _=>AB (AO rfl J8 Z Z Z)) ?_ | refine AI [5] Z Z (fun _=>AB (AO rfl J8 Z Z Z)) ?_ | refine AE [5] [] Z Z (fun _=>AB (AQ rfl J8 Z Z Z)) ?_ | refine AI [5] Z Z (fun _=>AB (AQ rfl J8 Z Z Z)) ?_ | refine AE [5] [] Z Z (fun _=>AB (AR rfl J8 Z Z Z)) ?_ | refine AI [5] Z Z (fun _=>AB (AR rfl J8 Z Z Z)) ?_ | refine AE [5] [] Z Z (fun _=>AB (AP rfl J8 Z Z Z)) ?_ | refine AI [5] Z Z (fun _=>AB (AP rfl J8 Z Z Z)) ?_ | refine AE [5] [] Z Z (fun _=>AB (AN rfl J8 Z Z Z)) ?_ | refine AI [5] Z Z (fun _=>AB (AN rfl J8 Z Z Z)) ?_
  first | refine AE [17] [] Z Z (fun _=>AB (An Z Z HJ rfl)) ?_ | refine AI [17] Z Z (fun _=>AB (An Z Z HJ rfl)) ?_ | refine AE [17] [] Z Z (fun _=>AB (Ao Z Z HJ Z Z Z)) ?_ | refine AI [17] Z Z (fun _=>AB (Ao Z Z HJ Z Z Z)) ?_ | refine AE [17] [] Z Z (fun _=>AB (Ap Z Z (rfl) rfl HJ rfl)) ?_ | refine AI [17] Z Z (fun _=>AB (Ap Z Z (rfl) rfl HJ rfl)) ?_
  first | refine AE [18] [] Z Z (fun _=>AB (Cu Gf Jy Z Z Z)) ?_ | refine AI [18] Z Z (fun _=>AB (Cu Gf Jy Z Z Z)) ?_
  refine IW [16,19] [] Z Z Z (fun _=>AB (IC (M) (GH i.po[k]) (0) _ Z Z Z El Ch Nk Z Z)) (fun _=>AB (IC (BZ (M) (GH i.po[k]) (0)) (GH i.po[k]) (0) _ Z Z Z El Ch Nk (Dq _ _ _ _) rfl)) ?_
  first | refine AE [5] [] Z Z (fun _=>AB (AO rfl PT Z Z Z)) ?_ | refine AI [5] Z Z (fun _=>AB (AO rfl PT Z Z Z)) ?_ | refine AE [5] [] Z Z (fun _=>AB (AQ rfl PT Z Z Z)) ?_ | refine AI [5] Z Z (fun _=>AB (AQ rfl PT Z Z Z)) ?_ | refine AE [5] [] Z Z (fun _=>AB (AR rfl PT Z Z Z)) ?_ | refine AI [5] Z Z (fun _=>AB (AR rfl PT Z Z Z)) ?_ | refine AE [5] [] Z Z (fun _=>AB (AP rfl PT Z Z Z)) ?_ | refine AI [5] Z Z (fun _=>AB (AP rfl PT Z Z Z)) ?_ | refine AE [5] [] Z Z (fun _=>AB (AN rfl PT Z Z Z)) ?_ | refine AI [5] Z Z (fun _=>AB (AN rfl PT Z Z Z)) ?_
  first | refine AE [21] [] Z Z (fun _=>AB (A0 Z Z Be rfl)) ?_ | refine AI [21] Z Z (fun _=>AB (A0 Z Z Be rfl)) ?_ | refine AE [21] [] Z Z (fun _=>AB (AY Z Z Z Be rfl)) ?_ | refine AI [21] Z Z (fun _=>AB (AY Z Z Z Be rfl)) ?_ | refine AE [21] [] Z Z (fun _=>AB (AZ Z Z (rfl) rfl Be rfl)) ?_ | refine AI [21] Z Z (fun _=>AB (AZ Z Z (rfl) rfl Be rfl)) ?_
  first | refine AE [20,22] [] Z Z (fun _=>AB (Bi Z Z (IntWalk.i64_in _ (by omega)) rfl)) ?_ | refine AI [20,22] Z Z (fun _=>AB (Bi Z Z (IntWalk.i64_in _ (by omega)) rfl)) ?_
  refine Fw [16,19] [2] [(24,_)] Z Z (fun _=>Fx (Gi (M) (GH i.po[k]) (0) Z Z Z El Ch Nk Z Z)) (.inr ⟨24,_,rfl,rfl,rfl,rfl,rfl⟩) Z Z Z Z Z ?_ (hCn:=PI rfl)
  first | refine AE [24] [] Z Z (fun _=>AB (BT Z Z Z)) ?_ | refine AI [24] Z Z (fun _=>AB (BT Z Z Z)) ?_ | refine AE [24] [] Z Z (fun _=>AB (BS Z Z Z)) ?_ | refine AI [24] Z Z (fun _=>AB (BS Z Z Z)) ?_
  refine GZ 10 Z Z Z (BD 11 Z Z (U (Gj (M) (GH i.po[k]) (0) (Ad M (GH i.po[k]) 0+i.po[k].d) Z Z Z Ch Z Z) (AH ⟨rfl,?_⟩)));refine GY (AJ (J (Bi Z Z (A6 (k+1) (by omega)) rfl) (AC Z Z (AH ?_))));exact ⟨(k+1,_),⟨by show k+1≤_;omega,by show _=sumL (I9 (i.po.take (k+1)));rw [WF hk1,Tj,←hM];rfl⟩,by show i.po.length - (k+1)<i.po.length - k;omega,BP hF [2,1] rfl (rfl) ⟨rfl,rfl,rfl,rfl,rfl,trivial⟩⟩
 ·refine C6 (AF (AF ?_));have hM0:M=sumL (I9 i.po++LO (i.pa.take 0)):=by rw [hM,List.take_of_length_le (by have h:=h13;omega)];simp [LO]
  refine AJ ?_
  first | refine J (AO rfl DX Z Z Z) ?_ | refine J (AQ rfl DX Z Z Z) ?_ | refine J (AR rfl DX Z Z Z) ?_ | refine J (AP rfl DX Z Z Z) ?_ | refine J (AN rfl DX Z Z Z) ?_
  first | refine J (A0 Z Z Fm rfl) ?_ | refine J (AY Z Z Z Fm rfl) ?_ | refine J (AZ Z Z (rfl) rfl Fm rfl) ?_
  first | refine J (Cc rfl Tryz.underlying47 rfl) ?_ | refine J (C8 Z Z Tryz.underlying47 rfl) ?_ | refine J (Cd rfl Tryz.underlying47 rfl) ?_ | refine J (Cb rfl Tryz.underlying47 rfl) ?_ | refine J (CW rfl Tryz.underlying47 rfl) ?_ | refine J (C9 rfl Tryz.underlying47 rfl) ?_
  refine AC Z Z (AH (Au (De (α:=Nat×List (A4×Int)) (fun q=>⟨80,[(3,(.map 2 0)),(28,(.d (.sl none (i.pa.map Gl)))),(29,(.d (AG (i.pa.length:Int)))),(30,(.d (AG (q.1:Int))))],[(2,[B5 D5 AG q.2])]⟩) (fun q=>q.1≤i.pa.length∧q.2=sumL (I9 i.po++LO (i.pa.take q.1))) (fun q=>i.pa.length - q.1) ((0,M)) (⟨Nat.zero_le _,hM0⟩) (BP hF [2] Z Z ⟨rfl,rfl,rfl,rfl,trivial⟩) ?_)));rintro ⟨m,N⟩ ⟨hm0,hN⟩;dsimp only at hm0 hN⊢;refine AF (AJ ?_)
  first | refine J (C7 Z Z Z) ?_ | refine J (Ca Z Z Z) ?_
  refine AH (AF ?_)
  first | refine BJ rfl (fun h31=>?_) (fun h31=>?_) | refine BB rfl (fun h31=>?_) (fun h31=>?_)
  ·have hm1:m<i.pa.length:=DZ h31;refine Am (AF (Au (AF (AJ ?_))));have hbm:=hi.n _ (List.getElem_mem hm1);have hsm:=Wr hN ((bnd_P hi.d).append (bnd_Y fun q hq=>hi.n q (List.mem_of_mem_take hq))) (by rw [List.length_append,Lg];simp [I9];omega) hbm;simp only [Mx] at hbm
   first | refine J (CY (m) Z Z (rfl) (A2 hm1) Tryz.underlying47 rfl OH rfl) ?_ | refine J (CZ (m) Z Z (rfl) (A2 hm1) rfl Tryz.underlying47 OH rfl) ?_
   first | refine J (An Z Z OV rfl) ?_ | refine J (Ao Z Z OV Z Z Z) ?_ | refine J (Ap Z Z (rfl) rfl OV rfl) ?_
   refine U (Cm 4 W6 Z Z Z Z) (U (Bj Z Z Z Z Z Z Z OH) (AH (AF (G8 [[],[],[1],[],[3],[1,2,3,4],[0,1,2,3,4,5],[],[7],[0,1,2,3,4,5,6,7,8],[0,1,2,3,4,5,7,8],[0,1,2,3,4,5,7,8,10],[0,1,2,3,4,5,6,7,8,9,10,11]] BC rfl (WC 2 ([B5 D5 AG (BZ N (DU i.pa[m].f i.pa[m].t) 0)]) rfl ?_)))))
   first | refine AE [3] [] Z Z (fun _=>AB (B7 Z Z)) ?_ | refine AI [3] Z Z (fun _=>AB (B7 Z Z)) ?_
   first | refine AE [7] [] Z Z (fun _=>AB (AO rfl Gc Z Z Z)) ?_ | refine AI [7] Z Z (fun _=>AB (AO rfl Gc Z Z Z)) ?_ | refine AE [7] [] Z Z (fun _=>AB (AQ rfl Gc Z Z Z)) ?_ | refine AI [7] Z Z (fun _=>AB (AQ rfl Gc Z Z Z)) ?_ | refine AE [7] [] Z Z (fun _=>AB (AR rfl Gc Z Z Z)) ?_ | refine AI [7] Z Z (fun _=>AB (AR rfl Gc Z Z Z)) ?_ | refine AE [7] [] Z Z (fun _=>AB (AP rfl Gc Z Z Z)) ?_ | refine AI [7] Z Z (fun _=>AB (AP rfl Gc Z Z Z)) ?_ | refine AE [7] [] Z Z (fun _=>AB (AN rfl Gc Z Z Z)) ?_ | refine AI [7] Z Z (fun _=>AB (AN rfl Gc Z Z Z)) ?_
   first | refine AE [35] [] Z Z (fun _=>AB (A0 Z Z Ay rfl)) ?_ | refine AI [35] Z Z (fun _=>AB (A0 Z Z Ay rfl)) ?_ | refine AE [35] [] Z Z (fun _=>AB (AY Z Z Z Ay rfl)) ?_ | refine AI [35] Z Z (fun _=>AB (AY Z Z Z Ay rfl)) ?_ | refine AE [35] [] Z Z (fun _=>AB (AZ Z Z (rfl) rfl Ay rfl)) ?_ | refine AI [35] Z Z (fun _=>AB (AZ Z Z (rfl) rfl Ay rfl)) ?_
   first | refine AE [7] [] Z Z (fun _=>AB (AO rfl Gd Z Z Z)) ?_ | refine AI [7] Z Z (fun _=>AB (AO rfl Gd Z Z Z)) ?_ | refine AE [7] [] Z Z (fun _=>AB (AQ rfl Gd Z Z Z)) ?_ | refine AI [7] Z Z (fun _=>AB (AQ rfl Gd Z Z Z)) ?_ | refine AE [7] [] Z Z (fun _=>AB (AR rfl Gd Z Z Z)) ?_ | refine AI [7] Z Z (fun _=>AB (AR rfl Gd Z Z Z)) ?_ | refine AE [7] [] Z Z (fun _=>AB (AP rfl Gd Z Z Z)) ?_ | refine AI [7] Z Z (fun _=>AB (AP rfl Gd Z Z Z)) ?_ | refine AE [7] [] Z Z (fun _=>AB (AN rfl Gd Z Z Z)) ?_ | refine AI [7] Z Z (fun _=>AB (AN rfl Gd Z Z Z)) ?_
   first | refine AE [37] [] Z Z (fun _=>AB (A0 Z Z Ay rfl)) ?_ | refine AI [37] Z Z (fun _=>AB (A0 Z Z Ay rfl)) ?_ | refine AE [37] [] Z Z (fun _=>AB (AY Z Z Z Ay rfl)) ?_ | refine AI [37] Z Z (fun _=>AB (AY Z Z Z Ay rfl)) ?_ | refine AE [37] [] Z Z (fun _=>AB (AZ Z Z (rfl) rfl Ay rfl)) ?_ | refine AI [37] Z Z (fun _=>AB (AZ Z Z (rfl) rfl Ay rfl)) ?_
   first | refine AE [36,38] [] Z Z (fun _=>AB (Cu Gf Jy Z Z Z)) ?_ | refine AI [36,38] Z Z (fun _=>AB (Cu Gf Jy Z Z Z)) ?_
   refine IW [34,39] [] Z Z Z (fun _=>AB (IC (N) (DU i.pa[m].f i.pa[m].t) (0) _ Z Z Z El Ch Nk Z Z)) (fun _=>AB (IC (BZ (N) (DU i.pa[m].f i.pa[m].t) (0)) (DU i.pa[m].f i.pa[m].t) (0) _ Z Z Z El Ch Nk (Dq _ _ _ _) rfl)) ?_
   first | refine AE [7] [] Z Z (fun _=>AB (AO rfl FZ Z Z Z)) ?_ | refine AI [7] Z Z (fun _=>AB (AO rfl FZ Z Z Z)) ?_ | refine AE [7] [] Z Z (fun _=>AB (AQ rfl FZ Z Z Z)) ?_ | refine AI [7] Z Z (fun _=>AB (AQ rfl FZ Z Z Z)) ?_ | refine AE [7] [] Z Z (fun _=>AB (AR rfl FZ Z Z Z)) ?_ | refine AI [7] Z Z (fun _=>AB (AR rfl FZ Z Z Z)) ?_ | refine AE [7] [] Z Z (fun _=>AB (AP rfl FZ Z Z Z)) ?_ | refine AI [7] Z Z (fun _=>AB (AP rfl FZ Z Z Z)) ?_ | refine AE [7] [] Z Z (fun _=>AB (AN rfl FZ Z Z Z)) ?_ | refine AI [7] Z Z (fun _=>AB (AN rfl FZ Z Z Z)) ?_
   first | refine AE [41] [] Z Z (fun _=>AB (A0 Z Z Be rfl)) ?_ | refine AI [41] Z Z (fun _=>AB (A0 Z Z Be rfl)) ?_ | refine AE [41] [] Z Z (fun _=>AB (AY Z Z Z Be rfl)) ?_ | refine AI [41] Z Z (fun _=>AB (AY Z Z Z Be rfl)) ?_ | refine AE [41] [] Z Z (fun _=>AB (AZ Z Z (rfl) rfl Be rfl)) ?_ | refine AI [41] Z Z (fun _=>AB (AZ Z Z (rfl) rfl Be rfl)) ?_
   have g:=(hsm (DU i.pa[m].f i.pa[m].t)).1
   first | refine AE [40,42] [] Z Z (fun _=>AB (FH Z Z (IntWalk.i64_in _ (by omega)) rfl)) ?_ | refine AI [40,42] Z Z (fun _=>AB (FH Z Z (IntWalk.i64_in _ (by omega)) rfl)) ?_
   refine Fw [34,39] [2] [(44,_)] Z Z (fun _=>Fx (Gi (N) (DU i.pa[m].f i.pa[m].t) (0) Z Z Z El Ch Nk Z Z)) (.inr ⟨44,_,rfl,rfl,rfl,rfl,rfl⟩) Z Z Z Z Z ?_ (hCn:=PI rfl)
   first | refine AE [44] [] Z Z (fun _=>AB (BT Z Z Z)) ?_ | refine AI [44] Z Z (fun _=>AB (BT Z Z Z)) ?_ | refine AE [44] [] Z Z (fun _=>AB (BS Z Z Z)) ?_ | refine AI [44] Z Z (fun _=>AB (BS Z Z Z)) ?_
   refine GZ 12 Z Z Z (BD 13 Z Z (U (Gj (N) (DU i.pa[m].f i.pa[m].t) (0) (Ad N (DU i.pa[m].f i.pa[m].t) 0 - i.pa[m].n) Z Z Z Ch Z Z) (AH ⟨rfl,?_⟩)));refine GY (AF (G8 [[],[],[1],[],[3],[1,2,3,4],[0,1,2,3,4,5],[],[7],[0,1,2,3,4,5,6,7,8],[0,1,2,3,4,5,7,8],[0,1,2,3,4,5,7,8,10],[0,1,2,3,4,5,6,7,8,9,10,11]] BC rfl (WC 2 ([B5 D5 AG (BZ (K8 N i.pa[m]) (DU i.pa[m].t i.pa[m].f) 0)]) rfl ?_)))
   first | refine AE [3] [] Z Z (fun _=>AB (B7 Z Z)) ?_ | refine AI [3] Z Z (fun _=>AB (B7 Z Z)) ?_
   first | refine AE [7] [] Z Z (fun _=>AB (AO rfl Gd Z Z Z)) ?_ | refine AI [7] Z Z (fun _=>AB (AO rfl Gd Z Z Z)) ?_ | refine AE [7] [] Z Z (fun _=>AB (AQ rfl Gd Z Z Z)) ?_ | refine AI [7] Z Z (fun _=>AB (AQ rfl Gd Z Z Z)) ?_ | refine AE [7] [] Z Z (fun _=>AB (AR rfl Gd Z Z Z)) ?_ | refine AI [7] Z Z (fun _=>AB (AR rfl Gd Z Z Z)) ?_ | refine AE [7] [] Z Z (fun _=>AB (AP rfl Gd Z Z Z)) ?_ | refine AI [7] Z Z (fun _=>AB (AP rfl Gd Z Z Z)) ?_ | refine AE [7] [] Z Z (fun _=>AB (AN rfl Gd Z Z Z)) ?_ | refine AI [7] Z Z (fun _=>AB (AN rfl Gd Z Z Z)) ?_
   first | refine AE [47] [] Z Z (fun _=>AB (A0 Z Z Ay rfl)) ?_ | refine AI [47] Z Z (fun _=>AB (A0 Z Z Ay rfl)) ?_ | refine AE [47] [] Z Z (fun _=>AB (AY Z Z Z Ay rfl)) ?_ | refine AI [47] Z Z (fun _=>AB (AY Z Z Z Ay rfl)) ?_ | refine AE [47] [] Z Z (fun _=>AB (AZ Z Z (rfl) rfl Ay rfl)) ?_ | refine AI [47] Z Z (fun _=>AB (AZ Z Z (rfl) rfl Ay rfl)) ?_
   first | refine AE [7] [] Z Z (fun _=>AB (AO rfl Gc Z Z Z)) ?_ | refine AI [7] Z Z (fun _=>AB (AO rfl Gc Z Z Z)) ?_ | refine AE [7] [] Z Z (fun _=>AB (AQ rfl Gc Z Z Z)) ?_ | refine AI [7] Z Z (fun _=>AB (AQ rfl Gc Z Z Z)) ?_ | refine AE [7] [] Z Z (fun _=>AB (AR rfl Gc Z Z Z)) ?_ | refine AI [7] Z Z (fun _=>AB (AR rfl Gc Z Z Z)) ?_ | refine AE [7] [] Z Z (fun _=>AB (AP rfl Gc Z Z Z)) ?_ | refine AI [7] Z Z (fun _=>AB (AP rfl Gc Z Z Z)) ?_ | refine AE [7] [] Z Z (fun _=>AB (AN rfl Gc Z Z Z)) ?_ | refine AI [7] Z Z (fun _=>AB (AN rfl Gc Z Z Z)) ?_
   first | refine AE [49] [] Z Z (fun _=>AB (A0 Z Z Ay rfl)) ?_ | refine AI [49] Z Z (fun _=>AB (A0 Z Z Ay rfl)) ?_ | refine AE [49] [] Z Z (fun _=>AB (AY Z Z Z Ay rfl)) ?_ | refine AI [49] Z Z (fun _=>AB (AY Z Z Z Ay rfl)) ?_ | refine AE [49] [] Z Z (fun _=>AB (AZ Z Z (rfl) rfl Ay rfl)) ?_ | refine AI [49] Z Z (fun _=>AB (AZ Z Z (rfl) rfl Ay rfl)) ?_
   first | refine AE [48,50] [] Z Z (fun _=>AB (Cu Gf Jy Z Z Z)) ?_ | refine AI [48,50] Z Z (fun _=>AB (Cu Gf Jy Z Z Z)) ?_
   refine IW [46,51] [] Z Z Z (fun _=>AB (IC (K8 N i.pa[m]) (DU i.pa[m].t i.pa[m].f) (0) _ Z Z Z El Ch Nk Z Z)) (fun _=>AB (IC (BZ (K8 N i.pa[m]) (DU i.pa[m].t i.pa[m].f) (0)) (DU i.pa[m].t i.pa[m].f) (0) _ Z Z Z El Ch Nk (Dq _ _ _ _) rfl)) ?_
   first | refine AE [7] [] Z Z (fun _=>AB (AO rfl FZ Z Z Z)) ?_ | refine AI [7] Z Z (fun _=>AB (AO rfl FZ Z Z Z)) ?_ | refine AE [7] [] Z Z (fun _=>AB (AQ rfl FZ Z Z Z)) ?_ | refine AI [7] Z Z (fun _=>AB (AQ rfl FZ Z Z Z)) ?_ | refine AE [7] [] Z Z (fun _=>AB (AR rfl FZ Z Z Z)) ?_ | refine AI [7] Z Z (fun _=>AB (AR rfl FZ Z Z Z)) ?_ | refine AE [7] [] Z Z (fun _=>AB (AP rfl FZ Z Z Z)) ?_ | refine AI [7] Z Z (fun _=>AB (AP rfl FZ Z Z Z)) ?_ | refine AE [7] [] Z Z (fun _=>AB (AN rfl FZ Z Z Z)) ?_ | refine AI [7] Z Z (fun _=>AB (AN rfl FZ Z Z Z)) ?_
   first | refine AE [53] [] Z Z (fun _=>AB (A0 Z Z Be rfl)) ?_ | refine AI [53] Z Z (fun _=>AB (A0 Z Z Be rfl)) ?_ | refine AE [53] [] Z Z (fun _=>AB (AY Z Z Z Be rfl)) ?_ | refine AI [53] Z Z (fun _=>AB (AY Z Z Z Be rfl)) ?_ | refine AE [53] [] Z Z (fun _=>AB (AZ Z Z (rfl) rfl Be rfl)) ?_ | refine AI [53] Z Z (fun _=>AB (AZ Z Z (rfl) rfl Be rfl)) ?_
   have g:=(hsm (DU i.pa[m].t i.pa[m].f)).2.1
   first | refine AE [52,54] [] Z Z (fun _=>AB (Bi Z Z (IntWalk.i64_in _ (by omega)) rfl)) ?_ | refine AI [52,54] Z Z (fun _=>AB (Bi Z Z (IntWalk.i64_in _ (by omega)) rfl)) ?_
   refine Fw [46,51] [2] [(56,_)] Z Z (fun _=>Fx (Gi (K8 N i.pa[m]) (DU i.pa[m].t i.pa[m].f) (0) Z Z Z El Ch Nk Z Z)) (.inr ⟨56,_,rfl,rfl,rfl,rfl,rfl⟩) Z Z Z Z Z ?_ (hCn:=PI rfl)
   first | refine AE [56] [] Z Z (fun _=>AB (BT Z Z Z)) ?_ | refine AI [56] Z Z (fun _=>AB (BT Z Z Z)) ?_ | refine AE [56] [] Z Z (fun _=>AB (BS Z Z Z)) ?_ | refine AI [56] Z Z (fun _=>AB (BS Z Z Z)) ?_
   refine GZ 12 Z Z Z (BD 13 Z Z (U (Gj (K8 N i.pa[m]) (DU i.pa[m].t i.pa[m].f) (0) (Ad (K8 N i.pa[m]) (DU i.pa[m].t i.pa[m].f) 0+i.pa[m].n) Z Z Z Ch Z Z) (AH ⟨rfl,?_⟩)));refine GY (AF (G8 [[],[],[1],[1,2],[0,1,2,3],[],[5],[0,1,2,3,4,5,6],[0,1,2,3,5,6],[0,1,2,3,5,6,8],[0,1,2,3,4,5,6,7,8,9]] BC rfl (WC 2 ([B5 D5 AG (BZ (P6 (K8 N i.pa[m]) i.pa[m]) (E2 i.pa[m].f) 0)]) rfl ?_)))
   first | refine AE [3] [] Z Z (fun _=>AB (B7 Z Z)) ?_ | refine AI [3] Z Z (fun _=>AB (B7 Z Z)) ?_
   first | refine AE [7] [] Z Z (fun _=>AB (AO rfl Gc Z Z Z)) ?_ | refine AI [7] Z Z (fun _=>AB (AO rfl Gc Z Z Z)) ?_ | refine AE [7] [] Z Z (fun _=>AB (AQ rfl Gc Z Z Z)) ?_ | refine AI [7] Z Z (fun _=>AB (AQ rfl Gc Z Z Z)) ?_ | refine AE [7] [] Z Z (fun _=>AB (AR rfl Gc Z Z Z)) ?_ | refine AI [7] Z Z (fun _=>AB (AR rfl Gc Z Z Z)) ?_ | refine AE [7] [] Z Z (fun _=>AB (AP rfl Gc Z Z Z)) ?_ | refine AI [7] Z Z (fun _=>AB (AP rfl Gc Z Z Z)) ?_ | refine AE [7] [] Z Z (fun _=>AB (AN rfl Gc Z Z Z)) ?_ | refine AI [7] Z Z (fun _=>AB (AN rfl Gc Z Z Z)) ?_
   first | refine AE [59] [] Z Z (fun _=>AB (A0 Z Z Ay rfl)) ?_ | refine AI [59] Z Z (fun _=>AB (A0 Z Z Ay rfl)) ?_ | refine AE [59] [] Z Z (fun _=>AB (AY Z Z Z Ay rfl)) ?_ | refine AI [59] Z Z (fun _=>AB (AY Z Z Z Ay rfl)) ?_ | refine AE [59] [] Z Z (fun _=>AB (AZ Z Z (rfl) rfl Ay rfl)) ?_ | refine AI [59] Z Z (fun _=>AB (AZ Z Z (rfl) rfl Ay rfl)) ?_
   first | refine AE [60] [] Z Z (fun _=>AB (Cu Gf Jy Z Z Z)) ?_ | refine AI [60] Z Z (fun _=>AB (Cu Gf Jy Z Z Z)) ?_
   refine IW [58,61] [] Z Z Z (fun _=>AB (IC (P6 (K8 N i.pa[m]) i.pa[m]) (E2 i.pa[m].f) (0) _ Z Z Z El Ch Nk Z Z)) (fun _=>AB (IC (BZ (P6 (K8 N i.pa[m]) i.pa[m]) (E2 i.pa[m].f) (0)) (E2 i.pa[m].f) (0) _ Z Z Z El Ch Nk (Dq _ _ _ _) rfl)) ?_
   first | refine AE [7] [] Z Z (fun _=>AB (AO rfl FZ Z Z Z)) ?_ | refine AI [7] Z Z (fun _=>AB (AO rfl FZ Z Z Z)) ?_ | refine AE [7] [] Z Z (fun _=>AB (AQ rfl FZ Z Z Z)) ?_ | refine AI [7] Z Z (fun _=>AB (AQ rfl FZ Z Z Z)) ?_ | refine AE [7] [] Z Z (fun _=>AB (AR rfl FZ Z Z Z)) ?_ | refine AI [7] Z Z (fun _=>AB (AR rfl FZ Z Z Z)) ?_ | refine AE [7] [] Z Z (fun _=>AB (AP rfl FZ Z Z Z)) ?_ | refine AI [7] Z Z (fun _=>AB (AP rfl FZ Z Z Z)) ?_ | refine AE [7] [] Z Z (fun _=>AB (AN rfl FZ Z Z Z)) ?_ | refine AI [7] Z Z (fun _=>AB (AN rfl FZ Z Z Z)) ?_
   first | refine AE [63] [] Z Z (fun _=>AB (A0 Z Z Be rfl)) ?_ | refine AI [63] Z Z (fun _=>AB (A0 Z Z Be rfl)) ?_ | refine AE [63] [] Z Z (fun _=>AB (AY Z Z Z Be rfl)) ?_ | refine AI [63] Z Z (fun _=>AB (AY Z Z Z Be rfl)) ?_ | refine AE [63] [] Z Z (fun _=>AB (AZ Z Z (rfl) rfl Be rfl)) ?_ | refine AI [63] Z Z (fun _=>AB (AZ Z Z (rfl) rfl Be rfl)) ?_
   have g:=(hsm (E2 i.pa[m].f)).2.2.1
   first | refine AE [62,64] [] Z Z (fun _=>AB (FH Z Z (IntWalk.i64_in _ (by omega)) rfl)) ?_ | refine AI [62,64] Z Z (fun _=>AB (FH Z Z (IntWalk.i64_in _ (by omega)) rfl)) ?_
   refine Fw [58,61] [2] [(66,_)] Z Z (fun _=>Fx (Gi (P6 (K8 N i.pa[m]) i.pa[m]) (E2 i.pa[m].f) (0) Z Z Z El Ch Nk Z Z)) (.inr ⟨66,_,rfl,rfl,rfl,rfl,rfl⟩) Z Z Z Z Z ?_ (hCn:=PI rfl)
   first | refine AE [66] [] Z Z (fun _=>AB (BT Z Z Z)) ?_ | refine AI [66] Z Z (fun _=>AB (BT Z Z Z)) ?_ | refine AE [66] [] Z Z (fun _=>AB (BS Z Z Z)) ?_ | refine AI [66] Z Z (fun _=>AB (BS Z Z Z)) ?_
   refine GZ 10 Z Z Z (BD 11 Z Z (U (Gj (P6 (K8 N i.pa[m]) i.pa[m]) (E2 i.pa[m].f) (0) (Ad (P6 (K8 N i.pa[m]) i.pa[m]) (E2 i.pa[m].f) 0 - i.pa[m].n) Z Z Z Ch Z Z) (AH ⟨rfl,?_⟩)));refine GY (G8 [[],[],[1],[1,2],[0,1,2,3],[],[5],[0,1,2,3,4,5,6],[0,1,2,3,5,6],[0,1,2,3,5,6,8],[0,1,2,3,4,5,6,7,8,9]] BC rfl (WC 2 ([B5 D5 AG (BZ (st3 (P6 (K8 N i.pa[m]) i.pa[m]) i.pa[m]) (E2 i.pa[m].t) 0)]) rfl ?_))
   first | refine AE [3] [] Z Z (fun _=>AB (B7 Z Z)) ?_ | refine AI [3] Z Z (fun _=>AB (B7 Z Z)) ?_
   first | refine AE [7] [] Z Z (fun _=>AB (AO rfl Gd Z Z Z)) ?_ | refine AI [7] Z Z (fun _=>AB (AO rfl Gd Z Z Z)) ?_ | refine AE [7] [] Z Z (fun _=>AB (AQ rfl Gd Z Z Z)) ?_ | refine AI [7] Z Z (fun _=>AB (AQ rfl Gd Z Z Z)) ?_ | refine AE [7] [] Z Z (fun _=>AB (AR rfl Gd Z Z Z)) ?_ | refine AI [7] Z Z (fun _=>AB (AR rfl Gd Z Z Z)) ?_ | refine AE [7] [] Z Z (fun _=>AB (AP rfl Gd Z Z Z)) ?_ | refine AI [7] Z Z (fun _=>AB (AP rfl Gd Z Z Z)) ?_ | refine AE [7] [] Z Z (fun _=>AB (AN rfl Gd Z Z Z)) ?_ | refine AI [7] Z Z (fun _=>AB (AN rfl Gd Z Z Z)) ?_
   first | refine AE [69] [] Z Z (fun _=>AB (A0 Z Z Ay rfl)) ?_ | refine AI [69] Z Z (fun _=>AB (A0 Z Z Ay rfl)) ?_ | refine AE [69] [] Z Z (fun _=>AB (AY Z Z Z Ay rfl)) ?_ | refine AI [69] Z Z (fun _=>AB (AY Z Z Z Ay rfl)) ?_ | refine AE [69] [] Z Z (fun _=>AB (AZ Z Z (rfl) rfl Ay rfl)) ?_ | refine AI [69] Z Z (fun _=>AB (AZ Z Z (rfl) rfl Ay rfl)) ?_
   first | refine AE [70] [] Z Z (fun _=>AB (Cu Gf Jy Z Z Z)) ?_ | refine AI [70] Z Z (fun _=>AB (Cu Gf Jy Z Z Z)) ?_
   refine IW [68,71] [] Z Z Z (fun _=>AB (IC (st3 (P6 (K8 N i.pa[m]) i.pa[m]) i.pa[m]) (E2 i.pa[m].t) (0) _ Z Z Z El Ch Nk Z Z)) (fun _=>AB (IC (BZ (st3 (P6 (K8 N i.pa[m]) i.pa[m]) i.pa[m]) (E2 i.pa[m].t) (0)) (E2 i.pa[m].t) (0) _ Z Z Z El Ch Nk (Dq _ _ _ _) rfl)) ?_
   first | refine AE [7] [] Z Z (fun _=>AB (AO rfl FZ Z Z Z)) ?_ | refine AI [7] Z Z (fun _=>AB (AO rfl FZ Z Z Z)) ?_ | refine AE [7] [] Z Z (fun _=>AB (AQ rfl FZ Z Z Z)) ?_ | refine AI [7] Z Z (fun _=>AB (AQ rfl FZ Z Z Z)) ?_ | refine AE [7] [] Z Z (fun _=>AB (AR rfl FZ Z Z Z)) ?_ | refine AI [7] Z Z (fun _=>AB (AR rfl FZ Z Z Z)) ?_ | refine AE [7] [] Z Z (fun _=>AB (AP rfl FZ Z Z Z)) ?_ | refine AI [7] Z Z (fun _=>AB (AP rfl FZ Z Z Z)) ?_ | refine AE [7] [] Z Z (fun _=>AB (AN rfl FZ Z Z Z)) ?_ | refine AI [7] Z Z (fun _=>AB (AN rfl FZ Z Z Z)) ?_
   first | refine AE [73] [] Z Z (fun _=>AB (A0 Z Z Be rfl)) ?_ | refine AI [73] Z Z (fun _=>AB (A0 Z Z Be rfl)) ?_ | refine AE [73] [] Z Z (fun _=>AB (AY Z Z Z Be rfl)) ?_ | refine AI [73] Z Z (fun _=>AB (AY Z Z Z Be rfl)) ?_ | refine AE [73] [] Z Z (fun _=>AB (AZ Z Z (rfl) rfl Be rfl)) ?_ | refine AI [73] Z Z (fun _=>AB (AZ Z Z (rfl) rfl Be rfl)) ?_
   have g:=(hsm (E2 i.pa[m].t)).2.2.2
   first | refine AE [72,74] [] Z Z (fun _=>AB (Bi Z Z (IntWalk.i64_in _ (by omega)) rfl)) ?_ | refine AI [72,74] Z Z (fun _=>AB (Bi Z Z (IntWalk.i64_in _ (by omega)) rfl)) ?_
   refine Fw [68,71] [2] [(76,_)] Z Z (fun _=>Fx (Gi (st3 (P6 (K8 N i.pa[m]) i.pa[m]) i.pa[m]) (E2 i.pa[m].t) (0) Z Z Z El Ch Nk Z Z)) (.inr ⟨76,_,rfl,rfl,rfl,rfl,rfl⟩) Z Z Z Z Z ?_ (hCn:=PI rfl)
   first | refine AE [76] [] Z Z (fun _=>AB (BT Z Z Z)) ?_ | refine AI [76] Z Z (fun _=>AB (BT Z Z Z)) ?_ | refine AE [76] [] Z Z (fun _=>AB (BS Z Z Z)) ?_ | refine AI [76] Z Z (fun _=>AB (BS Z Z Z)) ?_
   refine GZ 10 Z Z Z (BD 11 Z Z (U (Gj (st3 (P6 (K8 N i.pa[m]) i.pa[m]) i.pa[m]) (E2 i.pa[m].t) (0) (Ad (st3 (P6 (K8 N i.pa[m]) i.pa[m]) i.pa[m]) (E2 i.pa[m].t) 0+i.pa[m].n) Z Z Z Ch Z Z) (AH ⟨rfl,?_⟩)));refine GY (AJ (J (Bi Z Z (A6 (m+1) (by omega)) rfl) (AC Z Z (AH ?_))));exact ⟨(m+1,_),⟨by show m+1≤_;omega,by show _=sumL (I9 i.po++LO (i.pa.take (m+1)));rw [WE hm1,←List.append_assoc];exact (Wu hN).2.2.2⟩,by show i.pa.length - (m+1)<i.pa.length - m;omega,BP hF [2] rfl (rfl) ⟨rfl,rfl,rfl,rfl,trivial⟩⟩
  ·refine C6 (AF (AJ (AC Z Z (AD Z Z (AH (Af ?_))))));exact ⟨_,[2],_,Ae rfl,rfl,rfl,rfl,by rw [hN,List.take_of_length_le (by have h:=h31;omega)]<;>rfl⟩
end Go.Proofs.YtnkkaeblokdifaaGreat
