/- Laws as rows: arguments opened by their types, and a contract over frozen data. -/
import Derived.Test.YtlmedakidpaeeaaMg13
import Derived.SizedLaws
namespace Go.Proofs.Ytlmedakidpaeeaa
open Go.ChangeShapes Go.WideShapes Go.ChangeAt Go.RowKit Go.Deep
abbrev noB:Nat ->Prop:=fun _=>False
def Kz (w:World) (d:D) (cs:List Value):Prop:=cs.length=d.cells.length∧(∀c∈d.cells,c.one=true)∧∀(j:Nat) c u,d.cells[j]?=some c ->cs[j]?=some u ->AK w noB c u
theorem JY {w:World} {d:D} {u:Value} (hd:d.one=true) (h:AK w noB d u):Kz w d [u]:=by
 rw [Kz,D.cells_one hd];refine ⟨rfl,by simp [hd],fun j c u' hc hu=>?_⟩
 cases j with
 | zero=>simp at hc hu;subst hc hu;exact h
 | succ j=>simp at hc
theorem Kz.argS {w:World} {ρ:Nat ->Nat ->Value} {O:Nat ->Prop} {ds:List D} {cs:Array Value} (hO:O=noB) (h:Kz w (.agg ds) (Value.agg cs).cells.toList):AJ w O ρ (.d (.agg ds)) (.agg cs):=by
 subst hO;obtain ⟨h1,h2,h3⟩:=h;have:=AK.agg (w:=w) (O:=noB) (cs:=ds) (vs:=cs.toList) h1 h2 h3;exact .d (by simpa using this)
section
variable {H:Type} {enc:TypeId×Value ->H} {P:Program} {w:World}
def CB {α:Type} (enc:TypeId×Value ->H) (P:Program) (w:World) (t:TypeId) (k:Nat) (emb:α ->D) (Q:α ->Prop):Prop:=
 ∀fuel cs x,DataW.trod enc P w 0 (fun _=>true) true fuel t cs=some x ->(∀p∈x.2,p.block<w.heap.size) ->(∀n∈x.1.weights P t,n≤reachBytes) ->∃a,Q a∧(emb a).cells.length=k∧Kz w (emb a) cs
theorem openInt {t:TypeId} {k:IntKind} (ht:P.underlying t=some (.int k)):CB enc P w t 1 (fun z:Int=> .raw (.int k z)) (fun z=>k.min≤z∧z≤k.max):=fun fuel cs x h _ _=>by
 obtain ⟨z,rfl,_,hw⟩:=DataW.trod_int ht h;simp only [Lit.wf,Bool.and_eq_true,decide_eq_true_eq] at hw;exact ⟨z,hw,rfl,JY rfl (.raw rfl)⟩
theorem openStr {t:TypeId} (ht:P.underlying t=some .string):CB enc P w t 1 (fun s:ByteArray=> .raw (.string s)) (fun s=>s.size≤140737488351232):=fun fuel cs x h _ hw=>by
 obtain ⟨s,rfl,rfl,hs⟩:=DataW.trod_string ht h;exact ⟨s,by simpa [DataW.weights,reachBytes] using hw,rfl,JY rfl (.raw rfl)⟩
def JE {α:Type} (enc:TypeId×Value ->H) (P:Program) (w:World) (off total:Nat) (fs:List Field) (emb:α ->List D) (Q:α ->Prop):Prop:=
 ∀n (cs:List Value),cs.length=total ->(∀(i:Nat) f,fs[i]?=some f ->∃x,DataW.trod enc P w 0 (fun _=>true) true n f.type ((cs.drop f.offset).take (P.cellsOf f.type))=some x∧(∀p∈x.2,p.block<w.heap.size)∧∀n∈x.1.weights P f.type,n≤reachBytes)→
  ∃a,Q a∧off+(emb a).length=total∧(∀c∈emb a,c.one=true)∧∀(j:Nat) c u,(emb a)[j]?=some c ->cs[off+j]?=some u ->AK w noB c u
theorem NW {total:Nat}:JE enc P w total total [] (fun _:Unit=> []) (fun _=>True):=fun n cs _ _=>⟨(),trivial,rfl,by simp,by simp⟩
theorem HA {α β:Type} {off k total:Nat} {f:Field} {fs:List Field} {emb:α ->D} {embs:β ->List D} {Q:α ->Prop} {Qs:β ->Prop} (ho:f.offset=off) (hk:P.cellsOf f.type=k) (h1:CB enc P w f.type k emb Q) (h2:JE enc P w (off+k) total fs embs Qs):
  JE enc P w off total (f::fs) (fun a:α×β=>(emb a.1).cells++embs a.2) (fun a=>Q a.1∧Qs a.2):=fun n cs hcs hf=>by
 obtain ⟨x,hx,hp,hwt⟩:=hf 0 f rfl;obtain ⟨a,q1,q2,q3⟩:=h1 _ _ _ hx hp hwt;obtain ⟨b,r1,r2,r3,r4⟩:=h2 n cs hcs (fun i g hg=>hf (i+1) g (by simpa using hg));rw [ho,hk] at q3;refine ⟨(a,b),⟨q1,r1⟩,by simp only [List.length_append,q2];omega,fun c hc=>?_,fun j c u hc hu=>?_⟩
 ·rcases List.mem_append.1 hc with hc | hc
  ·exact q3.2.1 c hc
  ·exact r3 c hc
 ·rcases Nat.lt_or_ge j k with hj | hj
  ·rw [List.getElem?_append_left (by rw [q2];exact hj)] at hc;exact q3.2.2 j c u hc (by rw [List.getElem?_take,if_pos hj,List.getElem?_drop];exact hu)
  ·rw [List.getElem?_append_right (by rw [q2];exact hj),q2] at hc;exact r4 (j - k) c u hc (by rw [show off+k+(j - k)=off+j by omega];exact hu)
theorem NV {α:Type} {t:TypeId} {fs:Array Field} {k:Nat} {embs:α ->List D} {Q:α ->Prop} (ht:P.underlying t=some (.struct fs)) (hk:P.cellsOf t=k) (h:JE enc P w 0 k fs.toList embs Q):CB enc P w t k (fun a=> .agg (embs a)) Q:=fun fuel cs x hx hlt hwt=>by
 obtain ⟨xs,n,_,rfl,hl,hlen,hf⟩:=DataW.trod_struct ht hx
 obtain ⟨a,q1,q2,q3,q4⟩:=h n cs (by rw [hl,hk]) (fun i f hi=>by
  have hi':fs[i]?=some f:=by simpa using hi
  have hlt':i<xs.length:=by rw [hlen];exact (Array.getElem?_eq_some_iff.1 hi').1
  refine ⟨xs[i],by rw [hf i f hi'];exact List.getElem?_eq_getElem hlt',fun p hp=>hlt p (List.mem_flatMap.2 ⟨_,List.getElem_mem hlt',hp⟩),fun n hn=>hwt n ?_⟩;simp only [DataW.weights,ht]
  refine DataW.weights_mem_each (j:=i) (t:=f.type) (d:=xs[i].1) (by rw [List.getElem?_map];simp [hi']) (by rw [List.getElem?_map,List.getElem?_eq_getElem hlt'];rfl) n hn)
 rw [Nat.zero_add] at q2;exact ⟨a,q1,q2,by show cs.length=_;rw [hl,hk];exact q2.symm,q3,fun j c u hc hu=>q4 j c u hc (by rw [Nat.zero_add];exact hu)⟩
theorem CB.as {α β:Type} {t:TypeId} {k:Nat} {emb:α ->D} {Q:α ->Prop} {emb':β ->D} {Q':β ->Prop} (h:CB enc P w t k emb Q) (f:α ->β) (he:∀a,emb a=emb' (f a)) (hq:∀a,Q a ->Q' (f a)):CB enc P w t k emb' Q':=fun fuel cs x hx hlt hwt=>by
 obtain ⟨a,h1,h2,h3⟩:=h fuel cs x hx hlt hwt;exact ⟨f a,hq a h1,by rw [←he];exact h2,by rw [←he];exact h3⟩
end
theorem ML {P:Program} {f:FuncId} {args:List AV} (h:As P f args (.raw (.bool true))) {w:World} {vs:List Value} (hl:vs.length=args.length) (hr:∀(i:Nat) a v,args[i]?=some a ->vs[i]?=some v ->AJ w noB (fun _ _=>undef) a v):
  Calls P f vs.toArray w fun e w'=>e= .returned (.bool true)∧Below w.heap.size w w':=by
 have hno:∀ρ b,¬AY ρ [] b:=fun ρ b ⟨_,_,_,h,_⟩=>by cases h
 let ρ:Nat ->Nat ->Value:=fun _ _=>undef
 let F:Fr:=Fr.mk none (.marks w.heap.size) w noB (AY ρ []) (BS ρ []) (fun b hb=>hb.elim) [] (fun _ _ _ h=>E0 h)
 have hO:F.O ρ [] =noB:=funext fun b=>propext ⟨fun h=>h.elim id fun h=>(hno ρ b h).elim,fun h=>h.elim⟩
 have hheap:AZ F [] ρ w:=⟨(fun f i o ho=>by cases ho),(fun f i f' i' o o' b ho=>by cases ho),fun b hb=>(hno ρ b hb).elim,rfl,rfl,rfl,Nat.le_refl _,fun _ _ _=>rfl,fun f i b hb=>BZ hb,Nat.le_refl _⟩
 refine (h.2 F ρ vs Z Z ⟨rfl,rfl,rfl⟩ hheap hl (fun i a v ha hv=>by rw [hO];exact hr i a v ha hv)).mono fun e w' ⟨v,r,H',ρ',e1,⟨e2,e3⟩,hrep,hh'⟩=>?_;subst e1 e2 e3;refine ⟨?_,hh'.os,hh'.tape,hh'.output,hh'.size0,fun b hlt=>hh'.keep b hlt (hno ρ b)⟩
 cases hrep with
 | d hrep=>
  cases hrep with
  | raw _=>rfl
end Go.Proofs.Ytlmedakidpaeeaa
