/- Laws as rows: arguments opened by their types, and a contract over frozen data. -/
import Derived.Test.YtlmedakidpaeeaaMg13
import Derived.SizedLaws
namespace Go.Proofs.Ytlmedakidpaeeaa
open Go.ChangeShapes Go.WideShapes Go.ChangeAt Go.RowKit Go.Deep
abbrev noB:Nat ->Prop:=fun _=>False
def K4 (w:World) (d:D) (cs:List Value):Prop:=cs.length=d.cells.length∧(∀c∈d.cells,c.one=true)∧∀(j:Nat) c u,d.cells[j]?=some c ->cs[j]?=some u ->AK w noB c u
theorem NP {w:World} {d:D} {u:Value} (hd:d.one=true) (h:AK w noB d u):K4 w d [u]:=by
 rw [K4,D.cells_one hd];refine ⟨rfl,by simp [hd],fun j c u' hc hu=>?_⟩
 cases j with
 | zero=>simp at hc hu;subst hc hu;exact h
 | succ j=>simp at hc
theorem K4.arg1 {w:World} {ρ:Nat ->Nat ->Value} {O:Nat ->Prop} {d:D} {v:Value} (hO:O=noB) (hd:d.one=true) (hv:v.oneCell'=true) (h:K4 w d v.cells.toList):AJ w O ρ (.d d) v:=by
 subst hO;have hc:v.cells.toList=[v]:=by cases v<;>first | rfl | cases hv
 rw [hc,K4,D.cells_one hd] at h;exact .d (h.2.2 0 d v Z Z)
section
variable {H:Type} {enc:TypeId×Value ->H} {P:Program} {w:World}
def Lm {α:Type} (enc:TypeId×Value ->H) (P:Program) (w:World) (t:TypeId) (k:Nat) (emb:α ->D) (Q:α ->Prop):Prop:=
 ∀fuel cs x,DataW.trod enc P w 0 (fun _=>true) true fuel t cs=some x ->(∀p∈x.2,p.block<w.heap.size) ->(∀n∈x.1.weights P t,n≤reachBytes) ->∃a,Q a∧(emb a).cells.length=k∧K4 w (emb a) cs
theorem L0 {t:TypeId} {k:IntKind} (ht:P.underlying t=some (.int k)):Lm enc P w t 1 (fun z:Int=> .raw (.int k z)) (fun z=>k.min≤z∧z≤k.max):=fun fuel cs x h _ _=>by
 obtain ⟨z,rfl,_,hw⟩:=DataW.trod_int ht h;simp only [Lit.wf,Bool.and_eq_true,decide_eq_true_eq] at hw;exact ⟨z,hw,rfl,NP rfl (.raw rfl)⟩
theorem Lm.as {α β:Type} {t:TypeId} {k:Nat} {emb:α ->D} {Q:α ->Prop} {emb':β ->D} {Q':β ->Prop} (h:Lm enc P w t k emb Q) (f:α ->β) (he:∀a,emb a=emb' (f a)) (hq:∀a,Q a ->Q' (f a)):Lm enc P w t k emb' Q':=fun fuel cs x hx hlt hwt=>by
 obtain ⟨a,h1,h2,h3⟩:=h fuel cs x hx hlt hwt;exact ⟨f a,hq a h1,by rw [←he];exact h2,by rw [←he];exact h3⟩
end
theorem M8 {P:Program} {f:FuncId} {args:List AV} (h:Ex P f args (.raw (.bool true))) {w:World} {vs:List Value} (hl:vs.length=args.length) (hr:∀(i:Nat) a v,args[i]?=some a ->vs[i]?=some v ->AJ w noB (fun _ _=>undef) a v):
  Calls P f vs.toArray w fun e w'=>e= .returned (.bool true)∧Below w.heap.size w w':=by
 have hno:∀ρ b,¬AX ρ [] b:=fun ρ b ⟨_,_,_,h,_⟩=>by cases h
 let ρ:Nat ->Nat ->Value:=fun _ _=>undef
 let F:Fr:=Fr.mk none (.marks w.heap.size) w noB (AX ρ []) (BM ρ []) (fun b hb=>hb.elim) [] (fun _ _ _ h=>EN h)
 have hO:F.O ρ [] =noB:=funext fun b=>propext ⟨fun h=>h.elim id fun h=>(hno ρ b h).elim,fun h=>h.elim⟩
 have hheap:AY F [] ρ w:=⟨(fun f i o ho=>by cases ho),(fun f i f' i' o o' b ho=>by cases ho),fun b hb=>(hno ρ b hb).elim,rfl,rfl,rfl,Nat.le_refl _,fun _ _ _=>rfl,fun f i b hb=>BR hb,Nat.le_refl _⟩
 refine (h.2 F ρ vs Z Z ⟨rfl,rfl,rfl⟩ hheap hl (fun i a v ha hv=>by rw [hO];exact hr i a v ha hv)).mono fun e w' ⟨v,r,H',ρ',e1,⟨e2,e3⟩,hrep,hh'⟩=>?_;subst e1 e2 e3;refine ⟨?_,hh'.os,hh'.tape,hh'.output,hh'.size0,fun b hlt=>hh'.keep b hlt (hno ρ b)⟩
 cases hrep with
 | d hrep=>
  cases hrep with
  | raw _=>rfl
end Go.Proofs.Ytlmedakidpaeeaa
