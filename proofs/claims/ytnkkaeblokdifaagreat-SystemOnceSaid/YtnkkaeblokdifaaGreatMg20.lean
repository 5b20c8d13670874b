/- The kit's contract of slices.Sort at integers as a contract over an owned row. No program in sight. -/
import Derived.Test.YtnkkaeblokdifaaGreatMg19
import Derived.Shelf.SortG.Plain
import Derived.Shelf.SortG.SortNone
namespace Go.Proofs.YtnkkaeblokdifaaGreat
open Go.RowKit Go.Shelf
open Go.Sort (putRow Holds putCells)
def Cq (l:List Int):List Int:=l.mergeSort fun x y=>decide (x≤y)
theorem Zc2 (l:List Int):(Cq l).Perm l:=List.mergeSort_perm l _
theorem GC (l:List Int):(Cq l).length=l.length:=(Zc2 l).length_eq
theorem Gk (l:List Int):(Cq l).Pairwise (· ≤ ·):=by
 have:=List.pairwise_mergeSort (le:=fun x y:Int=>decide (x≤y)) (fun a b c h1 h2=>by simp only [decide_eq_true_eq] at*;omega) (fun a b=>by simp only [Bool.or_eq_true,decide_eq_true_eq];omega) l;exact this.imp fun h=>by simpa using h
abbrev zD (z:Int):D:= .raw (.int .i64 z)
variable {P:Program} {ρr:Ren}
theorem Qi (L:SlLaysN.n53 P ρr) {E:TypeId} {g53:FuncId} (xs:List Int) (hsz:xs.length<4611686018427387904) {F:Fr} {s:AS} {d:Nat} {x:Operand} {ty:TypeId} {pos:String} {aft:Array Edge} {gd:Option (Nat×Bool)} {at_:Array TypeId} {f n:Nat} {row:List D} {hp':Hp}
  (hg:ρr.f 53=g53) (hx:s.ev x=some (.own f 0 n)) (ho:hget s.hp f 0=some (.rowD E 1 row)) (hrow:row=xs.map zD) (hn:n=xs.length) (hh:B9 s.hp f 0 (.rowD E 1 ((Cq xs).map zD))=some hp') (hd:Nat.blt d s.n=true):
  AL P F ⟨some d,.call {callee:= .value (.func g53),args:= #[x],argTypes:=at_},ty,pos,aft,gd⟩ s ⟨s.n,(d,.d (.tup []))::s.env,hp'⟩ (fun _ _=>true):=by
 subst hg hrow hn;intro ρ act w hs
 obtain ⟨fn6,hf1,hf2,hf3⟩:∃fn,P.funcs[ρr.f 53]?=some fn∧(fn.name== "runtime.NumGoroutine")=false∧fn.body.isSome=true:=by
  obtain ⟨nm,hn,hf⟩:=L.f53;exact ⟨_,hf,hn,rfl⟩
 unfold Oper.wp;rw [show (#[x]:Array Operand)=[x].toArray from rfl,EY hf1 hf2 hf3,Oper.upon_enter]
 suffices key:Calls P (ρr.f 53) ([x].map act.eval).toArray w fun e w'=>e= .returned (.tuple #[])∧SR F ⟨s.n,s.env,hp'⟩ ρ act w' by
  refine key.mono fun e w' ⟨e1,hsr⟩=>?_;subst e1;exact ⟨ρ,hsr.put (J5 hd) (.d (.tup rfl fun i c v hc=>by cases hc)),fun _ _ _=>rfl⟩
 have r0:=hs.ev hx;have hg0:=ho;have h3:=hs.heap;have hset:=BA hh;obtain ⟨us,q1,q2,q3⟩:=h3.sim f 0 _ hg0;show Calls P (ρr.f 53) #[act.eval x] w _
 generalize act.eval x=V0 at r0
 cases r0 with
 | own hρ hle=>
  rename_i N cap a
  by_cases hx:xs=[]
  ·subst hx;refine (AnyG.slices_Sort_int_none L a cap w).mono fun e w' ⟨e1,e2⟩=>?_;subst e1 e2;refine ⟨rfl,hs.writeG f 0 _ _ ho hset Z Z Z (Nat.le_refl _) (Nat.le_refl _) (fun _ _ _=>rfl) (fun _ _ e=>by cases e) fun hrep=>?_⟩;have h0:Cq []=[]:=by simp [Cq]
   rw [h0];exact ⟨us,q1,⟨by simpa using q2.1,fun x hx=>(by cases hx),fun i x hx=>by simp at hx⟩,fun x hx=>(by cases hx)⟩
  ·have hn:0<xs.length:=List.length_pos_iff.2 hx;have hul:us.length=xs.length:=by have:=q2.1;rw [List.length_map] at this;omega
   have hblkeq:∃b cur,a=some ⟨b,0,none⟩∧w.heap[b]?=some (.cells cur E (0,0))∧cur.size=cap∧xs.length≤cap∧cap≤maxLen∧cur.toList.take xs.length=us∧N=xs.length:=by
    rcases q1.2 with ⟨_,h⟩ | ⟨b,cap',cur,e1,_,e2,e3,e4,e5,e6⟩
    ·rw [List.length_map] at h;omega
    ·rw [hρ] at e1;injection e1 with e1 e7 e8
     subst e1 e8;rw [List.length_map] at e3 e6 e7;exact ⟨b,cur,rfl,e2,by omega,e3,e4,by rw [Nat.mul_one] at e6;exact e6,e7⟩
   obtain ⟨b,cur,rfl,p1,p2,p3,p3',p4,rfl⟩:=hblkeq;have hb:CP (ρ f 0)=some b:=by rw [hρ];rfl
   have hlt:b<w.heap.size:=(Array.getElem?_eq_some_iff.1 p1).1
   have hus:∀i (hi:i<xs.length),us[i]?=some (.int .i64 xs[i]):=fun i hi=>by
    have hm:(xs.map zD)[i]?=some (zD xs[i]):=by rw [List.getElem?_map,List.getElem?_eq_getElem hi];rfl
    obtain ⟨u,hu,_,hr⟩:=q2.2.2 i _ hm 0 (zD xs[i]) rfl;rw [Nat.mul_one,Nat.add_zero] at hu
    cases hr with
    | raw _=>exact hu
   have hH:Holds (Value.int .i64) w b 0 xs.toArray:=by
    intro j hj;have hj:j<xs.length:=by simpa using hj
    refine ⟨?_,?_⟩
    ·have hju:us[j]?=cur.toList[j]?:=by rw [←p4,List.getElem?_take_of_lt hj]
     simp only [World.cell?,p1,Nat.zero_add];have h1:=hus j hj;rw [hju] at h1;rw [getElem!_pos _ j (by simpa using hj)];have hjc:j<cur.size:=by simpa using (List.getElem?_eq_some_iff.1 h1).1
     simp only [List.getElem_toArray]
     simp [hjc] at h1⊢
     exact h1
    ·simp only [World.frozen?,p1];simp
   have key:=AnyG.slices_Sort_int L b 0 cap xs w hH hlt hsz;refine key.mono fun e w' ⟨e1,nd,os,hw⟩=>?_;subst e1 hw
   obtain ⟨ys,hys⟩:∃ys,Cq xs=ys:=⟨_,rfl⟩
   have hys':(xs.mergeSort fun x y=>decide (x≤y))=ys:=hys;have hyl:ys.length=xs.length:=by rw [←hys,GC]
   rw [hys] at hset hh;rw [hys'];refine ⟨rfl,?_⟩;have hsz2:((putRow (Value.int .i64) (Go.Sort.ahead w nd) b 0 ys.toArray)).heap.size=w.heap.size:=by rw [Go.Sort.size_putRow];rfl
   have hoth:∀b',b'<w.heap.size ->b'≠b ->(Go.Sort.grow (putRow (Value.int .i64) (Go.Sort.ahead w nd) b 0 ys.toArray) os).heap[b']?=w.heap[b']?:=fun b' hl hne=>by
    rw [Go.Sort.heap_grow_old _ _ (by rw [hsz2];exact hl)];show (w.heap.modify b _)[b']?=_;rw [Array.getElem?_modify,if_neg (Ne.symm hne)]
   refine hs.writeG f 0 _ _ ho hset Z Z Z (by rw [Go.Sort.size_grow,hsz2];exact Nat.le_add_right _ _) (Nat.le_add_right _ _) (fun b' hl hno=>hoth b' hl (fun e=>hno (by rw [e];exact hb))) (fun _ _ e=>by cases e) fun hrep=>?_
   have hheap:(Go.Sort.grow (putRow (Value.int .i64) (Go.Sort.ahead w nd) b 0 ys.toArray) os).heap[b]?=some (.cells (putCells (Value.int .i64) 0 ys.toArray cur) E (0,0)):=by
    rw [Go.Sort.heap_grow_old _ _ (by rw [hsz2];exact hlt)];show (w.heap.modify b _)[b]?=_;rw [Array.getElem?_modify,if_pos rfl,p1];rfl
   have hcs:(putCells (Value.int .i64) 0 ys.toArray cur).size=cap:=by simp only [putCells,Array.size_mapIdx];exact p2
   have hyl2:(ys.map zD).length=xs.length:=by rw [List.length_map,hyl]
   refine ⟨ys.map (Value.int .i64),⟨by rw [List.length_map,hyl2,hyl,Nat.mul_one],.inr ⟨b,cap,_,by rw [hρ,hyl2],Nat.zero_le _,hheap,by rw [hyl2];exact p3,p3',by omega,?_⟩⟩,⟨by rw [List.length_map,hyl2,hyl,Nat.mul_one],fun x hx2=>?_,fun i x hx2 j c hc2=>?_⟩,fun x hx2 c hc2=>?_⟩
   ·rw [hyl2,Nat.mul_one]
    apply List.ext_getElem?
    intro i
    by_cases hi:i<xs.length
    ·rw [List.getElem?_take_of_lt hi,Array.getElem?_toList,List.getElem?_map,List.getElem?_eq_getElem (by omega),Array.getElem?_eq_getElem (by omega)];simp only [putCells,Array.getElem_mapIdx];rw [if_pos ⟨Nat.zero_le _,by simp;omega⟩];simp only [Nat.sub_zero,Option.map_some];rw [getElem!_pos _ i (by simp;omega)]
     simp
    ·rw [List.getElem?_eq_none (by rw [List.length_take];omega),List.getElem?_eq_none (by rw [List.length_map];omega)]
   ·obtain ⟨y,_,rfl⟩:=List.mem_map.1 hx2;rfl
   ·rw [List.getElem?_map] at hx2
    cases hyi:ys[i]? with
    | none=>rw [hyi] at hx2;cases hx2
    | some y=>
     rw [hyi] at hx2;injection hx2 with hx2;subst hx2
     have hj0:j=0:=by have:=(List.getElem?_eq_some_iff.1 hc2).1;simp [D.cells] at this;exact this
     subst hj0;simp only [D.cells,List.getElem?_cons_zero,Option.some.injEq] at hc2;subst hc2;exact ⟨.int .i64 y,by rw [Nat.mul_one,Nat.add_zero,List.getElem?_map,hyi];rfl,rfl,.raw rfl⟩
   ·obtain ⟨y,_,rfl⟩:=List.mem_map.1 hx2;simp only [D.cells,List.mem_singleton] at hc2;subst hc2;rfl
end Go.Proofs.YtnkkaeblokdifaaGreat
/- Layer 29: the analysis of a problem; sets of its items. -/
namespace Go.Proofs.YtnkkaeblokdifaaGreat
open Go.RowKit
set_option maxRecDepth 100000
section
variable {P:Program} {F:Fr} {s:AS} {α β:Type} [DecidableEq α] {eK:α ->D} {eV:β ->D} {K:TypeId} {kv:α ->Value} {d:Nat} {ty T E:TypeId} {pos:String} {aft:Array Edge} {g:Option (Nat×Bool)} {x y z:Operand} {bs:Option (List Nat×Nat)}
theorem Jl (m:List (α×β)) (a:α) (b0 v:β) {x0:D} {f i:Nat} (hx:s.ev x=some (.map f i)) (ho:hget s.hp f i=some (.map bs (CB eK eV m))) (hy:s.ev y=some (.d (eK a))) (hT:CV P T K E=true) (KT:Bs P K eK kv) (hz:FA P E=some (.d x0)) (hw:∀w O v,AX w O x0 v ->AX w O (eV b0) v) (hv:Ad m a b0=v) (hd:Nat.blt d s.n=true):
  AA P F ⟨some d,.lookup T x y false,ty,pos,aft,g⟩ s d (.d (eV v)):=
 CX _ hd fun ρ act w hs=>by
  obtain ⟨mb,arr,c,e1,_,h1,h2,h3,_⟩:=hs.mapAt hx ho;have hk:act.eval y=kv a:=(hs.repD hy).val (KT.val a);obtain ⟨zv,hz1,hz2⟩:=F3 hz w
  have hz3:∀w' O ρ,A3 w' O ρ (.d (eV b0)) zv:=fun w' O ρ=>by
   have:=hz2 w' O ρ
   cases this with
   | d h=>exact .d (hw _ _ _ h)
  subst hv;rcases hit_get KT h2 h3 a b0 with ⟨g1,_,g3,_⟩ | ⟨j,e,g1,g2,_,_,_,_,g7⟩
  ·refine ⟨zv,?_,by rw [g3];exact hz3 _ _ _⟩
   simp [execOp,Instr.lookup,run_underlying (ZC hT),e1,hk,MapKept.run_getObj_map h1,KT.check,KT.find w a _ _ (Zdb KT h2 h3),g1,hz1,Result.andThen]
  ·refine ⟨e.val,?_,.d g7⟩
   simp [execOp,Instr.lookup,run_underlying (ZC hT),e1,hk,MapKept.run_getObj_map h1,KT.check,KT.find w a _ _ (Zdb KT h2 h3),g1,Result.andThen]
theorem M7 (m:List (α×β)) (a:α) (b0:β) {x0:D} {f i:Nat} (hx:s.ev x=some (.map f i)) (ho:hget s.hp f i=some (.map bs (CB eK eV m))) (hy:s.ev y=some (.d (eK a))) (hT:CV P T K E=true) (KT:Bs P K eK kv) (hz:FA P E=some (.d x0)) (hw:∀w O v,AX w O x0 v ->AX w O (eV b0) v) (hd:Nat.blt d s.n=true):
  AA P F ⟨some d,.lookup T x y true,ty,pos,aft,g⟩ s d (.tup [.d (eV (Ad m a b0)),.d (.raw (.bool (Pw m a)))]):=
 CX _ hd fun ρ act w hs=>by
  obtain ⟨mb,arr,c,e1,_,h1,h2,h3,_⟩:=hs.mapAt hx ho;have hk:act.eval y=kv a:=(hs.repD hy).val (KT.val a);obtain ⟨zv,hz1,hz2⟩:=F3 hz w
  have hz3:∀w' O ρ,A3 w' O ρ (.d (eV b0)) zv:=fun w' O ρ=>by
   have:=hz2 w' O ρ
   cases this with
   | d h=>exact .d (hw _ _ _ h)
  have tup2:∀{v1 v2:Value} {a1 a2:AV},A3 w (F.O ρ s.hp) ρ a1 v1 ->A3 w (F.O ρ s.hp) ρ a2 v2 ->A3 w (F.O ρ s.hp) ρ (.tup [a1,a2]) (.tuple #[v1,v2]):=fun {v1 v2 a1 a2} h1 h2=>by
   refine .tup (vs:=[v1,v2]) rfl fun i a v ha hv=>?_;rcases i with _ | _ | i
   ·simp at ha hv;subst ha hv;exact h1
   ·simp at ha hv;subst ha hv;exact h2
   ·simp at ha
  rcases hit_get KT h2 h3 a b0 with ⟨g1,g2,g3,_⟩ | ⟨j,e,g1,g2,_,g4,_,_,g7⟩
  ·refine ⟨.tuple #[zv,.bool false],?_,tup2 (by rw [g3];exact hz3 _ _ _) (by rw [g2];exact .d (.raw rfl))⟩
   simp [execOp,Instr.lookup,run_underlying (ZC hT),e1,hk,MapKept.run_getObj_map h1,KT.check,KT.find w a _ _ (Zdb KT h2 h3),g1,hz1,Result.andThen]
  ·refine ⟨.tuple #[e.val,.bool true],?_,tup2 (.d g7) (by rw [g4];exact .d (.raw rfl))⟩
   simp [execOp,Instr.lookup,run_underlying (ZC hT),e1,hk,MapKept.run_getObj_map h1,KT.check,KT.find w a _ _ (Zdb KT h2 h3),g1,Result.andThen]
end
theorem Dr:∀w O v,AX w O (.agg [AG 0,AG 0,AG 0,.sl (some true) [],.sl (some true) [],.sl (some true) []]) v ->AX w O (Aw itm0) v:=fun w O v h=>h.aggMono rfl (by simp [D.one]) fun i c c' hc hc' v hv=>by
 match i,hc,hc' with
 | 0,hc,hc'=>injection hc with hc;injection hc' with hc';subst hc hc';exact hv
 | 1,hc,hc'=>injection hc with hc;injection hc' with hc';subst hc hc';exact hv
 | 2,hc,hc'=>injection hc with hc;injection hc' with hc';subst hc hc';exact hv
 | 3,hc,hc'=>injection hc with hc;injection hc' with hc';subst hc hc';exact hv.anyNil
 | 4,hc,hc'=>injection hc with hc;injection hc' with hc';subst hc hc';exact hv.anyNil
 | 5,hc,hc'=>injection hc with hc;injection hc' with hc';subst hc hc';exact hv.anyNil
def Vm (l:List Roo):List Roo:=l.mergeSort fun a b=>decide (CE a.r b.r≤0)
theorem Zda (l:List Roo):(Vm l).Perm l:=List.mergeSort_perm l _
theorem YH (l:List Roo):(Vm l).length=l.length:=(Zda l).length_eq
theorem cmpR_le {a b c:A4} (h1:CE a b≤0) (h2:CE b c≤0):CE a c≤0:=by
 by_cases e1:CE a b=0
 ·rw [Dx.1 e1];exact h2
 ·by_cases e2:CE b c=0
  ·rw [←Dx.1 e2];exact h1
  ·have:=OD.trans a b c (by omega) (by omega);omega
theorem L6 (l:List Roo):(Vm l).Pairwise fun a b=>¬CE b.r a.r<0:=by
 have:=List.pairwise_mergeSort (le:=fun a b:Roo=>decide (CE a.r b.r≤0)) (fun a b c h1 h2=>by simp only [decide_eq_true_eq] at*;exact cmpR_le h1 h2) (fun a b=>by simp only [Bool.or_eq_true,decide_eq_true_eq];have:=OD.anti a.r b.r;omega) l
 exact this.imp fun {a b} h=>by
  have h':CE a.r b.r≤0:=by simpa using h
  have:=OD.anti a.r b.r;omega
theorem UI {γ:Type} (f:γ ->A4) {l m ys:List γ} (hn:(l.map f).Nodup) (hm:m.Perm l) (hms:m.Pairwise fun a b=>¬CE (f b) (f a)<0) (h1:ys.Perm l) (h2:ys.Pairwise fun a b=>¬CE (f b) (f a)<0):ys=m:=by
 have st:∀{k:List γ},(k.map f).Nodup ->(k.Pairwise fun a b=>¬CE (f b) (f a)<0) ->k.Pairwise fun a b=>CE (f a) (f b)<0:=fun {k} hn h=>by
  rw [List.Nodup,List.pairwise_map] at hn;refine (h.and hn).imp fun {a b} ⟨g1,g2⟩=>?_;have h1:=OD.anti (f a) (f b);have h2:CE (f a) (f b)≠0:=fun e=>g2 (Dx.1 e);omega
 exact Di (R:=fun a b=>CE (f a) (f b)<0) (fun x=>by rw [OD.refl];omega) (fun x y z=>OD.trans _ _ _) (st ((h1.map f).nodup_iff.2 hn) h2) (st ((hm.map f).nodup_iff.2 hn) hms) fun x=>by rw [h1.mem_iff,hm.mem_iff]
structure Lin where
 r:A4
 n:Int
 q:List Int
abbrev LB (x:Lin):D:= .agg [AG x.r.k,As x.r.acc.o,AG x.r.acc.k,As x.r.acc.a,As x.r.f,As x.r.t,AG x.n,.sl none (x.q.map AG)]
theorem YJ (x:Lin):∃cs,LB x= .agg cs:=⟨_,rfl⟩
def D0 (p:Prb) (x:Roo):Lin:=⟨x.r,max x.n 0,qIds (ordP p) x.r⟩
def linL (p:Prb):List Lin:=(Vm p.ro).map (D0 p)
theorem FO (p:Prb):(linL p).length=p.ro.length:=by unfold linL;rw [List.length_map,YH]
theorem H4 {l:List Roo} (h:Ce l=0):(l.map Roo.r).Nodup:=by
 have h0:=PP.1 h;rw [List.Nodup,List.pairwise_map,List.pairwise_iff_getElem];intro i j hi hj hij e;have:=h0 j (List.mem_range.2 hj);unfold Lt at this;rw [Bg DC hj] at this
 split at this
 ·contradiction
 ·split at this
  ·cases this
  ·split at this
   ·cases this
   ·rename_i hn;exact hn (NH hj hij e)
theorem lin_one {p:Prb} (hp:Ak p=0) {ys:List Lin} (h1:ys.Perm (p.ro.map (D0 p))) (h2:ys.Pairwise fun a b=>¬CE b.r a.r<0):ys=linL p:=by
 refine UI Lin.r (l:=p.ro.map (D0 p)) ?_ ((Zda p.ro).map _) ?_ h1 h2
 ·rw [List.map_map];exact H4 (Ia hp).1
 ·unfold linL;rw [List.pairwise_map];exact L6 p.ro
theorem ana1_p (a b:Lin):AU Tryz.prog 117 [.d (LB a),.d (LB b)] (AG (CE a.r b.r)):=by
 refine BY Tryz.func117 Z Z Tryz.ntmps117 Z Z Z fun F hF=>(AF (AJ (U (CJ 1 Z Z Z Z Z Z Z) (U (CJ 2 Z Z Z Z Z Z Z) (AD Z Z (AH (AF (AJ ?_))))))))
 first | refine J (AO rfl Ge Z Z Z) ?_ | refine J (AQ rfl Ge Z Z Z) ?_ | refine J (AR rfl Ge Z Z Z) ?_ | refine J (AP rfl Ge Z Z Z) ?_ | refine J (AN rfl Ge Z Z Z) ?_
 first | refine J (An Z Z Ab rfl) ?_ | refine J (Ao Z Z Ab Z Z Z) ?_ | refine J (Ap Z Z (rfl) rfl Ab rfl) ?_
 first | refine J (AO rfl Ge Z Z Z) ?_ | refine J (AQ rfl Ge Z Z Z) ?_ | refine J (AR rfl Ge Z Z Z) ?_ | refine J (AP rfl Ge Z Z Z) ?_ | refine J (AN rfl Ge Z Z Z) ?_
 first | refine J (An Z Z Ab rfl) ?_ | refine J (Ao Z Z Ab Z Z Z) ?_ | refine J (Ap Z Z (rfl) rfl Ab rfl) ?_
 refine J (BF (LP a.r b.r) Z Z) (AD Z Z (AH (Af ?_)));exact ⟨_,[],[],Ae rfl,rfl,rfl,rfl,rfl⟩
def CD (l:List AT):List (Int×AT):=l.map fun i=>(i.id,i)
theorem TU {l:List AT} {i:AT} (h:i.id∉l.map AT.id):BO (CD l) i.id i=CD (l++ [i]):=by
 induction l with
 | nil=>rfl
 | cons a l ih=>
  rw [List.map_cons,List.mem_cons] at h;show BO ((a.id,a)::CD l) i.id i=(a.id,a)::CD (l++ [i]);rw [←ih (fun h'=>h (.inr h'))];simp only [BO];rw [if_neg (fun e=>h (.inl e))]
def encZ (x:Int):List AV:=[.d (AG x)]
section
variable {β:Type}
theorem seqZ_c (its:List Int) (hits:its.length≤1000000) (l:Nat) (H:β ->Hp) (N:List Nat) (step:β ->Int ->β×Bool) (st0:β) (hN:∀st,hpN (H st)=N) (hI:∀st,DV N (H st)=true) (hP:∀st,At (H st) N=some (H st))
  (hfe:Cv Tryz.prog l encZ H step st0 its):
  A8 Tryz.prog 164 [.d (.raw (CK l)),.d (.ptr (.sl none (its.map AG)))] (H st0) fun r H'=>r= .tup []∧H'=H (CA step st0 its):=by
 refine BY Tryz.func164 Z Z Tryz.ntmps164 Z Z Z fun F hF=>(AF (AJ ?_))
 first | refine J (A0 Z Z Aq rfl) ?_ | refine J (AY Z Z Z Aq rfl) ?_ | refine J (AZ Z Z (rfl) rfl Aq rfl) ?_
 first | refine J (Cc rfl Tryz.underlying33 rfl) ?_ | refine J (C8 Z Z Tryz.underlying33 rfl) ?_ | refine J (Cd rfl Tryz.underlying33 rfl) ?_ | refine J (Cb rfl Tryz.underlying33 rfl) ?_ | refine J (CW rfl Tryz.underlying33 rfl) ?_ | refine J (C9 rfl Tryz.underlying33 rfl) ?_
 refine AC Z Z (AH (Au (Dz (α:=Nat×β) (fun p=>⟨16,[(0,.d (.raw (CK l))),(5,(.d (.sl none (its.map AG)))),(6,(.d (AG (its.length:Int)))),(7,(.d (AG (p.1:Int))))],H p.2⟩) (fun p=>p.1≤its.length∧Cv Tryz.prog l encZ H step p.2 (its.drop p.1)∧CA step p.2 (its.drop p.1)=CA step st0 its) (fun p=>its.length - p.1) ((0,st0)) (⟨Nat.zero_le _,hfe,rfl⟩) (Ti ⟨rfl,rfl,rfl,rfl,trivial⟩) ?_)));rintro ⟨k,st⟩ ⟨hk0,hfd,hfin⟩;dsimp only at hk0 hfd hfin⊢;refine AF (AJ ?_)
 first | refine J (C7 Z Z Z) ?_ | refine J (Ca Z Z Z) ?_
 refine AH (AF ?_)
 first | refine BJ rfl (fun h8=>?_) (fun h8=>?_) | refine BB rfl (fun h8=>?_) (fun h8=>?_)
 ·have hk1:k<its.length:=DZ h8;refine Am (AF (Au (AF (AJ ?_))));have hA:its.drop k=its[k]::its.drop (k+1):=List.drop_eq_getElem_cons hk1;rw [hA] at hfd
  first | refine J (CY (k) Z Z (rfl) (A2 hk1) Tryz.underlying33 rfl Dh rfl) ?_ | refine J (CZ (k) Z Z (rfl) (A2 hk1) rfl Tryz.underlying33 Dh rfl) ?_
  first | refine J (A0 Z Z A9 rfl) ?_ | refine J (AY Z Z Z A9 rfl) ?_ | refine J (AZ Z Z (rfl) rfl A9 rfl) ?_
  refine AD Z Z (AH (AF (AJ (AC Z Z (AC Z Z (TJ [0,5,6,7,11,12] rfl (RP hfd.1 Z Z (by rw [hN,hN]) (by rw [hN];exact hI _) Z Z ?_)))))))
  first | refine J (F2 Z Z) ?_ | refine J (FT Z Z) ?_
  refine AH ?_
  first | refine BJ rfl (fun h14=>?_) (fun h14=>?_) | refine BB rfl (fun h14=>?_) (fun h14=>?_)
  ·have hgo:(step st its[k]).2=false:=by simpa using h14
   refine Af ?_;exact ⟨_,N,_,Ae rfl,hP _,by rw [←hN st0];exact ZD _,rfl,by rw [←hfin,hA,Td,if_neg (by rw [hgo];decide)]⟩
  ·have hgo:(step st its[k]).2=true:=by simpa using h14
   refine Am (AJ (J (Bi Z Z (A6 (k+1) (by omega)) rfl) (AC Z Z (AH ?_))));exact ⟨(k+1,(step st its[k]).1),⟨by show k+1≤_;omega,hfd.2 hgo,by rw [←hfin,hA,Td,if_pos hgo]⟩,by show its.length - (k+1)<its.length - k;omega,⟨rfl,rfl,fun _ _=>MT.get (l:=[(0,_),(5,_),(6,_),(7,_)]) ⟨rfl,rfl,rfl,rfl,trivial⟩⟩⟩
 ·refine C6 ?_;exact ⟨_,N,_,Ae rfl,hP _,by rw [←hN st0];exact ZD _,rfl,by rw [←hfin,List.drop_of_length_le (by have h:=h8;omega)];rfl⟩
end
theorem VB (its:List Int):A8 Tryz.prog 119 [.d (.sl none (its.map AG))] [] fun r H'=>r= .fn 164 [.d (.ptr (.sl none (its.map AG)))]∧H'=[]:=by
 refine BY Tryz.func119 Z Z Tryz.ntmps119 Z Z Z fun F hF=>(AF (AJ (U (CJ 1 Z Z Z Z Z Z Z) ?_)));refine AD Z Z (AH (AF (AJ (GL 1 1 (.sl none (its.map AG)) [] hF Z Z Z (by intro c hc;simp [D.cells] at hc;subst hc;rfl) Z Z Z (J (Zdl Z Z) (AD Z Z (AH (Af ?_))))))));exact ⟨_,[],[],Ae rfl,rfl,rfl,rfl,rfl⟩
abbrev hZ (q:List Int):Hp:=[(920,[.rowD 3 1 (q.map AG)]),(1,[.blk 33 [.own 920 0 q.length]])]
def Tz (q:List Int) (x:Int):List Int×Bool:=(q++ [x],true)
theorem PD:∀(l q:List Int),CA Tz q l=q++l
 | [],q=>by simp [CA]
 | x::l,q=>by rw [Td];show (if true=true then CA Tz (q++ [x]) l else _)=_;rw [if_pos rfl,PD l];simp
theorem NY {P:Program} {l:Nat} {H:List Int ->Hp} {n:Nat} (hY:∀q x,q.length<n ->Eg P l (encZ x) (H q) fun v H'=>v= .d (.raw (.bool true))∧H'=H (q++ [x])):∀(xs q:List Int),q.length+xs.length≤n ->Cv P l encZ H Tz q xs
 | [],_,_=>trivial
 | x::xs,q,h=>⟨hY q x (by simp at h;omega),fun _=>NY hY xs (q++ [x]) (by simp at h⊢;omega)⟩
theorem WR (its:List Int) (hits:its.length≤1000000):A8 Tryz.prog 205 [.d (.sl (some true) []),.fn 164 [.d (.ptr (.sl none (its.map AG)))]] [] fun r H'=>r= .own 920 0 its.length∧H'=[(920,[.rowD 3 1 (its.map AG)])]:=by
 refine Hy Tryz.func205 Z Z Tryz.ntmps205 Z Z Z fun F hF hFl=>(AF (AJ (U (CJ 1 Z Z Z Z Z Z Z) ?_)));refine AD Z Z (AH (AF (AF (Yx 1 0 0 920 DA Z Z Z Z Z Z Z (AJ (AC Z Z (AH (Au ?_))))))));refine QW [2,6] rfl ?_;refine MR (γ:=Unit) hFl 900 Z Z Z Z Z [1,920] (CHr:=hZ []) (fun _=>True) (fun _=>hZ its) (fun _=> .ready) (fun _=>none) ⟨rfl,rfl,trivial⟩ Z Z Z (fun _=>rfl) (fun _=>rfl) rfl (fun _ _=>by simp) (fun _ _=>⟨rfl,rfl⟩) [920,1] hF Z Z (fun _ _=>rfl) (fun l A B hA hB=>?_) (fun _ _=>?_)
 ·refine (seqZ_c its hits l (fun q:List Int=>(900,[.loop ⟨l,13,[(2,.ptr 1 0 0),(6,.fn 164 [.d (.ptr (.sl none (its.map AG)))])],.ready,none, #[7],A,B⟩])::hZ q) [900,920,1] Tz [] (fun _=>rfl) (fun _=>rfl) (fun _=>rfl) ?_).mono (fun r H' ⟨e1,e2⟩=>⟨e1,(),trivial,by rw [e2,PD];rfl⟩);refine NY (n:=its.length) (fun q x hq=>?_) its [] (by simp);refine Jb (lf:=900) Z Z Z Z fun F hF hr=>?_;show By _ _ A _ _;rw [hA];refine AJ (AD Z Z (AH (⟨rfl,_,_,rfl,rfl,rfl,rfl,?_⟩)));show By _ _ B _ _;rw [hB];refine Au (AJ ?_)
  first | refine J (A0 Z Z Aq rfl) ?_ | refine J (AY Z Z Z Aq rfl) ?_ | refine J (AZ Z Z (rfl) rfl Aq rfl) ?_
  refine AC Z Z (U (Fg 30 DA Z Z Z Z Z Z Z Z) ?_)
  first | refine U (Ib (q) ([x]) Z Z Z Z Z Z Z Z DA (by simp only [List.length_singleton];omega) Z Z Z Z) ?_ | refine U (Ka (q) ([x]) Z Z Z Z Z Z (fun _=>rfl) DA (by simp only [List.length_singleton];omega) Z Z Z Z) ?_
  refine U (Bj Z Z Z Z Z Z Z sz33) (AH ?_);exact ⟨none,_,_,[900,920,1],_,rfl,rfl,rfl,rfl,rfl,rfl,rfl,rfl⟩
 ·refine AF (AJ ?_)
  first | refine J (A0 Z Z Aq rfl) ?_ | refine J (AY Z Z Z Aq rfl) ?_ | refine J (AZ Z Z (rfl) rfl Aq rfl) ?_
  refine AD Z Z (AH (Af ?_));exact ⟨_,[920],_,Ae rfl,rfl,rfl,rfl,rfl⟩
theorem T6 (its:List Int) (hits:its.length≤1000000):A8 Tryz.prog 162 [.fn 164 [.d (.ptr (.sl none (its.map AG)))]] [] fun r H'=>r= .own 920 0 its.length∧H'=[(920,[.rowD 3 1 (its.map AG)])]:=by
 refine BY Tryz.func162 Z Z Tryz.ntmps162 Z Z Z fun F hF=>(AF (AJ ?_));refine AD Z Z (AH (AF (AJ (AC Z Z (U (HQ (WR its hits) rfl [920] ⟨rfl,trivial⟩ Z Z Z Z Z Z Z Z Z) (AD Z Z (AH (Af ?_))))))));exact ⟨_,[920],_,Ae rfl,rfl,rfl,rfl,rfl⟩
theorem VL (its:List Int) (hits:its.length≤1000000):AU Tryz.prog 118 [.fn 164 [.d (.ptr (.sl none (its.map AG)))]] (.sl none ((Cq its).map AG)):=by
 have hsl:=GC its;refine BY Tryz.func118 Z Z Tryz.ntmps118 Z Z Z fun F hF=>(AF (AJ (AD Z Z (AH ?_))));refine AF (AJ (AC Z Z (U (HQ (T6 its hits) rfl [920] ⟨rfl,trivial⟩ Z Z Z Z Z Z Z Z Z) (AD Z Z (AH (AF (AJ (AC Z Z ?_))))))));refine U (Qi laysS its (by omega) Z Z Z Z Z Z Z) (AH (AF (WV (emb:=AG) 3 920 (Cq its) Z Z Z hsl.symm Z Z Z (AJ (AC Z Z (AD Z Z (AH (Af ?_))))))));exact ⟨_,[],[],Ae rfl,rfl,rfl,rfl,rfl⟩
theorem less_p (a b:Int):AU Tryz.prog 165 [.d (AG a),.d (AG b)] (.raw (.bool (decide (a<b)))):=by
 refine BY Tryz.func165 Z Z Tryz.ntmps165 Z Z Z fun F hF=>(AF (AJ ?_));refine AD Z Z (AH (AF (AJ (AC Z Z (J (BF (Xv a) Z Z) (AC Z Z (JC 7 rfl (rfl) (Aj Z Z Z Z ?_))))))));refine Aj Z Z Z Z (Aj Z Z Z Z (J (Ei Z Z Z Z) (AC Z Z (Ah Z Z Z (AC Z Z (Ah Z Z Z (AC Z Z (Ah Z Z Z ?_))))))))
 first | refine J (C7 Z Z Z) ?_ | refine J (Ca Z Z Z) ?_
 refine J (Ei Z Z Z Z) (AD Z Z (AH (Af ?_)));exact ⟨_,[],[],Ae rfl,rfl,rfl,rfl,rfl⟩
def G3 (p:Prb):List Int:=(ordP p).map AT.id
abbrev HA (p:Prb):Hp:=[(10,[.blk 215 [.map 11 0,.d (.sl none ((G3 p).map AG)),.d (.sl none ((linL p).map LB))]]),(11,[B5 AG Aw (CD p.it)])]
theorem maxI (a:Int):(if 0>a then 0 else a)=max a 0:=by rw [Int.max_def];split<;>split<;>omega
theorem JV (p:Prb) (hb:Cz p) (hE:Ak p=0):A8 Tryz.prog 58 [.d (CI p)] [] fun r H'=>r= .tup [.ptr 3 0 0,.d (AG 0)]∧H'=[(3,[.blk 215 [.map 2 0,.d (.sl none ((G3 p).map AG)),.d (.sl none ((linL p).map LB))]]),(2,[B5 AG Aw (CD p.it)])]:=by
 have hck:=FJ p hb;rw [hE] at hck;have hid:=S0 (Ia hE).2.1;have hor:=L4 p hb;have hb1:=hb.1;have hb2:=hb.2.1;refine BY Tryz.func58 Z Z Tryz.ntmps58 Z Z Z fun F hF=>?_;refine AF (AJ (U (CJ 1 Z Z Z Z Z Z Z) (AD Z Z (AD Z Z (AH (AF (AF (AJ ?_))))))))
 first | refine J (An Z Z AW rfl) ?_ | refine J (Ao Z Z AW Z Z Z) ?_ | refine J (Ap Z Z (rfl) rfl AW rfl) ?_
 refine J (BF (hck) Z Z) (AD Z Z (AH (AF (AJ (AC Z Z ?_)))))
 first | refine J (E9 Z Z Z) ?_ | refine J (Ed Z Z Z) ?_ | refine J (EU Z Z Z) ?_ | refine J (Ea Tryz.underlying34 Z Z Z) ?_ | refine J (Ec Tryz.underlying34 Z Z Z) ?_ | refine J (st_neqN Tryz.underlying34 Z Z) ?_ | refine J (Eb Tryz.underlying34 Z Z Z) ?_ | refine J (st_neqFN Tryz.underlying34 Z Z) ?_
 refine AH (Ey rfl ((by decide)) (Am (AF (AJ (U (S3 2 Z Z Z Z) ?_)))))
 first | refine J (An Z Z AW rfl) ?_ | refine J (Ao Z Z AW Z Z Z) ?_ | refine J (Ap Z Z (rfl) rfl AW rfl) ?_
 refine J (BF (hor) Z Z) (J (Cu zl215 pl215 Z Z Z) (U (CJ 3 Z Z Z Z Z Z Z) (AD Z Z (AH (AF (AF (AJ ?_)))))))
 first | refine J (AO rfl Bw Z Z Z) ?_ | refine J (AQ rfl Bw Z Z Z) ?_ | refine J (AR rfl Bw Z Z Z) ?_ | refine J (AP rfl Bw Z Z Z) ?_ | refine J (AN rfl Bw Z Z Z) ?_
 first | refine J (A0 Z Z Bf rfl) ?_ | refine J (AY Z Z Z Bf rfl) ?_ | refine J (AZ Z Z (rfl) rfl Bf rfl) ?_
 first | refine J (Cc rfl Tryz.underlying29 rfl) ?_ | refine J (C8 Z Z Tryz.underlying29 rfl) ?_ | refine J (Cd rfl Tryz.underlying29 rfl) ?_ | refine J (Cb rfl Tryz.underlying29 rfl) ?_ | refine J (CW rfl Tryz.underlying29 rfl) ?_ | refine J (C9 rfl Tryz.underlying29 rfl) ?_
 refine AC Z Z (AH (Au (De (α:=Nat) (fun k=>⟨68,[(1,(.ptr 1 0 0)),(5,(.ptr 3 0 0)),(21,(.d (.sl none (p.it.map Aw)))),(22,(.d (AG (p.it.length:Int)))),(23,(.d (AG (k:Int))))],[(1,[Ml 31 p]),(3,[.blk 215 [.map 2 0,.d (.sl none ((G3 p).map AG)),HP]]),(2,[B5 AG Aw (CD (p.it.take k))])]⟩) (fun k=>k≤p.it.length) (fun k=>p.it.length - k) (0) (Nat.zero_le _) (BP hF [1,3,2] Z Z ⟨rfl,rfl,rfl,rfl,rfl,trivial⟩) ?_)));rintro k hk0;refine AF (AJ ?_)
 first | refine J (C7 Z Z Z) ?_ | refine J (Ca Z Z Z) ?_
 refine AH (AF ?_)
 first | refine BJ rfl (fun h24=>?_) (fun h24=>?_) | refine BB rfl (fun h24=>?_) (fun h24=>?_)
 ·have hk1:k<p.it.length:=DZ h24;refine Am (AF (Au (AF (AJ ?_))));have hnk:p.it[k].id∉(p.it.take k).map AT.id:=fun h=>by have hn:=hid;rw [List.Nodup,List.pairwise_map,List.pairwise_iff_getElem] at hn;obtain ⟨x,hx,e⟩:=List.mem_map.1 h;obtain ⟨j,hj,rfl⟩:=List.mem_take_iff_getElem.1 hx;exact hn j k (by omega) hk1 (by omega) e
  first | refine J (CY (k) Z Z (rfl) (A2 hk1) Tryz.underlying29 rfl Br rfl) ?_ | refine J (CZ (k) Z Z (rfl) (A2 hk1) rfl Tryz.underlying29 Br rfl) ?_
  first | refine J (An Z Z A7 rfl) ?_ | refine J (Ao Z Z A7 Z Z Z) ?_ | refine J (Ap Z Z (rfl) rfl A7 rfl) ?_
  refine U (Cm 4 Da Z Z Z Z) (U (Bj Z Z Z Z Z Z Z Br) (AH (G8 [[],[0],[0,1],[0,1,2],[],[4],[],[0,1,2,3,4,5,6]] BC rfl (Hq ?_))))
  first | refine AE [5] [] Z Z (fun _=>AB (B7 Z Z)) ?_ | refine AI [5] Z Z (fun _=>AB (B7 Z Z)) ?_
  first | refine AE [27] [] Z Z (fun _=>AB (Bc Z Z)) ?_ | refine AI [27] Z Z (fun _=>AB (Bc Z Z)) ?_ | refine AE [27] [] Z Z (fun _=>AB (Ba Z Z)) ?_ | refine AI [27] Z Z (fun _=>AB (Ba Z Z)) ?_ | refine AE [27] [] Z Z (fun _=>AB (Bd Z Z)) ?_ | refine AI [27] Z Z (fun _=>AB (Bd Z Z)) ?_ | refine AE [27] [] Z Z (fun _=>AB (Bb Z Z)) ?_ | refine AI [27] Z Z (fun _=>AB (Bb Z Z)) ?_
  first | refine AE [28] [] Z Z (fun _=>AB (AO rfl F1 Z Z Z)) ?_ | refine AI [28] Z Z (fun _=>AB (AO rfl F1 Z Z Z)) ?_ | refine AE [28] [] Z Z (fun _=>AB (AQ rfl F1 Z Z Z)) ?_ | refine AI [28] Z Z (fun _=>AB (AQ rfl F1 Z Z Z)) ?_ | refine AE [28] [] Z Z (fun _=>AB (AR rfl F1 Z Z Z)) ?_ | refine AI [28] Z Z (fun _=>AB (AR rfl F1 Z Z Z)) ?_ | refine AE [28] [] Z Z (fun _=>AB (AP rfl F1 Z Z Z)) ?_ | refine AI [28] Z Z (fun _=>AB (AP rfl F1 Z Z Z)) ?_ | refine AE [28] [] Z Z (fun _=>AB (AN rfl F1 Z Z Z)) ?_ | refine AI [28] Z Z (fun _=>AB (AN rfl F1 Z Z Z)) ?_
  first | refine AE [29] [] Z Z (fun _=>AB (A0 Z Z C5 rfl)) ?_ | refine AI [29] Z Z (fun _=>AB (A0 Z Z C5 rfl)) ?_ | refine AE [29] [] Z Z (fun _=>AB (AY Z Z Z C5 rfl)) ?_ | refine AI [29] Z Z (fun _=>AB (AY Z Z Z C5 rfl)) ?_ | refine AE [29] [] Z Z (fun _=>AB (AZ Z Z (rfl) rfl C5 rfl)) ?_ | refine AI [29] Z Z (fun _=>AB (AZ Z Z (rfl) rfl C5 rfl)) ?_
  first | refine AE [7] [] Z Z (fun _=>AB (AO rfl B4 Z Z Z)) ?_ | refine AI [7] Z Z (fun _=>AB (AO rfl B4 Z Z Z)) ?_ | refine AE [7] [] Z Z (fun _=>AB (AQ rfl B4 Z Z Z)) ?_ | refine AI [7] Z Z (fun _=>AB (AQ rfl B4 Z Z Z)) ?_ | refine AE [7] [] Z Z (fun _=>AB (AR rfl B4 Z Z Z)) ?_ | refine AI [7] Z Z (fun _=>AB (AR rfl B4 Z Z Z)) ?_ | refine AE [7] [] Z Z (fun _=>AB (AP rfl B4 Z Z Z)) ?_ | refine AI [7] Z Z (fun _=>AB (AP rfl B4 Z Z Z)) ?_ | refine AE [7] [] Z Z (fun _=>AB (AN rfl B4 Z Z Z)) ?_ | refine AI [7] Z Z (fun _=>AB (AN rfl B4 Z Z Z)) ?_
  first | refine AE [31] [] Z Z (fun _=>AB (A0 Z Z A9 rfl)) ?_ | refine AI [31] Z Z (fun _=>AB (A0 Z Z A9 rfl)) ?_ | refine AE [31] [] Z Z (fun _=>AB (AY Z Z Z A9 rfl)) ?_ | refine AI [31] Z Z (fun _=>AB (AY Z Z Z A9 rfl)) ?_ | refine AE [31] [] Z Z (fun _=>AB (AZ Z Z (rfl) rfl A9 rfl)) ?_ | refine AI [31] Z Z (fun _=>AB (AZ Z Z (rfl) rfl A9 rfl)) ?_
  first | refine AE [7] [] Z Z (fun _=>AB (An Z Z A7 rfl)) ?_ | refine AI [7] Z Z (fun _=>AB (An Z Z A7 rfl)) ?_ | refine AE [7] [] Z Z (fun _=>AB (Ao Z Z A7 Z Z Z)) ?_ | refine AI [7] Z Z (fun _=>AB (Ao Z Z A7 Z Z Z)) ?_ | refine AE [7] [] Z Z (fun _=>AB (Ap Z Z (rfl) rfl A7 rfl)) ?_ | refine AI [7] Z Z (fun _=>AB (Ap Z Z (rfl) rfl A7 rfl)) ?_
  refine GZ 7 Z Z Z (BD 8 Z Z ?_)
  first | refine U (DE (CD (p.it.take k)) (p.it[k].id) (p.it[k]) Z Z Z L5 GO Z Z) ?_ | refine U (WZ (CD (p.it.take k)) (p.it[k].id) (p.it[k]) Z Z Z L5 GO Z Z) ?_
  refine AH ⟨rfl,?_⟩;refine GY (AJ (J (Bi Z Z (A6 (k+1) (by omega)) rfl) (AC Z Z (AH ?_))));exact ⟨k+1,by show k+1≤_;omega,by show p.it.length - (k+1)<p.it.length - k;omega,BP hF [1,3,2] rfl (by rw [List.take_succ_eq_append_getElem hk1,←TU hnk];rfl) ⟨rfl,rfl,rfl,rfl,rfl,trivial⟩⟩
 ·refine C6 (AF (AF ?_));rw [List.take_of_length_le (show p.it.length≤k by have h:=h24;omega)];refine Yx 3 0 2 900 UD Z Z Z Z Z Z Z (AJ ?_)
  first | refine J (AO rfl G5 Z Z Z) ?_ | refine J (AQ rfl G5 Z Z Z) ?_ | refine J (AR rfl G5 Z Z Z) ?_ | refine J (AP rfl G5 Z Z Z) ?_ | refine J (AN rfl G5 Z Z Z) ?_
  first | refine J (A0 Z Z Fn rfl) ?_ | refine J (AY Z Z Z Fn rfl) ?_ | refine J (AZ Z Z (rfl) rfl Fn rfl) ?_
  first | refine J (Cc rfl Tryz.underlying28 rfl) ?_ | refine J (C8 Z Z Tryz.underlying28 rfl) ?_ | refine J (Cd rfl Tryz.underlying28 rfl) ?_ | refine J (Cb rfl Tryz.underlying28 rfl) ?_ | refine J (CW rfl Tryz.underlying28 rfl) ?_ | refine J (C9 rfl Tryz.underlying28 rfl) ?_
  refine AC Z Z (AH (Au (De (α:=Nat×List Lin) (fun q=>⟨68,[(1,(.ptr 1 0 0)),(5,(.ptr 3 0 0)),(36,(.d (.sl none (p.ro.map DT)))),(37,(.d (AG (p.ro.length:Int)))),(38,(.d (AG (q.1:Int))))],[(900,[.rowD 218 8 (q.2.map LB)]),(1,[Ml 31 p]),(3,[.blk 215 [.map 2 0,.d (.sl none ((G3 p).map AG)),.own 900 0 q.2.length]]),(2,[B5 AG Aw (CD p.it)])]⟩) (fun q=>q.1≤p.ro.length∧q.2=(p.ro.take q.1).map (D0 p)) (fun q=>p.ro.length - q.1) ((0,[])) (⟨Nat.zero_le _,rfl⟩) (BP hF [900,1,3,2] Z Z ⟨rfl,rfl,rfl,rfl,rfl,trivial⟩) ?_)));rintro ⟨m,acc⟩ ⟨hm0,hA⟩;dsimp only at hm0 hA⊢;refine AF (AJ ?_)
  first | refine J (C7 Z Z Z) ?_ | refine J (Ca Z Z Z) ?_
  refine AH (AF ?_)
  first | refine BJ rfl (fun h39=>?_) (fun h39=>?_) | refine BB rfl (fun h39=>?_) (fun h39=>?_)
  ·have hm1:m<p.ro.length:=DZ h39;refine Am (AF (Au (AF (AJ ?_))));have hal:acc.length≤100000:=by rw [hA,List.length_map,List.length_take];omega
   first | refine J (CY (m) Z Z (rfl) (A2 hm1) Tryz.underlying28 rfl Jf rfl) ?_ | refine J (CZ (m) Z Z (rfl) (A2 hm1) rfl Tryz.underlying28 Jf rfl) ?_
   first | refine J (An Z Z Is rfl) ?_ | refine J (Ao Z Z Is Z Z Z) ?_ | refine J (Ap Z Z (rfl) rfl Is rfl) ?_
   refine U (Cm 5 Lp Z Z Z Z) (U (Bj Z Z Z Z Z Z Z Jf) (AH (G8 [[],[],[1],[1,2],[1,2,3],[],[5],[],[7],[7,8],[],[],[11],[10,11,12],[5,6,7,8,9,10,11,12,13],[5,6,7,8,9,10,11,12,13,14],[1,2,3,4,5,6,7,8,9,10,11,12,13,14,15],[0,1,2,3,4,5,6,7,8,9,10,11,12,13,14,15,16],[0,1,2,3,4,5,6,7,8,9,10,11,12,13,14,15,16,17],[0,1,2,3,4,5,6,7,8,9,10,11,12,13,14,15,16,17,18]] BC rfl (Hq ?_))))
   first | refine AE [5] [] Z Z (fun _=>AB (B7 Z Z)) ?_ | refine AI [5] Z Z (fun _=>AB (B7 Z Z)) ?_
   first | refine AE [5] [] Z Z (fun _=>AB (B7 Z Z)) ?_ | refine AI [5] Z Z (fun _=>AB (B7 Z Z)) ?_
   first | refine AE [43] [] Z Z (fun _=>AB (Bc Z Z)) ?_ | refine AI [43] Z Z (fun _=>AB (Bc Z Z)) ?_ | refine AE [43] [] Z Z (fun _=>AB (Ba Z Z)) ?_ | refine AI [43] Z Z (fun _=>AB (Ba Z Z)) ?_ | refine AE [43] [] Z Z (fun _=>AB (Bd Z Z)) ?_ | refine AI [43] Z Z (fun _=>AB (Bd Z Z)) ?_ | refine AE [43] [] Z Z (fun _=>AB (Bb Z Z)) ?_ | refine AI [43] Z Z (fun _=>AB (Bb Z Z)) ?_
   first | refine AE [44] [] Z Z (fun _=>AB (AO rfl IB Z Z Z)) ?_ | refine AI [44] Z Z (fun _=>AB (AO rfl IB Z Z Z)) ?_ | refine AE [44] [] Z Z (fun _=>AB (AQ rfl IB Z Z Z)) ?_ | refine AI [44] Z Z (fun _=>AB (AQ rfl IB Z Z Z)) ?_ | refine AE [44] [] Z Z (fun _=>AB (AR rfl IB Z Z Z)) ?_ | refine AI [44] Z Z (fun _=>AB (AR rfl IB Z Z Z)) ?_ | refine AE [44] [] Z Z (fun _=>AB (AP rfl IB Z Z Z)) ?_ | refine AI [44] Z Z (fun _=>AB (AP rfl IB Z Z Z)) ?_ | refine AE [44] [] Z Z (fun _=>AB (AN rfl IB Z Z Z)) ?_ | refine AI [44] Z Z (fun _=>AB (AN rfl IB Z Z Z)) ?_
   first | refine AE [45] [3] Z Z (fun _=>AB (A0 Z Z FL rfl)) ?_ | refine AE [45] [3] Z Z (fun _=>AB (AY Z Z Z FL rfl)) ?_ | refine AE [45] [3] Z Z (fun _=>AB (AZ Z Z (rfl) rfl FL rfl)) ?_
   first | refine AE [9] [] Z Z (fun _=>AB (AO rfl C3 Z Z Z)) ?_ | refine AI [9] Z Z (fun _=>AB (AO rfl C3 Z Z Z)) ?_ | refine AE [9] [] Z Z (fun _=>AB (AQ rfl C3 Z Z Z)) ?_ | refine AI [9] Z Z (fun _=>AB (AQ rfl C3 Z Z Z)) ?_ | refine AE [9] [] Z Z (fun _=>AB (AR rfl C3 Z Z Z)) ?_ | refine AI [9] Z Z (fun _=>AB (AR rfl C3 Z Z Z)) ?_ | refine AE [9] [] Z Z (fun _=>AB (AP rfl C3 Z Z Z)) ?_ | refine AI [9] Z Z (fun _=>AB (AP rfl C3 Z Z Z)) ?_ | refine AE [9] [] Z Z (fun _=>AB (AN rfl C3 Z Z Z)) ?_ | refine AI [9] Z Z (fun _=>AB (AN rfl C3 Z Z Z)) ?_
   first | refine AE [47] [5] Z Z (fun _=>AB (An Z Z Ab rfl)) ?_ | refine AE [47] [5] Z Z (fun _=>AB (Ao Z Z Ab Z Z Z)) ?_ | refine AE [47] [5] Z Z (fun _=>AB (Ap Z Z (rfl) rfl Ab rfl)) ?_
   first | refine AE [9] [] Z Z (fun _=>AB (AO rfl IF Z Z Z)) ?_ | refine AI [9] Z Z (fun _=>AB (AO rfl IF Z Z Z)) ?_ | refine AE [9] [] Z Z (fun _=>AB (AQ rfl IF Z Z Z)) ?_ | refine AI [9] Z Z (fun _=>AB (AQ rfl IF Z Z Z)) ?_ | refine AE [9] [] Z Z (fun _=>AB (AR rfl IF Z Z Z)) ?_ | refine AI [9] Z Z (fun _=>AB (AR rfl IF Z Z Z)) ?_ | refine AE [9] [] Z Z (fun _=>AB (AP rfl IF Z Z Z)) ?_ | refine AI [9] Z Z (fun _=>AB (AP rfl IF Z Z Z)) ?_ | refine AE [9] [] Z Z (fun _=>AB (AN rfl IF Z Z Z)) ?_ | refine AI [9] Z Z (fun _=>AB (AN rfl IF Z Z Z)) ?_
   first | refine AE [49] [5] Z Z (fun _=>AB (A0 Z Z Be rfl)) ?_ | refine AE [49] [5] Z Z (fun _=>AB (AY Z Z Z Be rfl)) ?_ | refine AE [49] [5] Z Z (fun _=>AB (AZ Z Z (rfl) rfl Be rfl)) ?_
   first | refine AE [50] [] Z Z (fun _=>AB (P5 Z Z (maxI _) rfl)) ?_ | refine AI [50] Z Z (fun _=>AB (P5 Z Z (maxI _) rfl)) ?_
   first | refine AE [1] [1] Z Z (fun _=>AB (An Z Z AW rfl)) ?_ | refine AE [1] [1] Z Z (fun _=>AB (Ao Z Z AW Z Z Z)) ?_ | refine AE [1] [1] Z Z (fun _=>AB (Ap Z Z (rfl) rfl AW rfl)) ?_
   first | refine AE [9] [] Z Z (fun _=>AB (AO rfl C3 Z Z Z)) ?_ | refine AI [9] Z Z (fun _=>AB (AO rfl C3 Z Z Z)) ?_ | refine AE [9] [] Z Z (fun _=>AB (AQ rfl C3 Z Z Z)) ?_ | refine AI [9] Z Z (fun _=>AB (AQ rfl C3 Z Z Z)) ?_ | refine AE [9] [] Z Z (fun _=>AB (AR rfl C3 Z Z Z)) ?_ | refine AI [9] Z Z (fun _=>AB (AR rfl C3 Z Z Z)) ?_ | refine AE [9] [] Z Z (fun _=>AB (AP rfl C3 Z Z Z)) ?_ | refine AI [9] Z Z (fun _=>AB (AP rfl C3 Z Z Z)) ?_ | refine AE [9] [] Z Z (fun _=>AB (AN rfl C3 Z Z Z)) ?_ | refine AI [9] Z Z (fun _=>AB (AN rfl C3 Z Z Z)) ?_
   first | refine AE [53] [5] Z Z (fun _=>AB (An Z Z Ab rfl)) ?_ | refine AE [53] [5] Z Z (fun _=>AB (Ao Z Z Ab Z Z Z)) ?_ | refine AE [53] [5] Z Z (fun _=>AB (Ap Z Z (rfl) rfl Ab rfl)) ?_
   first | refine AE [52,54] [] Z Z (fun _=>AB (BF (UL p p.ro[m].r hb) Z Z)) ?_ | refine AI [52,54] Z Z (fun _=>AB (BF (UL p p.ro[m].r hb) Z Z)) ?_
   first | refine AE [48,51,55] [] Z Z (fun _=>AB (Cu Q6 pl218 Z Z Z)) ?_ | refine AI [48,51,55] Z Z (fun _=>AB (Cu Q6 pl218 Z Z Z)) ?_
   refine Fw [56] [50] [(57,_)] Z Z (fun _=>Fx (Fg 50 UD Z Z Z Z Z Z Z Z)) (.inr ⟨57,_,rfl,rfl,rfl,rfl,rfl⟩) Z Z Z Z Z ?_
   first | refine Fw [46,57] [900,50,3,2] [(58,_)] Z Z (fun _=>Fx (Ib (acc) ([D0 p p.ro[m]]) Z Z Z Z Z Z Z Z UD (by simp only [List.length_singleton];omega) Z Z Z Z)) (.inr ⟨58,_,rfl,rfl,rfl,rfl,rfl⟩) Z Z Z Z Z ?_ | refine Fw [46,57] [900,50,3,2] [(58,_)] Z Z (fun _=>Fx (Ka (acc) ([D0 p p.ro[m]]) Z Z Z Z Z Z (fun _=>rfl) UD (by simp only [List.length_singleton];omega) Z Z Z Z)) (.inr ⟨58,_,rfl,rfl,rfl,rfl,rfl⟩) Z Z Z Z Z ?_
   refine GZ 17 Z Z Z (BD 18 Z Z ?_)
   first | refine J (Bc Z Z) ?_ | refine J (Ba Z Z) ?_ | refine J (Bd Z Z) ?_ | refine J (Bb Z Z) ?_
   refine AH ⟨rfl,?_⟩;refine BD 19 Z Z ?_
   first | refine J (AO rfl IB Z Z Z) ?_ | refine J (AQ rfl IB Z Z Z) ?_ | refine J (AR rfl IB Z Z Z) ?_ | refine J (AP rfl IB Z Z Z) ?_ | refine J (AN rfl IB Z Z Z) ?_
   refine AH ⟨rfl,?_⟩;refine BD 20 Z Z (U (Bj Z Z Z Z Z Z Z sz213) (AH ⟨rfl,?_⟩));refine GY (AJ (J (Bi Z Z (A6 (m+1) (by omega)) rfl) (AC Z Z (AH ?_))));exact ⟨(m+1,acc++ [D0 p p.ro[m]]),⟨by show m+1≤_;omega,by show acc++ [D0 p p.ro[m]]=(p.ro.take (m+1)).map (D0 p);rw [CU hm1,hA]⟩,by show p.ro.length - (m+1)<p.ro.length - m;omega,BP hF [900,1,3,2] rfl (rfl) ⟨rfl,rfl,rfl,rfl,rfl,trivial⟩⟩
  ·refine C6 (AF ?_);have hfa:acc=p.ro.map (D0 p):=by rw [hA,List.take_of_length_le (by have h:=h39;omega)]
   refine AJ (AC Z Z ?_)
   first | refine J (Bc Z Z) ?_ | refine J (Ba Z Z) ?_ | refine J (Bd Z Z) ?_ | refine J (Bb Z Z) ?_
   first | refine J (AO rfl IB Z Z Z) ?_ | refine J (AQ rfl IB Z Z Z) ?_ | refine J (AR rfl IB Z Z Z) ?_ | refine J (AP rfl IB Z Z Z) ?_ | refine J (AN rfl IB Z Z Z) ?_
   first | refine J (A0 Z Z FL rfl) ?_ | refine J (AY Z Z Z FL rfl) ?_ | refine J (AZ Z Z (rfl) rfl FL rfl) ?_
   refine U (P4 laysLn (k:=8) (by decide) Tryz.isAgg218 Tryz.sizeOf218 Tryz.func117 Z Z YJ (fun a b=>CE a.r b.r) ((OD.comap Lin.r).swo) acc (linL p) (by rw [hfa,List.length_map];omega) (fun x _ y _=>ana1_p x y) (fun ys g1 g2=>lin_one hE (by rw [←hfa];exact g1) g2) Z Z Z QH Z Z Z Z Z) ?_;refine AH (AF (WU (ys:=(linL p).map LB) 3 0 2 900 Z Z Z (by rw [List.length_map,FO,hfa,List.length_map];exact Nat.le_refl _) (List.take_of_length_le (by rw [List.length_map,FO,hfa,List.length_map];exact Nat.le_refl _)) Z Z Z Z Z Z (AJ (AC Z Z (AD Z Z (AD Z Z (AH (Af ?_))))))));exact ⟨_,[3,2],_,Ae rfl,rfl,rfl,rfl,rfl⟩
theorem SL (p:Prb) (hb:Cz p) (hE:Ak p≠0):AU Tryz.prog 58 [.d (CI p)] (.tup [.raw (.pointer none),AG (Ak p)]):=by
 have hck:=FJ p hb;refine BY Tryz.func58 Z Z Tryz.ntmps58 Z Z Z fun F hF=>?_;refine AF (AJ (U (CJ 1 Z Z Z Z Z Z Z) (AD Z Z (AD Z Z (AH (AF (AF (AJ ?_))))))))
 first | refine J (An Z Z AW rfl) ?_ | refine J (Ao Z Z AW Z Z Z) ?_ | refine J (Ap Z Z (rfl) rfl AW rfl) ?_
 refine J (BF (hck) Z Z) (AD Z Z (AH (AF (AJ (AC Z Z ?_)))))
 first | refine J (E9 Z Z Z) ?_ | refine J (Ed Z Z Z) ?_ | refine J (EU Z Z Z) ?_ | refine J (Ea Tryz.underlying34 Z Z Z) ?_ | refine J (Ec Tryz.underlying34 Z Z Z) ?_ | refine J (st_neqN Tryz.underlying34 Z Z) ?_ | refine J (Eb Tryz.underlying34 Z Z Z) ?_ | refine J (st_neqFN Tryz.underlying34 Z Z) ?_
 refine AH (Dg rfl ((decide_eq_true hE)) (AF (AJ (AC Z Z (AD Z Z (AD Z Z (AH (Af ?_))))))));exact ⟨_,[],[],Ae rfl,rfl,rfl,rfl,rfl⟩
theorem TV (l:List AT) (i:Int):Ad (CD l) i itm0=l.getD ((l.map AT.id).idxOf i) itm0:=by
 induction l with
 | nil=>rfl
 | cons a l ih=>
  show (if i=a.id then a else Ad (CD l) i itm0)=_;rw [List.map_cons,List.idxOf_cons]
  by_cases h:a.id=i
  ·rw [if_pos h.symm];simp [h]
  ·rw [if_neg (fun e=>h e.symm),ih];have hb:(a.id==i)=false:=by simp [h]
   rw [hb];simp
theorem JH (l:List AT) (i:Int):Pw (CD l) i=decide (i∈l.map AT.id):=by
 rw [Bool.eq_iff_iff,NG,decide_eq_true_eq];unfold CD;rw [List.map_map];rfl
theorem IT (p:Prb) (i:Int):Ad (CD p.it) i itm0=Ar p i:=TV p.it i
theorem MK {p:Prb} (hb:Cz p) (i:Int):(Ar p i).po.length≤100000∧(Ar p i).pa.length≤100000∧(Ar p i).af.length≤100000:=by
 unfold Ar;rw [List.getD_eq_getElem?_getD]
 cases h:p.it[(p.it.map AT.id).idxOf i]? with
 | none=>exact ⟨by simp [itm0],by simp [itm0],by simp [itm0]⟩
 | some x=>exact hb.2.2 _ (List.mem_of_getElem? h)
theorem Iw (p:Prb) (l:List Int) (hb:Cz p) (hl:l.length≤100000) (hE:Bn p l=0):A8 Tryz.prog 156 [.d (CI p),.d (.sl none (l.map AG))] [] fun r H'=>r= .tup [.ptr 10 0 0,.map 2 0,.d (AG 0)]∧H'=HA p++ [(2,[B5 AG BE (Ag l)])]:=by
 have h0:Ak p=0:=by
  unfold Bn at hE;split at hE
  ·exact hE
  ·rename_i h;simpa using h
 have han:=(JV p hb h0).by [(3,10),(2,11)] rfl;have hC:Bn p l=Ls (p.it.map AT.id) l:=if_neg (fun h=>h h0);rw [hC] at hE;refine BY Tryz.func156 Z Z Tryz.ntmps156 Z Z Z fun F hF=>?_;refine AF (AJ (U (CJ 1 Z Z Z Z Z Z Z) (AD Z Z (AD Z Z (AD Z Z (AH (AF (AJ ?_))))))))
 first | refine J (An Z Z AW rfl) ?_ | refine J (Ao Z Z AW Z Z Z) ?_ | refine J (Ap Z Z (rfl) rfl AW rfl) ?_
 refine U (HQ han rfl [10,11] ⟨rfl,rfl,trivial⟩ Z Z Z Z Z Z Z Z Z) (AC Z Z ?_)
 first | refine J (BT Z Z Z) ?_ | refine J (BS Z Z Z) ?_
 first | refine J (BT Z Z Z) ?_ | refine J (BS Z Z Z) ?_
 refine AD Z Z (AD Z Z (AH (AF (AF (AJ (AC Z Z ?_))))))
 first | refine J (E9 Z Z Z) ?_ | refine J (Ed Z Z Z) ?_ | refine J (EU Z Z Z) ?_ | refine J (Ea Tryz.underlying34 Z Z Z) ?_ | refine J (Ec Tryz.underlying34 Z Z Z) ?_ | refine J (st_neqN Tryz.underlying34 Z Z) ?_ | refine J (Eb Tryz.underlying34 Z Z Z) ?_ | refine J (st_neqFN Tryz.underlying34 Z Z) ?_
 refine AH (Ey rfl ((by decide)) (Am ?_));refine AF (AJ (U (S3 2 Z Z Z Z) (AD Z Z (AH (AF (AF (AJ (AC Z Z ?_))))))))
 first | refine J (Cc rfl Tryz.underlying33 rfl) ?_ | refine J (C8 Z Z Tryz.underlying33 rfl) ?_ | refine J (Cd rfl Tryz.underlying33 rfl) ?_ | refine J (Cb rfl Tryz.underlying33 rfl) ?_ | refine J (CW rfl Tryz.underlying33 rfl) ?_ | refine J (C9 rfl Tryz.underlying33 rfl) ?_
 refine AC Z Z (AH (Au (De (α:=Nat) (fun k=>⟨48,[(7,(.ptr 10 0 0)),(9,(.map 2 0)),(23,(.d (.sl none (l.map AG)))),(24,(.d (AG (l.length:Int)))),(25,(.d (AG (k:Int))))],HA p++ [(2,[B5 AG BE (Ag (l.take k))])]⟩) (fun k=>k≤l.length) (fun k=>l.length - k) (0) (Nat.zero_le _) (BP hF [10,11,2] Z Z ⟨rfl,rfl,rfl,rfl,rfl,trivial⟩) ?_)));rintro k hk0;refine AF (AJ ?_)
 first | refine J (C7 Z Z Z) ?_ | refine J (Ca Z Z Z) ?_
 refine AH (AF ?_)
 first | refine BJ rfl (fun h26=>?_) (fun h26=>?_) | refine BB rfl (fun h26=>?_) (fun h26=>?_)
 ·have hk1:k<l.length:=DZ h26;refine Am (AF (Au (AF (AJ ?_))));have hin:l[k]∈p.it.map AT.id:=(Kg hE).2 _ (List.getElem_mem hk1);have hnk:l[k]∉l.take k:=fun h=>by have hn2:=(Kg hE).1;rw [List.Nodup,List.pairwise_iff_getElem] at hn2;obtain ⟨j,hj,e⟩:=List.mem_take_iff_getElem.1 h;exact hn2 j k (by omega) hk1 (by omega) e
  first | refine J (CY (k) Z Z (rfl) (A2 hk1) Tryz.underlying33 rfl Dh rfl) ?_ | refine J (CZ (k) Z Z (rfl) (A2 hk1) rfl Tryz.underlying33 Dh rfl) ?_
  first | refine J (A0 Z Z A9 rfl) ?_ | refine J (AY Z Z Z A9 rfl) ?_ | refine J (AZ Z Z (rfl) rfl A9 rfl) ?_
  refine AD Z Z (AH (AF (AF (AJ (AC Z Z ?_)))))
  first | refine J (Bc Z Z) ?_ | refine J (Ba Z Z) ?_ | refine J (Bd Z Z) ?_ | refine J (Bb Z Z) ?_
  first | refine J (AO rfl F1 Z Z Z) ?_ | refine J (AQ rfl F1 Z Z Z) ?_ | refine J (AR rfl F1 Z Z Z) ?_ | refine J (AP rfl F1 Z Z Z) ?_ | refine J (AN rfl F1 Z Z Z) ?_
  first | refine J (A0 Z Z C5 rfl) ?_ | refine J (AY Z Z Z C5 rfl) ?_ | refine J (AZ Z Z (rfl) rfl C5 rfl) ?_
  refine AC Z Z (J (M7 (CD p.it) l[k] itm0 Z Z Z L5 GO Ux Dr rfl) (AC Z Z ?_))
  first | refine J (BT Z Z Z) ?_ | refine J (BS Z Z Z) ?_
  first | refine J (BT Z Z Z) ?_ | refine J (BS Z Z Z) ?_
  refine U (Cm 3 Da Z Z Z Z) (U (Bj Z Z Z Z Z Z Z Br) (AD Z Z (AH (AF (AJ (AC Z Z ?_))))))
  first | refine J (F2 Z Z) ?_ | refine J (FT Z Z) ?_
  refine AH (Ey rfl ((by rw [JH,decide_eq_true hin];rfl)) (Am (AF (AF (AJ ?_)))));refine AC Z Z (AC Z Z (J (IC (Ag (l.take k)) (l[k]) (false) _ Z Z Z If GO Tn Z Z) (AH (Ey rfl ((by rw [WT];exact decide_eq_false hnk)) (Am (AJ (AC Z Z (AC Z Z ?_))))))))
  first | refine U (DE (Ag (l.take k)) (l[k]) (true) Z Z Z If GO Z Z) ?_ | refine U (WZ (Ag (l.take k)) (l[k]) (true) Z Z Z If GO Z Z) ?_
  refine AH (AJ (J (Bi Z Z (A6 (k+1) (by omega)) rfl) (AC Z Z (AH ?_))));exact ⟨k+1,by show k+1≤_;omega,by show l.length - (k+1)<l.length - k;omega,BP hF [10,11,2] rfl (by rw [List.take_succ_eq_append_getElem hk1,←D3 hnk];rfl) ⟨rfl,rfl,rfl,rfl,rfl,trivial⟩⟩
 ·refine C6 ?_;refine AF (AJ (AC Z Z (AC Z Z (AD Z Z (AD Z Z (AD Z Z (AH (Af ?_))))))));exact ⟨_,[10,11,2],_,Ae rfl,rfl,rfl,rfl,by rw [List.take_of_length_le (show l.length≤k by have h:=h26;omega)];rfl⟩
theorem H6 (p:Prb) (l:List Int) (hb:Cz p) (hl:l.length≤100000) (hE:Bn p l≠0):AU Tryz.prog 156 [.d (CI p),.d (.sl none (l.map AG))] (.tup [.raw (.pointer none),.raw (.map none),AG (Bn p l)]):=by
 by_cases h0:Ak p=0
 ·have han:=(JV p hb h0).by [(3,10),(2,11)] rfl;have hC:Bn p l=Ls (p.it.map AT.id) l:=if_neg (fun h=>h h0);rw [hC] at hE⊢
  obtain ⟨E0,hE0⟩:∃e,Ls (p.it.map AT.id) l=e:=⟨_,rfl⟩
  rw [hE0] at hE⊢;refine BY Tryz.func156 Z Z Tryz.ntmps156 Z Z Z fun F hF=>?_;refine AF (AJ (U (CJ 1 Z Z Z Z Z Z Z) (AD Z Z (AD Z Z (AD Z Z (AH (AF (AJ ?_))))))))
  first | refine J (An Z Z AW rfl) ?_ | refine J (Ao Z Z AW Z Z Z) ?_ | refine J (Ap Z Z (rfl) rfl AW rfl) ?_
  refine U (HQ han rfl [10,11] ⟨rfl,rfl,trivial⟩ Z Z Z Z Z Z Z Z Z) (AC Z Z ?_)
  first | refine J (BT Z Z Z) ?_ | refine J (BS Z Z Z) ?_
  first | refine J (BT Z Z Z) ?_ | refine J (BS Z Z Z) ?_
  refine AD Z Z (AD Z Z (AH (AF (AF (AJ (AC Z Z ?_))))))
  first | refine J (E9 Z Z Z) ?_ | refine J (Ed Z Z Z) ?_ | refine J (EU Z Z Z) ?_ | refine J (Ea Tryz.underlying34 Z Z Z) ?_ | refine J (Ec Tryz.underlying34 Z Z Z) ?_ | refine J (st_neqN Tryz.underlying34 Z Z) ?_ | refine J (Eb Tryz.underlying34 Z Z Z) ?_ | refine J (st_neqFN Tryz.underlying34 Z Z) ?_
  refine AH (Ey rfl ((by decide)) (Am ?_));refine AF (AJ (U (S3 2 Z Z Z Z) (AD Z Z (AH (AF (AF (AJ (AC Z Z ?_))))))))
  first | refine J (Cc rfl Tryz.underlying33 rfl) ?_ | refine J (C8 Z Z Tryz.underlying33 rfl) ?_ | refine J (Cd rfl Tryz.underlying33 rfl) ?_ | refine J (Cb rfl Tryz.underlying33 rfl) ?_ | refine J (CW rfl Tryz.underlying33 rfl) ?_ | refine J (C9 rfl Tryz.underlying33 rfl) ?_
  refine AC Z Z (AH (Au (De (α:=Nat) (fun k=>⟨48,[(7,(.ptr 10 0 0)),(9,(.map 2 0)),(23,(.d (.sl none (l.map AG)))),(24,(.d (AG (l.length:Int)))),(25,(.d (AG (k:Int))))],HA p++ [(2,[B5 AG BE (Ag (l.take k))])]⟩) (fun k=>k≤l.length∧E0=Bk (((List.range l.length).drop k).map (G2 (p.it.map AT.id) l))) (fun k=>l.length - k) (0) (⟨Nat.zero_le _,hE0.symm⟩) (BP hF [10,11,2] Z Z ⟨rfl,rfl,rfl,rfl,rfl,trivial⟩) ?_)));rintro k ⟨hk0,hk⟩;refine AF (AJ ?_)
  first | refine J (C7 Z Z Z) ?_ | refine J (Ca Z Z Z) ?_
  refine AH (AF ?_)
  first | refine BJ rfl (fun h26=>?_) (fun h26=>?_) | refine BB rfl (fun h26=>?_) (fun h26=>?_)
  ·have hk1:k<l.length:=DZ h26;refine Am (AF (Au (AF (AJ ?_))));have hEc:=E1 hk1 hk;have hgd:=Bg 0 hk1
   first | refine J (CY (k) Z Z (rfl) (A2 hk1) Tryz.underlying33 rfl Dh rfl) ?_ | refine J (CZ (k) Z Z (rfl) (A2 hk1) rfl Tryz.underlying33 Dh rfl) ?_
   first | refine J (A0 Z Z A9 rfl) ?_ | refine J (AY Z Z Z A9 rfl) ?_ | refine J (AZ Z Z (rfl) rfl A9 rfl) ?_
   refine AD Z Z (AH (AF (AF (AJ (AC Z Z ?_)))))
   first | refine J (Bc Z Z) ?_ | refine J (Ba Z Z) ?_ | refine J (Bd Z Z) ?_ | refine J (Bb Z Z) ?_
   first | refine J (AO rfl F1 Z Z Z) ?_ | refine J (AQ rfl F1 Z Z Z) ?_ | refine J (AR rfl F1 Z Z Z) ?_ | refine J (AP rfl F1 Z Z Z) ?_ | refine J (AN rfl F1 Z Z Z) ?_
   first | refine J (A0 Z Z C5 rfl) ?_ | refine J (AY Z Z Z C5 rfl) ?_ | refine J (AZ Z Z (rfl) rfl C5 rfl) ?_
   refine AC Z Z (J (M7 (CD p.it) l[k] itm0 Z Z Z L5 GO Ux Dr rfl) (AC Z Z ?_))
   first | refine J (BT Z Z Z) ?_ | refine J (BS Z Z Z) ?_
   first | refine J (BT Z Z Z) ?_ | refine J (BS Z Z Z) ?_
   refine U (Cm 3 Da Z Z Z Z) (U (Bj Z Z Z Z Z Z Z Br) (AD Z Z (AH (AF (AJ (AC Z Z ?_))))))
   first | refine J (F2 Z Z) ?_ | refine J (FT Z Z) ?_
   refine AH ?_
   first | refine BJ rfl (fun h39=>?_) (fun h39=>?_) | refine BB rfl (fun h39=>?_) (fun h39=>?_)
   ·have hin:¬l[k]∈p.it.map AT.id:=by rw [JH] at h39;simpa using h39
    refine AF (AJ (AD Z Z (AD Z Z (AD Z Z (AH (Af ?_))))));exact ⟨_,[],[],Ae rfl,rfl,rfl,by rw [hEc.2 9 (by unfold G2;rw [hgd,if_pos hin]) (by decide)],rfl⟩
   ·have hin:l[k]∈p.it.map AT.id:=by rw [JH] at h39;simpa using h39
    refine Am (AF (AF (AJ (AC Z Z (AC Z Z (J (IC (Ag (l.take k)) (l[k]) (false) _ Z Z Z If GO Tn Z Z) (AH ?_)))))))
    first | refine BJ rfl (fun h42=>?_) (fun h42=>?_) | refine BB rfl (fun h42=>?_) (fun h42=>?_)
    ·have hnk:l[k]∈l.take k:=by rw [WT] at h42;simpa using h42
     refine AF (AJ (AD Z Z (AD Z Z (AD Z Z (AH (Af ?_))))));exact ⟨_,[],[],Ae rfl,rfl,rfl,by rw [hEc.2 7 (by unfold G2;rw [hgd,if_neg (fun h=>h hin),if_pos hnk]) (by decide)],rfl⟩
    ·have hnk:¬l[k]∈l.take k:=by rw [WT] at h42;simpa using h42
     refine Am (AJ (AC Z Z (AC Z Z ?_)))
     first | refine U (DE (Ag (l.take k)) (l[k]) (true) Z Z Z If GO Z Z) ?_ | refine U (WZ (Ag (l.take k)) (l[k]) (true) Z Z Z If GO Z Z) ?_
     refine AH (AJ (J (Bi Z Z (A6 (k+1) (by omega)) rfl) (AC Z Z (AH ?_))));exact ⟨k+1,⟨by show k+1≤_;omega,hEc.1 (by unfold G2;rw [hgd,if_neg (fun h=>h hin),if_neg hnk])⟩,by show l.length - (k+1)<l.length - k;omega,BP hF [10,11,2] rfl (by rw [List.take_succ_eq_append_getElem hk1,←D3 hnk];rfl) ⟨rfl,rfl,rfl,rfl,rfl,trivial⟩⟩
  ·refine C6 ?_;refine AF (AJ (AC Z Z (AC Z Z (AD Z Z (AD Z Z (AD Z Z (AH (Af ?_))))))));exact absurd (by rw [hk,List.drop_of_length_le (by have h:=h26;simp only [List.length_range];omega)];rfl) hE
 ·have hC:Bn p l=Ak p:=if_pos h0;have hab:=SL p hb h0;rw [hC];refine BY Tryz.func156 Z Z Tryz.ntmps156 Z Z Z fun F hF=>?_;refine AF (AJ (U (CJ 1 Z Z Z Z Z Z Z) (AD Z Z (AD Z Z (AD Z Z (AH (AF (AJ ?_))))))))
  first | refine J (An Z Z AW rfl) ?_ | refine J (Ao Z Z AW Z Z Z) ?_ | refine J (Ap Z Z (rfl) rfl AW rfl) ?_
  refine J (BF (hab) Z Z) (AC Z Z ?_)
  first | refine J (BT Z Z Z) ?_ | refine J (BS Z Z Z) ?_
  first | refine J (BT Z Z Z) ?_ | refine J (BS Z Z Z) ?_
  refine AD Z Z (AD Z Z (AH (AF (AF (AJ (AC Z Z ?_))))))
  first | refine J (E9 Z Z Z) ?_ | refine J (Ed Z Z Z) ?_ | refine J (EU Z Z Z) ?_ | refine J (Ea Tryz.underlying34 Z Z Z) ?_ | refine J (Ec Tryz.underlying34 Z Z Z) ?_ | refine J (st_neqN Tryz.underlying34 Z Z) ?_ | refine J (Eb Tryz.underlying34 Z Z Z) ?_ | refine J (st_neqFN Tryz.underlying34 Z Z) ?_
  refine AH ?_;refine Dg rfl ((decide_eq_true h0)) (AF (AJ (AC Z Z (AD Z Z (AD Z Z (AD Z Z (AH (Af ?_))))))));exact ⟨_,[],[],Ae rfl,rfl,rfl,rfl,rfl⟩
structure Bkd where
 i:Int
 m:Int
 r:A4
 deriving DecidableEq
abbrev Km:A4:=⟨0,SP,[],[]⟩
abbrev Ng (x:Bkd):D:= .agg [AG x.i,AG x.m,AG x.r.k,As x.r.acc.o,AG x.r.acc.k,As x.r.acc.a,As x.r.f,As x.r.t]
def prefN (i:Int) (q:List Int):Nat:=(max (YP i q) 0).toNat
def prefQ (i:Int) (q:List Int):List Int:=q.take (prefN i q)
def Pf (i:Int) (af:List Int):List Bkd:=(Cq af).map fun x=>⟨i,x,Km⟩
def Ee (i:Int) (x:Lin):List Bkd:=(prefQ i x.q).map fun y=>⟨i,y,x.r⟩
def req (p:Prb) (i:Int):List Bkd:=Pf i (Ar p i).af++(linL p).flatMap (Ee i)
def Dc (inM:Int ->Bool) (l:List Bkd):List Bkd:=l.filter fun b=>!inM b.m
def inM (M:List (Int×Bool)) (x:Int):Bool:=Ad M x false
theorem XT (i:Int) (q:List Int):prefN i q≤q.length:=by
 unfold prefN YP
 split
 ·rename_i h
  have:=List.idxOf_lt_length_iff.2 h;omega
 ·omega
theorem XV (i:Int) (q:List Int):max (YP i q) 0=(prefN i q:Int):=by unfold prefN;omega
theorem SJ (f:Int ->Bool) (l m:List Bkd):Dc f (l++m)=Dc f l++Dc f m:=List.filter_append _ _
theorem FQ (f:Int ->Bool) (l:List Bkd):(Dc f l).length≤l.length:=List.length_filter_le _ _
theorem I1 {f:Int ->Bool} {l:List Bkd} {k:Nat} (hk:k<l.length):Dc f (l.take (k+1))=Dc f (l.take k)++(if !f l[k].m then [l[k]] else []):=E7 hk
theorem GU {α β:Type} {f:α ->List β} {l:List α} {k:Nat} (hk:k<l.length):(l.take (k+1)).flatMap f=(l.take k).flatMap f++f l[k]:=by
 rw [List.take_succ_eq_append_getElem hk,List.flatMap_append];simp
theorem KQ {α β:Type} {f:α ->List β} {n:Nat}:∀{l:List α},(∀x∈l,(f x).length≤n) ->(l.flatMap f).length≤l.length*n
 | [],_=>by simp
 | a::l,h=>by
  have h1:=h a (by simp);have h2:=KQ (l:=l) (fun x hx=>h x (by simp [hx]));rw [List.flatMap_cons,List.length_append,List.length_cons,Nat.add_mul];omega
theorem YI {p:Prb} (x:Lin) (hx:x∈linL p):x.q.length≤p.it.length:=by
 unfold linL at hx;obtain ⟨y,_,rfl⟩:=List.mem_map.1 hx;show (qIds (ordP p) y.r).length≤_;unfold qIds;rw [List.length_map];exact Nat.le_trans (List.length_filter_le _ _) (FK p)
theorem Qt {p:Prb} (i:Int) (x:Lin) (hx:x∈linL p):(Ee i x).length≤p.it.length:=by
 unfold Ee prefQ;rw [List.length_map,List.length_take];have:=YI x hx;omega
abbrev Nx (mv:Nat):AV:= .d (.raw (.map (some mv)))
abbrev HM2 (p:Prb) (mv:Nat) (bs:Option (List Nat×Nat)) (M:List (Int×Bool)):Hp:=HA p++ [(12,[.map bs (CB AG BE M)]),(13,[.addr 12 0 (.map (some mv))])]
theorem Nc (p:Prb) (mv:Nat) (bs:Option (List Nat×Nat)) (M:List (Int×Bool)) (i:Int) (hb:Cz p) (h1:p.it.length≤1000) (h2:p.ro.length≤1000):A8 Tryz.prog 120 [.ptr 10 0 0,Nx mv,.d (AG i)] (HM2 p mv bs M) fun r H'=>r= .d (.sl none ((Dc (inM M) (req p i)).map Ng))∧H'=HM2 p mv bs M:=by
 have hI:=IT p i;have hIb:=MK hb i;have hLl:=FO p;have hcl:=(SF (Ar p i).af (by omega)).by [(20,21)] rfl;have hRl:∀x∈linL p,(Ee i x).length≤1000:=fun x hx=>Nat.le_trans (Qt i x hx) h1;have hsl:=GC (Ar p i).af
 obtain ⟨S,hS⟩:∃S,Cq (Ar p i).af=S:=⟨_,rfl⟩
 have hreq:req p i=(S.map fun x=>(⟨i,x,Km⟩:Bkd))++(linL p).flatMap (Ee i):=by unfold req Pf;rw [hS]
 rw [hreq];rw [hS] at hsl;refine BY Tryz.func120 Z Z Tryz.ntmps120 Z Z Z fun F hF=>(AF (AJ (AD Z Z ?_)));refine AH (AF (AJ (AD Z Z (AH (AF (EO 7 900 Ie Z Z Z Z (AJ (AC Z Z ?_))))))))
 first | refine J (Bc Z Z) ?_ | refine J (Ba Z Z) ?_ | refine J (Bd Z Z) ?_ | refine J (Bb Z Z) ?_
 first | refine J (AO rfl F1 Z Z Z) ?_ | refine J (AQ rfl F1 Z Z Z) ?_ | refine J (AR rfl F1 Z Z Z) ?_ | refine J (AP rfl F1 Z Z Z) ?_ | refine J (AN rfl F1 Z Z Z) ?_
 first | refine J (A0 Z Z C5 rfl) ?_ | refine J (AY Z Z Z C5 rfl) ?_ | refine J (AZ Z Z (rfl) rfl C5 rfl) ?_
 refine AC Z Z (J (Jl (CD p.it) i itm0 (Ar p i) Z Z Z L5 GO Ux Dr hI rfl) ?_)
 first | refine J (Sg rfl Ct Z Z) ?_ | refine J (Sf rfl Ct (by simp) Z Z) ?_ | refine J (Sh rfl Ct Z Z) ?_
 refine U (HQ hcl rfl [21] ⟨rfl,trivial⟩ Z Z Z Z Z Z Z Z Z) ?_;refine AD Z Z (AH (AF (AJ (AC Z Z (U (Qi laysS (Ar p i).af (by omega) Z Z Z Z Z Z Z) (AH (AF (AF ?_))))))));rw [hS];refine WV (emb:=AG) 8 21 S Z Z Z hsl.symm Z Z Z (AJ (AC Z Z ?_))
 first | refine J (Cc rfl Tryz.underlying33 rfl) ?_ | refine J (C8 Z Z Tryz.underlying33 rfl) ?_ | refine J (Cd rfl Tryz.underlying33 rfl) ?_ | refine J (Cb rfl Tryz.underlying33 rfl) ?_ | refine J (CW rfl Tryz.underlying33 rfl) ?_ | refine J (C9 rfl Tryz.underlying33 rfl) ?_
 refine AC Z Z (AH (Au (De (α:=Nat×List Bkd) (fun q=>⟨81,[(0,.ptr 10 0 0),(1,Nx mv),(2,.d (AG i)),(7,(.own 900 0 q.2.length)),(26,(.d (.sl none (S.map AG)))),(27,(.d (AG (S.length:Int)))),(28,(.d (AG (q.1:Int))))],HM2 p mv bs M++ [(900,[.rowD 229 8 (q.2.map Ng)])]⟩) (fun q=>q.1≤S.length∧q.2=Dc (inM M) ((S.map fun x=>(⟨i,x,Km⟩:Bkd)).take q.1)) (fun q=>S.length - q.1) ((0,[])) (⟨Nat.zero_le _,rfl⟩) (BP hF [10,11,12,13,900] Z Z ⟨rfl,rfl,rfl,rfl,rfl,rfl,rfl,trivial⟩) ?_)));rintro ⟨k,acc⟩ ⟨hk0,hA⟩;dsimp only at hk0 hA⊢;refine AF (AJ ?_)
 first | refine J (C7 Z Z Z) ?_ | refine J (Ca Z Z Z) ?_
 refine AH (AF ?_)
 first | refine BJ rfl (fun h29=>?_) (fun h29=>?_) | refine BB rfl (fun h29=>?_) (fun h29=>?_)
 ·have hk1:k<S.length:=DZ h29;refine Am (AF (Au (AF (AJ ?_))))
  first | refine J (CY (k) Z Z (rfl) (A2 hk1) Tryz.underlying33 rfl Dh rfl) ?_ | refine J (CZ (k) Z Z (rfl) (A2 hk1) rfl Tryz.underlying33 Dh rfl) ?_
  first | refine J (A0 Z Z A9 rfl) ?_ | refine J (AY Z Z Z A9 rfl) ?_ | refine J (AZ Z Z (rfl) rfl A9 rfl) ?_
  refine AD Z Z (AH (AF (AJ (AC Z Z (GK 32 13 0 Z Z (AC Z Z (J (IC M S[k] false (inM M S[k]) Z Z Z If GO Tn Z Z) ?_)))))))
  first | refine J (F2 Z Z) ?_ | refine J (FT Z Z) ?_
  refine AH ?_
  first | refine BJ rfl (fun h35=>?_) (fun h35=>?_) | refine BB rfl (fun h35=>?_) (fun h35=>?_)
  ·refine AJ ?_;have hal:acc.length≤100000:=by rw [hA];refine Nat.le_trans (FQ _ _) ?_;rw [List.length_take,List.length_map];omega
   refine AC Z Z (AC Z Z (AC Z Z (J (Cu W4 pl229 Z Z Z) (U (Fg 1 Ie Z Z Z Z Z Z Z Z) ?_))))
   first | refine U (Ib (acc) ([⟨i,S[k],Km⟩]) Z Z Z Z Z Z Z Z Ie (by simp only [List.length_singleton];omega) Z Z Z Z) ?_ | refine U (Ka (acc) ([⟨i,S[k],Km⟩]) Z Z Z Z Z Z (fun _=>rfl) Ie (by simp only [List.length_singleton];omega) Z Z Z Z) ?_
   refine AD Z Z (AH (AJ (J (Bi Z Z (A6 (k+1) (by omega)) rfl) (AC Z Z (AH ?_)))));exact ⟨(k+1,acc++ [⟨i,S[k],Km⟩]),⟨by show k+1≤_;omega,by show acc++ [⟨i,S[k],Km⟩]=Dc (inM M) ((S.map fun x=>(⟨i,x,Km⟩:Bkd)).take (k+1));rw [I1 (by simpa using hk1),List.getElem_map,if_pos (by show (!inM M S[k])=true;simpa using h35),hA]⟩,by show S.length - (k+1)<S.length - k;omega,BP hF [10,11,12,13,900] rfl (rfl) ⟨rfl,rfl,rfl,rfl,rfl,rfl,rfl,trivial⟩⟩
  ·refine Am (AJ (J (Bi Z Z (A6 (k+1) (by omega)) rfl) (AC Z Z (AH ?_))));exact ⟨(k+1,acc),⟨by show k+1≤_;omega,by show acc=Dc (inM M) ((S.map fun x=>(⟨i,x,Km⟩:Bkd)).take (k+1));rw [I1 (by simpa using hk1),List.getElem_map,if_neg (by show ¬(!inM M S[k])=true;simpa using h35),List.append_nil,hA]⟩,by show S.length - (k+1)<S.length - k;omega,BP hF [10,11,12,13,900] rfl (rfl) ⟨rfl,rfl,rfl,rfl,rfl,rfl,rfl,trivial⟩⟩
 ·refine C6 (AF (AF ?_));have hA1:acc=Dc (inM M) (S.map fun x=>(⟨i,x,Km⟩:Bkd)):=by rw [hA,List.take_of_length_le (by rw [List.length_map];have h:=h29;omega)]
  have hal1:acc.length≤100000:=by rw [hA1];refine Nat.le_trans (FQ _ _) ?_;rw [List.length_map];omega
  refine AJ (AC Z Z ?_)
  first | refine J (Bc Z Z) ?_ | refine J (Ba Z Z) ?_ | refine J (Bd Z Z) ?_ | refine J (Bb Z Z) ?_
  first | refine J (AO rfl IB Z Z Z) ?_ | refine J (AQ rfl IB Z Z Z) ?_ | refine J (AR rfl IB Z Z Z) ?_ | refine J (AP rfl IB Z Z Z) ?_ | refine J (AN rfl IB Z Z Z) ?_
  first | refine J (A0 Z Z FL rfl) ?_ | refine J (AY Z Z Z FL rfl) ?_ | refine J (AZ Z Z (rfl) rfl FL rfl) ?_
  first | refine J (Cc rfl Tryz.underlying213 rfl) ?_ | refine J (C8 Z Z Tryz.underlying213 rfl) ?_ | refine J (Cd rfl Tryz.underlying213 rfl) ?_ | refine J (Cb rfl Tryz.underlying213 rfl) ?_ | refine J (CW rfl Tryz.underlying213 rfl) ?_ | refine J (C9 rfl Tryz.underlying213 rfl) ?_
  refine AC Z Z (AH (Au (De (α:=Nat×List Bkd) (fun q=>⟨81,[(0,.ptr 10 0 0),(1,Nx mv),(2,.d (AG i)),(7,(.own 900 0 q.2.length)),(46,(.d (.sl none ((linL p).map LB)))),(47,(.d (AG ((linL p).length:Int)))),(48,(.d (AG (q.1:Int))))],HM2 p mv bs M++ [(900,[.rowD 229 8 (q.2.map Ng)])]⟩) (fun q=>q.1≤(linL p).length∧q.2=acc++Dc (inM M) (((linL p).take q.1).flatMap (Ee i))) (fun q=>(linL p).length - q.1) ((0,acc)) (⟨Nat.zero_le _,by simp [Dc]⟩) (BP hF [10,11,12,13,900] Z Z ⟨rfl,rfl,rfl,rfl,rfl,rfl,rfl,trivial⟩) ?_)));rintro ⟨m,acc2⟩ ⟨hm0,hB⟩;dsimp only at hm0 hB⊢;refine AF (AJ ?_)
  first | refine J (C7 Z Z Z) ?_ | refine J (Ca Z Z Z) ?_
  refine AH (AF ?_)
  first | refine BJ rfl (fun h49=>?_) (fun h49=>?_) | refine BB rfl (fun h49=>?_) (fun h49=>?_)
  ·have hm1:m<(linL p).length:=DZ h49;refine Am (AF (Au (AF (AJ ?_))));have hql:=YI _ (List.getElem_mem hm1);have hfl:=KQ (f:=Ee i) (n:=1000) (l:=(linL p).take m) (fun x hx=>hRl x (List.mem_of_mem_take hx));have hbl:acc2.length≤1200000:=by rw [hB,List.length_append];have:=FQ (inM M) (((linL p).take m).flatMap (Ee i));rw [List.length_take] at hfl;have h3:min m (linL p).length*1000≤1000*1000:=Nat.mul_le_mul_right _ (by omega);omega
   first | refine J (CY (m) Z Z (rfl) (A2 hm1) Tryz.underlying213 rfl Jg rfl) ?_ | refine J (CZ (m) Z Z (rfl) (A2 hm1) rfl Tryz.underlying213 Jg rfl) ?_
   first | refine J (An Z Z Js rfl) ?_ | refine J (Ao Z Z Js Z Z Z) ?_ | refine J (Ap Z Z (rfl) rfl Js rfl) ?_
   refine U (Cm 2 Q6 Z Z Z Z) (U (Bj Z Z Z Z Z Z Z Jg) (AH (AF (AJ ?_))))
   first | refine J (AO rfl EH Z Z Z) ?_ | refine J (AQ rfl EH Z Z Z) ?_ | refine J (AR rfl EH Z Z Z) ?_ | refine J (AP rfl EH Z Z Z) ?_ | refine J (AN rfl EH Z Z Z) ?_
   first | refine J (A0 Z Z Aq rfl) ?_ | refine J (AY Z Z Z Aq rfl) ?_ | refine J (AZ Z Z (rfl) rfl Aq rfl) ?_
   refine AC Z Z (J (BF (U8 (linL p)[m].q i (by omega)) Z Z) (AD Z Z (AH (AF (AJ ?_)))))
   first | refine J (AO rfl EH Z Z Z) ?_ | refine J (AQ rfl EH Z Z Z) ?_ | refine J (AR rfl EH Z Z Z) ?_ | refine J (AP rfl EH Z Z Z) ?_ | refine J (AN rfl EH Z Z Z) ?_
   first | refine J (A0 Z Z Aq rfl) ?_ | refine J (AY Z Z Z Aq rfl) ?_ | refine J (AZ Z Z (rfl) rfl Aq rfl) ?_
   refine AC Z Z (J (P5 Z Z (maxI _) rfl) (J (LW ((linL p)[m].q) (prefN i (linL p)[m].q) Z Z Z (XV _ _) (XT _ _) Tryz.underlying33 Dh (fun _=>rfl) rfl) ?_))
   first | refine J (Cc rfl Tryz.underlying33 rfl) ?_ | refine J (C8 Z Z Tryz.underlying33 rfl) ?_ | refine J (Cd rfl Tryz.underlying33 rfl) ?_ | refine J (Cb rfl Tryz.underlying33 rfl) ?_ | refine J (CW rfl Tryz.underlying33 rfl) ?_ | refine J (C9 rfl Tryz.underlying33 rfl) ?_
   refine AC Z Z (AH (Au (De (α:=Nat×List Bkd) (fun q=>⟨81,[(0,.ptr 10 0 0),(1,Nx mv),(2,.d (AG i)),(7,(.own 900 0 q.2.length)),(12,(.ptr 2 0 0)),(46,(.d (.sl none ((linL p).map LB)))),(47,(.d (AG ((linL p).length:Int)))),(48,(.d (AG (m:Int)))),(60,(.d (.sl none ((prefQ i (linL p)[m].q).map AG)))),(61,(.d (AG ((prefQ i (linL p)[m].q).length:Int)))),(62,(.d (AG (q.1:Int))))],HM2 p mv bs M++ [(900,[.rowD 229 8 (q.2.map Ng)]),(2,[.blk 218 [.d (AG (linL p)[m].r.k),.d (As (linL p)[m].r.acc.o),.d (AG (linL p)[m].r.acc.k),.d (As (linL p)[m].r.acc.a),.d (As (linL p)[m].r.f),.d (As (linL p)[m].r.t),.d (AG (linL p)[m].n),.d (.sl none ((linL p)[m].q.map AG))]])]⟩) (fun q=>q.1≤(prefQ i (linL p)[m].q).length∧q.2=acc2++Dc (inM M) ((Ee i (linL p)[m]).take q.1)) (fun q=>(prefQ i (linL p)[m].q).length - q.1) ((0,acc2)) (⟨Nat.zero_le _,by simp [Dc]⟩) (BP hF [10,11,12,13,900,2] Z Z ⟨rfl,rfl,rfl,rfl,rfl,rfl,rfl,rfl,rfl,rfl,rfl,trivial⟩) ?_)));rintro ⟨j,acc3⟩ ⟨hj0,hC⟩;dsimp only at hj0 hC⊢;refine AF (AJ ?_)
   first | refine J (C7 Z Z Z) ?_ | refine J (Ca Z Z Z) ?_
   refine AH (AF ?_)
   first | refine BJ rfl (fun h63=>?_) (fun h63=>?_) | refine BB rfl (fun h63=>?_) (fun h63=>?_)
   ·have hj1:j<(prefQ i (linL p)[m].q).length:=DZ h63;refine Am (AF (Au (AF (AJ ?_))))
    first | refine J (CY (j) Z Z (rfl) (A2 hj1) Tryz.underlying33 rfl Dh rfl) ?_ | refine J (CZ (j) Z Z (rfl) (A2 hj1) rfl Tryz.underlying33 Dh rfl) ?_
    first | refine J (A0 Z Z A9 rfl) ?_ | refine J (AY Z Z Z A9 rfl) ?_ | refine J (AZ Z Z (rfl) rfl A9 rfl) ?_
    refine AD Z Z (AH (AF (AJ (AC Z Z (GK 66 13 0 Z Z (AC Z Z (J (IC M (prefQ i (linL p)[m].q)[j] false (inM M (prefQ i (linL p)[m].q)[j]) Z Z Z If GO Tn Z Z) ?_)))))))
    first | refine J (F2 Z Z) ?_ | refine J (FT Z Z) ?_
    refine AH ?_
    first | refine BJ rfl (fun h69=>?_) (fun h69=>?_) | refine BB rfl (fun h69=>?_) (fun h69=>?_)
    ·refine AJ ?_;have hcl3:acc3.length≤1300000:=by rw [hC,List.length_append];have h3:=FQ (inM M) ((Ee i (linL p)[m]).take j);have h4:=hRl _ (List.getElem_mem hm1);rw [List.length_take] at h3;omega
     refine AC Z Z (AC Z Z (AC Z Z ?_))
     first | refine J (AO rfl Ge Z Z Z) ?_ | refine J (AQ rfl Ge Z Z Z) ?_ | refine J (AR rfl Ge Z Z Z) ?_ | refine J (AP rfl Ge Z Z Z) ?_ | refine J (AN rfl Ge Z Z Z) ?_
     first | refine J (An Z Z Ab rfl) ?_ | refine J (Ao Z Z Ab Z Z Z) ?_ | refine J (Ap Z Z (rfl) rfl Ab rfl) ?_
     refine J (Cu W4 pl229 Z Z Z) (U (Fg 3 Ie Z Z Z Z Z Z Z Z) ?_)
     first | refine U (Ib (acc3) ([⟨i,(prefQ i (linL p)[m].q)[j],(linL p)[m].r⟩]) Z Z Z Z Z Z Z Z Ie (by simp only [List.length_singleton];omega) Z Z Z Z) ?_ | refine U (Ka (acc3) ([⟨i,(prefQ i (linL p)[m].q)[j],(linL p)[m].r⟩]) Z Z Z Z Z Z (fun _=>rfl) Ie (by simp only [List.length_singleton];omega) Z Z Z Z) ?_
     refine AD Z Z (AH (AJ (J (Bi Z Z (A6 (j+1) (by have h5:(prefQ i (linL p)[m].q).length≤1000:=by {unfold prefQ;rw [List.length_take];omega};omega)) rfl) (AC Z Z (AH ?_)))));exact ⟨(j+1,acc3++ [⟨i,(prefQ i (linL p)[m].q)[j],(linL p)[m].r⟩]),⟨by show j+1≤_;omega,by show acc3++ [⟨i,(prefQ i (linL p)[m].q)[j],(linL p)[m].r⟩]=acc2++Dc (inM M) ((Ee i (linL p)[m]).take (j+1));rw [I1 (by unfold Ee;simpa using hj1),hC,List.append_assoc];congr 2;unfold Ee;rw [List.getElem_map,if_pos (by show (!inM M (prefQ i (linL p)[m].q)[j])=true;simpa using h69)]⟩,by show (prefQ i (linL p)[m].q).length - (j+1)<(prefQ i (linL p)[m].q).length - j;omega,BP hF [10,11,12,13,900,2] rfl (rfl) ⟨rfl,rfl,rfl,rfl,rfl,rfl,rfl,rfl,rfl,rfl,rfl,trivial⟩⟩
    ·refine Am (AJ (J (Bi Z Z (A6 (j+1) (by have h5:(prefQ i (linL p)[m].q).length≤1000:=by {unfold prefQ;rw [List.length_take];omega};omega)) rfl) (AC Z Z (AH ?_))));exact ⟨(j+1,acc3),⟨by show j+1≤_;omega,by show acc3=acc2++Dc (inM M) ((Ee i (linL p)[m]).take (j+1));rw [I1 (by unfold Ee;simpa using hj1),hC];unfold Ee;rw [List.getElem_map,if_neg (by show ¬(!inM M (prefQ i (linL p)[m].q)[j])=true;simpa using h69),List.append_nil]⟩,by show (prefQ i (linL p)[m].q).length - (j+1)<(prefQ i (linL p)[m].q).length - j;omega,BP hF [10,11,12,13,900,2] rfl (rfl) ⟨rfl,rfl,rfl,rfl,rfl,rfl,rfl,rfl,rfl,rfl,rfl,trivial⟩⟩
   ·have hfin:acc3=acc2++Dc (inM M) (Ee i (linL p)[m]):=by rw [hC,List.take_of_length_le (by unfold Ee;rw [List.length_map];have h:=h63;omega)]
    refine C6 (AJ (J (Bi Z Z (A6 (m+1) (by omega)) rfl) (AC Z Z (AH ?_))));exact ⟨(m+1,acc3),⟨by show m+1≤_;omega,by show acc3=acc++Dc (inM M) (((linL p).take (m+1)).flatMap (Ee i));rw [GU hm1,SJ,←List.append_assoc,←hB];exact hfin⟩,by show (linL p).length - (m+1)<(linL p).length - m;omega,BP hF [10,11,12,13,900] rfl (rfl) ⟨rfl,rfl,rfl,rfl,rfl,rfl,rfl,trivial⟩⟩
  ·refine C6 (AF ?_);have hfa:acc2=Dc (inM M) ((S.map fun x=>(⟨i,x,Km⟩:Bkd))++(linL p).flatMap (Ee i)):=by rw [hB,hA1,List.take_of_length_le (by have h:=h49;omega),SJ]
   refine WV (emb:=Ng) 7 900 acc2 Z Z Z Z Z Z Z (AJ (AC Z Z (AD Z Z (AH (Af ?_)))));exact ⟨_,[10,11,12,13],_,Ae rfl,rfl,rfl,by rw [hfa],rfl⟩
def Gz (p:Prb) (f:Int ->Bool) (i:Int):List Bkd:=if f i then Dc f (req p i) else []
def DN (p:Prb) (f:Int ->Bool):List Bkd:=(G3 p).flatMap (Gz p f)
theorem MG {p:Prb} (hb:Cz p) (h1:p.it.length≤1000) (h2:p.ro.length≤1000) (i:Int):(req p i).length≤1100000:=by
 unfold req Pf;rw [List.length_append,List.length_map,GC];have h3:=MK hb i;have h4:=KQ (f:=Ee i) (n:=1000) (l:=linL p) (fun x hx=>Nat.le_trans (Qt i x hx) h1);have h5:=FO p;have h6:(linL p).length*1000≤1000*1000:=Nat.mul_le_mul_right _ (by omega);omega
theorem Ym {p:Prb} (hb:Cz p) (h1:p.it.length≤1000) (h2:p.ro.length≤1000) (f:Int ->Bool) (i:Int):(Gz p f i).length≤1100000:=by
 unfold Gz;split
 ·exact Nat.le_trans (FQ _ _) (MG hb h1 h2 i)
 ·simp
theorem le_step {a k N:Nat} (h:a≤k*N):a≤(k+1)*N:=Nat.le_trans h (Nat.mul_le_mul_right _ (Nat.le_succ _))
theorem YK {α:Type} {a b:List α} {k N:Nat} (h:a.length≤k*N) (h2:b.length≤N):(a++b).length≤(k+1)*N:=by rw [List.length_append,Nat.add_mul,Nat.one_mul];exact Nat.add_le_add h h2
theorem SG (p:Prb) (mv:Nat) (bs:Option (List Nat×Nat)) (M:List (Int×Bool)) (hb:Cz p) (h1:p.it.length≤1000) (h2:p.ro.length≤1000):A8 Tryz.prog 157 [.ptr 10 0 0,Nx mv] (HM2 p mv bs M) fun r H'=>r= .d (.sl none ((DN p (inM M)).map Ng))∧H'=HM2 p mv bs M:=by
 have hbl:∀i,(Gz p (inM M) i).length≤1100000:=Ym hb h1 h2 _;have hor:(G3 p).length≤1000:=by unfold G3;rw [List.length_map];exact Nat.le_trans (FK p) h1
 have hbs:DN p (inM M)=(G3 p).flatMap (Gz p (inM M)):=rfl;rw [hbs];refine BY Tryz.func157 Z Z Tryz.ntmps157 Z Z Z fun F hF=>(AF (AJ (AD Z Z (AH ?_))));refine AF (AJ (AD Z Z (AH (AF (AF (EO 5 900 Ie Z Z Z Z (AJ (AC Z Z ?_))))))))
 first | refine J (Bc Z Z) ?_ | refine J (Ba Z Z) ?_ | refine J (Bd Z Z) ?_ | refine J (Bb Z Z) ?_
 first | refine J (AO rfl EI Z Z Z) ?_ | refine J (AQ rfl EI Z Z Z) ?_ | refine J (AR rfl EI Z Z Z) ?_ | refine J (AP rfl EI Z Z Z) ?_ | refine J (AN rfl EI Z Z Z) ?_
 first | refine J (A0 Z Z Aq rfl) ?_ | refine J (AY Z Z Z Aq rfl) ?_ | refine J (AZ Z Z (rfl) rfl Aq rfl) ?_
 first | refine J (Cc rfl Tryz.underlying33 rfl) ?_ | refine J (C8 Z Z Tryz.underlying33 rfl) ?_ | refine J (Cd rfl Tryz.underlying33 rfl) ?_ | refine J (Cb rfl Tryz.underlying33 rfl) ?_ | refine J (CW rfl Tryz.underlying33 rfl) ?_ | refine J (C9 rfl Tryz.underlying33 rfl) ?_
 refine AC Z Z (AH (Au (De (α:=Nat×List Bkd) (fun q=>⟨28,[(0,.ptr 10 0 0),(1,Nx mv),(5,(.own 900 0 q.2.length)),(11,(.d (.sl none ((G3 p).map AG)))),(12,(.d (AG ((G3 p).length:Int)))),(13,(.d (AG (q.1:Int))))],HM2 p mv bs M++ [(900,[.rowD 229 8 (q.2.map Ng)])]⟩) (fun q=>q.1≤(G3 p).length∧q.2=((G3 p).take q.1).flatMap (Gz p (inM M))∧q.2.length≤q.1*1100000) (fun q=>(G3 p).length - q.1) ((0,[])) (⟨Nat.zero_le _,rfl,Nat.le_refl _⟩) (BP hF [10,11,12,13,900] Z Z ⟨rfl,rfl,rfl,rfl,rfl,rfl,trivial⟩) ?_)));rintro ⟨k,acc⟩ ⟨hk0,hA,hL⟩;dsimp only at hk0 hA hL⊢;refine AF (AJ ?_)
 first | refine J (C7 Z Z Z) ?_ | refine J (Ca Z Z Z) ?_
 refine AH (AF ?_)
 first | refine BJ rfl (fun h14=>?_) (fun h14=>?_) | refine BB rfl (fun h14=>?_) (fun h14=>?_)
 ·have hk1:k<(G3 p).length:=DZ h14;refine Am (AF (Au (AF (AJ ?_))))
  first | refine J (CY (k) Z Z (rfl) (A2 hk1) Tryz.underlying33 rfl Dh rfl) ?_ | refine J (CZ (k) Z Z (rfl) (A2 hk1) rfl Tryz.underlying33 Dh rfl) ?_
  first | refine J (A0 Z Z A9 rfl) ?_ | refine J (AY Z Z Z A9 rfl) ?_ | refine J (AZ Z Z (rfl) rfl A9 rfl) ?_
  refine AD Z Z (AH (AF (AJ (AC Z Z (GK 17 13 0 Z Z (AC Z Z (J (IC M (G3 p)[k] false (inM M (G3 p)[k]) Z Z Z If GO Tn Z Z) (AH ?_))))))))
  first | refine BJ rfl (fun h19=>?_) (fun h19=>?_) | refine BB rfl (fun h19=>?_) (fun h19=>?_)
  ·refine AJ (AC Z Z (AC Z Z (AC Z Z (AC Z Z (U (HQ (Nc p mv bs M (G3 p)[k] hb h1 h2) rfl [10,11,12,13] ⟨rfl,rfl,rfl,rfl,trivial⟩ Z Z Z Z Z Z Z Z Z) ?_)))));have hrl:=Nat.le_trans (FQ (inM M) _) (MG hb h1 h2 (G3 p)[k])
   first | refine U (Ib (acc) (Dc (inM M) (req p (G3 p)[k])) Z Z Z Z Z Z Z Z Ie (by omega) Z Z Z Z) ?_ | refine U (Ka (acc) (Dc (inM M) (req p (G3 p)[k])) Z Z Z Z Z Z (fun _=>rfl) Ie (by omega) Z Z Z Z) ?_
   refine AD Z Z (AH (AJ (J (Bi Z Z (A6 (k+1) (by have h:=hor;omega)) rfl) (AC Z Z (AH ?_)))));exact ⟨(k+1,acc++Dc (inM M) (req p (G3 p)[k])),⟨by show k+1≤_;omega,by show acc++Dc (inM M) (req p (G3 p)[k])=((G3 p).take (k+1)).flatMap (Gz p (inM M));rw [GU hk1,←hA];unfold Gz;rw [if_pos (by simpa using h19)],YK hL (Nat.le_trans (FQ (inM M) _) (MG hb h1 h2 (G3 p)[k]))⟩,by show (G3 p).length - (k+1)<(G3 p).length - k;omega,BP hF [10,11,12,13,900] rfl (rfl) ⟨rfl,rfl,rfl,rfl,rfl,rfl,trivial⟩⟩
  ·refine Am (AJ (J (Bi Z Z (A6 (k+1) (by have h:=hor;omega)) rfl) (AC Z Z (AH ?_))));exact ⟨(k+1,acc),⟨by show k+1≤_;omega,by show acc=((G3 p).take (k+1)).flatMap (Gz p (inM M));rw [GU hk1,←hA];unfold Gz;rw [if_neg (by simpa using h19),List.append_nil],le_step hL⟩,by show (G3 p).length - (k+1)<(G3 p).length - k;omega,BP hF [10,11,12,13,900] rfl (rfl) ⟨rfl,rfl,rfl,rfl,rfl,rfl,trivial⟩⟩
 ·refine C6 (AF ?_);have hfa:acc=(G3 p).flatMap (Gz p (inM M)):=by rw [hA,List.take_of_length_le (by have h:=h14;omega)]
  refine WV (emb:=Ng) 5 900 acc Z Z Z Z Z Z Z (AJ (AC Z Z (AD Z Z (AH (Af ?_)))));exact ⟨_,[10,11,12,13],_,Ae rfl,rfl,rfl,by rw [hfa],rfl⟩
def CC (p:Prb) (r:A4) (l:List (Int×Bool)):Int:=(l.map fun e=>if e.2=true then CM (Ar p e.1) r else 0).sum
theorem Kc {p:Prb} {r:A4} {l m:List (Int×Bool)} (h:l.Perm m):CC p r l=CC p r m:=Mq h _
theorem VA (p:Prb) (r:A4) (e:Int×Bool) (l:List (Int×Bool)):CC p r (e::l)=(if e.2=true then CM (Ar p e.1) r else 0)+CC p r l:=by simp [CC]
theorem MV (p:Prb) (r:A4) (k:Int) (v:Bool) (l:List (Int×Bool)):CC p r ((k,v)::l)=(if v=true then CM (Ar p k) r else 0)+CC p r l:=VA p r (k,v) l
theorem Na {p:Prb} {l:List Int} (h:Bn p l=0):Ak p=0:=by
 unfold Bn at h;split at h
 ·exact h
 ·rename_i hn;simpa using hn
theorem UJ {a b:Bool} {x:D} (h:a=b):AV.d (.tup [.raw (.bool a),x])= .d (.tup [.raw (.bool b),x]):=by rw [h]
theorem T0 (i:AT) (r:A4): -1000000000000000≤CM i r∧CM i r≤1000000000000000:=by
 unfold CM
 split
 ·rename_i h;simpa [Mx] using QN h.1 r
 ·omega
theorem S7 (p:Prb) (r:A4) {l:List (Int×Bool)} (h:l.length≤1000): -1000000000000000000≤CC p r l∧CC p r l≤1000000000000000000:=by
 have:=OJ (l:=l) (f:=fun e=>if e.2=true then CM (Ar p e.1) r else 0) (B:=1000000000000000) (fun e _=>by
  show _≤(if e.2=true then _ else _)∧_;have:=T0 (Ar p e.1) r
  split<;>omega) 1000 h (by omega)
 unfold CC;omega
def P0 (p:Prb) (M:List (Int×Bool)) (x:Lin):List Roo:=if x.n+CC p x.r M<0 then [⟨x.r,0 - (x.n+CC p x.r M)⟩] else []
def FU (p:Prb) (M:List (Int×Bool)):List Roo:=(linL p).flatMap (P0 p M)
theorem TN {p:Prb} (hp:Ak p=0) (x:Lin) (hx:x∈linL p):0≤x.n∧x.n≤4000000000000000:=by
 unfold linL at hx;obtain ⟨y,hy,rfl⟩:=List.mem_map.1 hx;have:=Kn (Ia hp).1 y ((Zda p.ro).mem_iff.1 hy);show 0≤max y.n 0∧max y.n 0≤_;omega
abbrev HM3 (p:Prb) (mv:Nat) (M:List (Int×Bool)):Hp:=HA p++ [(12,[B5 AG BE M]),(13,[.addr 12 0 (.map (some mv))])]
theorem Jd (p:Prb) (mv:Nat) (M:List (Int×Bool)) (hp:Ak p=0) (hb:Cz p) (hM:M.length≤1000):A8 Tryz.prog 159 [.ptr 10 0 0,Nx mv] (HM3 p mv M) fun r H'=>r= .d (.sl none ((FU p M).map DT))∧H'=HM3 p mv M:=by
 have hb1:=hb.1;have hLl:=FO p;refine BY Tryz.func159 Z Z Tryz.ntmps159 Z Z Z fun F hF=>(AF (AJ (AD Z Z (AH ?_))));refine AF (AJ (AD Z Z (AH (AF (AF (EO 5 900 UE Z Z Z Z (AJ (AC Z Z ?_))))))))
 first | refine J (Bc Z Z) ?_ | refine J (Ba Z Z) ?_ | refine J (Bd Z Z) ?_ | refine J (Bb Z Z) ?_
 first | refine J (AO rfl IB Z Z Z) ?_ | refine J (AQ rfl IB Z Z Z) ?_ | refine J (AR rfl IB Z Z Z) ?_ | refine J (AP rfl IB Z Z Z) ?_ | refine J (AN rfl IB Z Z Z) ?_
 first | refine J (A0 Z Z FL rfl) ?_ | refine J (AY Z Z Z FL rfl) ?_ | refine J (AZ Z Z (rfl) rfl FL rfl) ?_
 first | refine J (Cc rfl Tryz.underlying213 rfl) ?_ | refine J (C8 Z Z Tryz.underlying213 rfl) ?_ | refine J (Cd rfl Tryz.underlying213 rfl) ?_ | refine J (Cb rfl Tryz.underlying213 rfl) ?_ | refine J (CW rfl Tryz.underlying213 rfl) ?_ | refine J (C9 rfl Tryz.underlying213 rfl) ?_
 refine AC Z Z (AH (Au (De (α:=Nat×List Roo) (fun q=>⟨53,[(0,.ptr 10 0 0),(1,Nx mv),(5,(.own 900 0 q.2.length)),(14,(.d (.sl none ((linL p).map LB)))),(15,(.d (AG ((linL p).length:Int)))),(16,(.d (AG (q.1:Int))))],HM3 p mv M++ [(900,[.rowD 205 7 (q.2.map DT)])]⟩) (fun q=>q.1≤(linL p).length∧q.2=((linL p).take q.1).flatMap (P0 p M)∧q.2.length≤q.1) (fun q=>(linL p).length - q.1) ((0,[])) (⟨Nat.zero_le _,rfl,Nat.le_refl _⟩) (BP hF [10,11,12,13,900] Z Z ⟨rfl,rfl,rfl,rfl,rfl,rfl,trivial⟩) ?_)));rintro ⟨k,acc⟩ ⟨hk0,hA,hL⟩;dsimp only at hk0 hA hL⊢;refine AF (AJ ?_)
 first | refine J (C7 Z Z Z) ?_ | refine J (Ca Z Z Z) ?_
 refine AH (AF ?_)
 first | refine BJ rfl (fun h17=>?_) (fun h17=>?_) | refine BB rfl (fun h17=>?_) (fun h17=>?_)
 ·have hk1:k<(linL p).length:=DZ h17;refine Am (AF (Au (AF (AJ ?_))));have hxn:=TN hp _ (List.getElem_mem hk1)
  first | refine J (CY (k) Z Z (rfl) (A2 hk1) Tryz.underlying213 rfl Jg rfl) ?_ | refine J (CZ (k) Z Z (rfl) (A2 hk1) rfl Tryz.underlying213 Jg rfl) ?_
  first | refine J (An Z Z Js rfl) ?_ | refine J (Ao Z Z Js Z Z Z) ?_ | refine J (Ap Z Z (rfl) rfl Js rfl) ?_
  refine U (Cm 1 Q6 Z Z Z Z) (U (Bj Z Z Z Z Z Z Z Jg) (AH (AF (AJ ?_))))
  first | refine J (AO rfl Th Z Z Z) ?_ | refine J (AQ rfl Th Z Z Z) ?_ | refine J (AR rfl Th Z Z Z) ?_ | refine J (AP rfl Th Z Z Z) ?_ | refine J (AN rfl Th Z Z Z) ?_
  first | refine J (A0 Z Z Be rfl) ?_ | refine J (AY Z Z Z Be rfl) ?_ | refine J (AZ Z Z (rfl) rfl Be rfl) ?_
  refine AD Z Z (AH ?_);refine AF (AF (AJ (AC Z Z (GK 22 13 0 Z Z (U (HZ 2 Z Z Z If Z Z Z Z) (AH (Au (De (α:=List Nat×Int) (fun q=>⟨53,[(0,.ptr 10 0 0),(1,Nx mv),(5,(.own 900 0 acc.length)),(7,(.ptr 1 0 0)),(8,(.d (AG q.2))),(14,(.d (.sl none ((linL p).map LB)))),(15,(.d (AG ((linL p).length:Int)))),(16,(.d (AG (k:Int)))),(23,(.ptr 2 0 0))],HM3 p mv M++ [(900,[.rowD 205 7 (acc.map DT)]),(1,[.blk 218 [.d (AG (linL p)[k].r.k),.d (As (linL p)[k].r.acc.o),.d (AG (linL p)[k].r.acc.k),.d (As (linL p)[k].r.acc.a),.d (As (linL p)[k].r.f),.d (As (linL p)[k].r.t),.d (AG (linL p)[k].n),.d (.sl none ((linL p)[k].q.map AG))]]),(2,[.iter 12 0 M.length q.1])]⟩) (fun q=>q.2+CC p (linL p)[k].r (DW M (List.range M.length) q.1)=(linL p)[k].n+CC p (linL p)[k].r M) (fun q=>(DW M (List.range M.length) q.1).length) (([],(linL p)[k].n)) (by show (linL p)[k].n+CC p (linL p)[k].r (DW M (List.range M.length) [])=_;rw [GN (by simp)]) (BP hF [10,11,12,13,900,1,2] Z Z ⟨rfl,rfl,rfl,rfl,rfl,rfl,rfl,rfl,rfl,trivial⟩) ?_))))))));rintro ⟨seen,left⟩ hI;dsimp only at hI⊢;refine AF (AJ (NA (M) Z Z Z Z (fun hl24=>?_) (fun j24 b24 k24 v24 hm24 hb24 hB24 hp24=>⟨_,rfl,?_⟩)))
  ·have hfin:left=(linL p)[k].n+CC p (linL p)[k].r M:=by have h1:=hI;rw [hl24] at h1;have h2:CC p (linL p)[k].r []=0:=rfl;omega
   first | refine J (BT Z Z Z) ?_ | refine J (BS Z Z Z) ?_
   refine AH (AF (Ey Z Z (C6 (AF (AJ (AC Z Z ?_))))))
   first | refine J (C7 Z Z Z) ?_ | refine J (Ca Z Z Z) ?_
   refine AH ?_
   first | refine BJ rfl (fun h42=>?_) (fun h42=>?_) | refine BB rfl (fun h42=>?_) (fun h42=>?_)
   ·refine AJ ?_;have hv4:=S7 p (linL p)[k].r hM;refine AC Z Z ?_
    first | refine J (AO rfl Ge Z Z Z) ?_ | refine J (AQ rfl Ge Z Z Z) ?_ | refine J (AR rfl Ge Z Z Z) ?_ | refine J (AP rfl Ge Z Z Z) ?_ | refine J (AN rfl Ge Z Z Z) ?_
    first | refine J (An Z Z Ab rfl) ?_ | refine J (Ao Z Z Ab Z Z Z) ?_ | refine J (Ap Z Z (rfl) rfl Ab rfl) ?_
    refine AC Z Z (J (Ws rfl (IntWalk.i64_in _ (by omega)) rfl) (J (Cu W5 X2 Z Z Z) (U (Fg 3 UE Z Z Z Z Z Z Z Z) ?_)))
    first | refine U (Ib (acc) ([⟨(linL p)[k].r,0 - left⟩]) Z Z Z Z Z Z Z Z UE (by simp only [List.length_singleton];omega) Z Z Z Z) ?_ | refine U (Ka (acc) ([⟨(linL p)[k].r,0 - left⟩]) Z Z Z Z Z Z (fun _=>rfl) UE (by simp only [List.length_singleton];omega) Z Z Z Z) ?_
    refine AD Z Z (AH (AJ (J (Bi Z Z (A6 (k+1) (by omega)) rfl) (AC Z Z (AH ?_)))));exact ⟨(k+1,acc++ [⟨(linL p)[k].r,0 - left⟩]),⟨by show k+1≤_;omega,by show acc++ [⟨(linL p)[k].r,0 - left⟩]=((linL p).take (k+1)).flatMap (P0 p M);rw [GU hk1,←hA];unfold P0;rw [←hfin,if_pos (by simpa using h42)],by show (acc++ [_]).length≤k+1;rw [List.length_append];simp;omega⟩,by show (linL p).length - (k+1)<(linL p).length - k;omega,BP hF [10,11,12,13,900] rfl (rfl) ⟨rfl,rfl,rfl,rfl,rfl,rfl,trivial⟩⟩
   ·refine Am (AJ (J (Bi Z Z (A6 (k+1) (by omega)) rfl) (AC Z Z (AH ?_))));exact ⟨(k+1,acc),⟨by show k+1≤_;omega,by show acc=((linL p).take (k+1)).flatMap (P0 p M);rw [GU hk1,←hA];unfold P0;rw [←hfin,if_neg (by simpa using h42),List.append_nil],by show acc.length≤k+1;omega⟩,by show (linL p).length - (k+1)<(linL p).length - k;omega,BP hF [10,11,12,13,900] rfl (rfl) ⟨rfl,rfl,rfl,rfl,rfl,rfl,trivial⟩⟩
  ·first | refine J (BT Z Z Z) ?_ | refine J (BS Z Z Z) ?_
   refine AH (AF (Dg Z Z (Am (Au (AF (AJ (J (H1 (M) j24 b24 Z Z Z hm24 hb24 rfl) ?_)))))))
   first | refine J (BT Z Z Z) ?_ | refine J (BS Z Z Z) ?_
   first | refine J (BT Z Z Z) ?_ | refine J (BS Z Z Z) ?_
   refine AD Z Z (AD Z Z (AH (AF (AJ (AC Z Z (AH ?_))))))
   first | refine BJ rfl (fun h29=>?_) (fun h29=>?_) | refine BB rfl (fun h29=>?_) (fun h29=>?_)
   ·refine G8 [[],[],[1],[1,2],[1,2,3],[],[1,2,3,4,5],[],[7],[1,2,3,4,5,6,7,8],[0,1,2,3,4,5,6,7,8,9],[0,1,2,3,4,5,6,7,8,9,10]] BC rfl (Hq ?_);have hb3:=MK hb k24;have hv1:=S7 p (linL p)[k].r hM;have hv2:=S7 p (linL p)[k].r (Nat.le_trans (U6 (m:=M) (B:=List.range M.length) (seen:=seen)) hM);have hv3:=T0 (Ar p k24) (linL p)[k].r
    first | refine AE [8] [] Z Z (fun _=>AB (B7 Z Z)) ?_ | refine AI [8] Z Z (fun _=>AB (B7 Z Z)) ?_
    first | refine AE [0] [] Z Z (fun _=>AB (B7 Z Z)) ?_ | refine AI [0] Z Z (fun _=>AB (B7 Z Z)) ?_
    first | refine AE [31] [] Z Z (fun _=>AB (Bc Z Z)) ?_ | refine AI [31] Z Z (fun _=>AB (Bc Z Z)) ?_ | refine AE [31] [] Z Z (fun _=>AB (Ba Z Z)) ?_ | refine AI [31] Z Z (fun _=>AB (Ba Z Z)) ?_ | refine AE [31] [] Z Z (fun _=>AB (Bd Z Z)) ?_ | refine AI [31] Z Z (fun _=>AB (Bd Z Z)) ?_ | refine AE [31] [] Z Z (fun _=>AB (Bb Z Z)) ?_ | refine AI [31] Z Z (fun _=>AB (Bb Z Z)) ?_
    first | refine AE [32] [] Z Z (fun _=>AB (AO rfl F1 Z Z Z)) ?_ | refine AI [32] Z Z (fun _=>AB (AO rfl F1 Z Z Z)) ?_ | refine AE [32] [] Z Z (fun _=>AB (AQ rfl F1 Z Z Z)) ?_ | refine AI [32] Z Z (fun _=>AB (AQ rfl F1 Z Z Z)) ?_ | refine AE [32] [] Z Z (fun _=>AB (AR rfl F1 Z Z Z)) ?_ | refine AI [32] Z Z (fun _=>AB (AR rfl F1 Z Z Z)) ?_ | refine AE [32] [] Z Z (fun _=>AB (AP rfl F1 Z Z Z)) ?_ | refine AI [32] Z Z (fun _=>AB (AP rfl F1 Z Z Z)) ?_ | refine AE [32] [] Z Z (fun _=>AB (AN rfl F1 Z Z Z)) ?_ | refine AI [32] Z Z (fun _=>AB (AN rfl F1 Z Z Z)) ?_
    first | refine AE [33] [] Z Z (fun _=>AB (A0 Z Z C5 rfl)) ?_ | refine AI [33] Z Z (fun _=>AB (A0 Z Z C5 rfl)) ?_ | refine AE [33] [] Z Z (fun _=>AB (AY Z Z Z C5 rfl)) ?_ | refine AI [33] Z Z (fun _=>AB (AY Z Z Z C5 rfl)) ?_ | refine AE [33] [] Z Z (fun _=>AB (AZ Z Z (rfl) rfl C5 rfl)) ?_ | refine AI [33] Z Z (fun _=>AB (AZ Z Z (rfl) rfl C5 rfl)) ?_
    first | refine AE [9] [] Z Z (fun _=>AB (B7 Z Z)) ?_ | refine AI [9] Z Z (fun _=>AB (B7 Z Z)) ?_
    first | refine AE [34,35] [] Z Z (fun _=>AB (Jl (CD p.it) k24 itm0 (Ar p k24) Z Z Z L5 GO Ux Dr (IT p k24) rfl)) ?_ | refine AI [34,35] Z Z (fun _=>AB (Jl (CD p.it) k24 itm0 (Ar p k24) Z Z Z L5 GO Ux Dr (IT p k24) rfl)) ?_
    first | refine AE [7] [] Z Z (fun _=>AB (AO rfl Ge Z Z Z)) ?_ | refine AI [7] Z Z (fun _=>AB (AO rfl Ge Z Z Z)) ?_ | refine AE [7] [] Z Z (fun _=>AB (AQ rfl Ge Z Z Z)) ?_ | refine AI [7] Z Z (fun _=>AB (AQ rfl Ge Z Z Z)) ?_ | refine AE [7] [] Z Z (fun _=>AB (AR rfl Ge Z Z Z)) ?_ | refine AI [7] Z Z (fun _=>AB (AR rfl Ge Z Z Z)) ?_ | refine AE [7] [] Z Z (fun _=>AB (AP rfl Ge Z Z Z)) ?_ | refine AI [7] Z Z (fun _=>AB (AP rfl Ge Z Z Z)) ?_ | refine AE [7] [] Z Z (fun _=>AB (AN rfl Ge Z Z Z)) ?_ | refine AI [7] Z Z (fun _=>AB (AN rfl Ge Z Z Z)) ?_
    first | refine AE [37] [] Z Z (fun _=>AB (An Z Z Ab rfl)) ?_ | refine AI [37] Z Z (fun _=>AB (An Z Z Ab rfl)) ?_ | refine AE [37] [] Z Z (fun _=>AB (Ao Z Z Ab Z Z Z)) ?_ | refine AI [37] Z Z (fun _=>AB (Ao Z Z Ab Z Z Z)) ?_ | refine AE [37] [] Z Z (fun _=>AB (Ap Z Z (rfl) rfl Ab rfl)) ?_ | refine AI [37] Z Z (fun _=>AB (Ap Z Z (rfl) rfl Ab rfl)) ?_
    first | refine AE [36,38] [] Z Z (fun _=>AB (BF (KY (Ar p k24) (linL p)[k].r (by omega) (by omega) (by omega)) Z Z)) ?_ | refine AI [36,38] Z Z (fun _=>AB (BF (KY (Ar p k24) (linL p)[k].r (by omega) (by omega) (by omega)) Z Z)) ?_
    refine GZ 10 Z Z Z (BD 11 Z Z (J (Bi Z Z (IntWalk.i64_in _ (by omega)) rfl) (AH ⟨rfl,?_⟩)));refine BD 12 Z Z (AD Z Z (AH ⟨rfl,?_⟩));refine GY ?_;exact ⟨(seen++ [b24],left+CM (Ar p k24) (linL p)[k].r),(by show left+CM (Ar p k24) (linL p)[k].r+CC p (linL p)[k].r (DW M (List.range M.length) (seen++ [b24]))=_;rw [←hI,Kc hp24,MV,if_pos (by simpa using h29)];omega),by show (DW M (List.range M.length) (seen++ [b24])).length<(DW M (List.range M.length) seen).length;rw [hp24.length_eq];exact Nat.lt_succ_self _,BP hF [10,11,12,13,900,1,2] rfl (rfl) ⟨rfl,rfl,rfl,rfl,rfl,rfl,rfl,rfl,rfl,trivial⟩⟩
   ·refine Am ?_;exact ⟨(seen++ [b24],left),(by show left+CC p (linL p)[k].r (DW M (List.range M.length) (seen++ [b24]))=_;rw [←hI,Kc hp24,MV,if_neg (by simpa using h29)];omega),by show (DW M (List.range M.length) (seen++ [b24])).length<(DW M (List.range M.length) seen).length;rw [hp24.length_eq];exact Nat.lt_succ_self _,BP hF [10,11,12,13,900,1,2] rfl (rfl) ⟨rfl,rfl,rfl,rfl,rfl,rfl,rfl,rfl,rfl,trivial⟩⟩
 ·refine C6 (AF ?_);have hfa:acc=FU p M:=by rw [hA,List.take_of_length_le (by have h:=h17;omega)];rfl
  refine WV (emb:=DT) 5 900 acc Z Z Z Z Z Z Z (AJ (AC Z Z (AD Z Z (AH (Af ?_)))));exact ⟨_,[10,11,12,13],_,Ae rfl,rfl,rfl,by rw [hfa],rfl⟩
def GQ (l:List Int) (x:Int):Bool:=decide (x∈l)
theorem U9 (l:List Int):inM (Ag l)=GQ l:=funext fun x=>by unfold inM GQ;exact WT l x
theorem WM (p:Prb) (l:List Int) (hb:Cz p) (hl:l.length≤1000) (h1:p.it.length≤1000) (h2:p.ro.length≤1000):AU Tryz.prog 160 [.d (CI p),.d (.sl none (l.map AG))] (.tup [.sl none ((if Bn p l=0 then DN p (GQ l) else []).map Ng),AG (Bn p l)]):=by
 by_cases hE:Bn p l=0
 ·have hpr:=(Iw p l hb (by omega) hE).by [(2,12)] rfl;rw [if_pos hE,hE];have hbk:=fun mv=>SG p mv (some (List.range (Ag l).length,(Ag l).length)) (Ag l) hb h1 h2;rw [U9] at hbk;refine BY Tryz.func160 Z Z Tryz.ntmps160 Z Z Z fun F hF=>(AF (AJ (U (CJ 1 Z Z Z Z Z Z Z) (AD Z Z (AD Z Z (AH (AF (AJ ?_))))))))
  first | refine J (An Z Z AW rfl) ?_ | refine J (Ao Z Z AW Z Z Z) ?_ | refine J (Ap Z Z (rfl) rfl AW rfl) ?_
  refine AC Z Z (U (HQ hpr rfl [10,11,12] ⟨rfl,rfl,rfl,trivial⟩ Z Z Z Z Z Z Z Z Z) (AC Z Z ?_))
  first | refine J (BT Z Z Z) ?_ | refine J (BS Z Z Z) ?_
  first | refine J (BT Z Z Z) ?_ | refine J (BS Z Z Z) ?_
  first | refine J (BT Z Z Z) ?_ | refine J (BS Z Z Z) ?_
  refine AD Z Z (AD Z Z (AD Z Z (AH (AF (AF (AJ (AC Z Z ?_)))))))
  first | refine J (E9 Z Z Z) ?_ | refine J (Ed Z Z Z) ?_ | refine J (EU Z Z Z) ?_ | refine J (Ea Tryz.underlying34 Z Z Z) ?_ | refine J (Ec Tryz.underlying34 Z Z Z) ?_ | refine J (st_neqN Tryz.underlying34 Z Z) ?_ | refine J (Eb Tryz.underlying34 Z Z Z) ?_ | refine J (st_neqFN Tryz.underlying34 Z Z) ?_
  refine AH (Ey rfl ((by decide)) (Am (AF (Ni 13 12 0 Z Z Z Z Z fun mv=>?_))));refine QV 7 13 0 (.inl rfl) rfl (AJ (AC Z Z (AC Z Z (U (HQ (hbk mv) rfl [10,11,12,13] ⟨rfl,rfl,rfl,rfl,trivial⟩ Z Z Z Z Z Z Z Z Z) (AD Z Z (AD Z Z (AH (Af ?_))))))));exact ⟨_,[],[],Ae rfl,rfl,rfl,rfl,rfl⟩
 ·have hpr:=H6 p l hb (by omega) hE;rw [if_neg hE];refine BY Tryz.func160 Z Z Tryz.ntmps160 Z Z Z fun F hF=>?_;refine AF (AJ (U (CJ 1 Z Z Z Z Z Z Z) (AD Z Z (S4 4 rfl (AD Z Z (AH (AF (AJ ?_))))))))
  first | refine J (An Z Z AW rfl) ?_ | refine J (Ao Z Z AW Z Z Z) ?_ | refine J (Ap Z Z (rfl) rfl AW rfl) ?_
  refine AC Z Z (J (BF (hpr) Z Z) (AC Z Z ?_))
  first | refine J (BT Z Z Z) ?_ | refine J (BS Z Z Z) ?_
  first | refine J (BT Z Z Z) ?_ | refine J (BS Z Z Z) ?_
  first | refine J (BT Z Z Z) ?_ | refine J (BS Z Z Z) ?_
  refine AD Z Z (AD Z Z (AD Z Z (AH (AF (AF (AJ (AC Z Z ?_)))))))
  first | refine J (E9 Z Z Z) ?_ | refine J (Ed Z Z Z) ?_ | refine J (EU Z Z Z) ?_ | refine J (Ea Tryz.underlying34 Z Z Z) ?_ | refine J (Ec Tryz.underlying34 Z Z Z) ?_ | refine J (st_neqN Tryz.underlying34 Z Z) ?_ | refine J (Eb Tryz.underlying34 Z Z Z) ?_ | refine J (st_neqFN Tryz.underlying34 Z Z) ?_
  refine AH ?_;refine Dg rfl ((decide_eq_true hE)) (AF (AJ (AC Z Z (AD Z Z (S4 4 rfl (AD Z Z (AH (Af ?_))))))));exact ⟨_,[],[],Ae rfl,rfl,rfl,rfl,rfl⟩
theorem admF_p (p:Prb) (l:List Int) (hb:Cz p) (hl:l.length≤1000) (h1:p.it.length≤1000) (h2:p.ro.length≤1000):AU Tryz.prog 114 [.d (CI p),.d (.sl none (l.map AG))] (.tup [BE (decide (Bn p l=0∧DN p (GQ l)=[])),AG (Bn p l)]):=by
 have hbk:=WM p l hb hl h1 h2;refine BY Tryz.func114 Z Z Tryz.ntmps114 Z Z Z fun F hF=>(AF (AJ (U (CJ 1 Z Z Z Z Z Z Z) (AD Z Z (AD Z Z (AH (AF (AJ ?_))))))))
 first | refine J (An Z Z AW rfl) ?_ | refine J (Ao Z Z AW Z Z Z) ?_ | refine J (Ap Z Z (rfl) rfl AW rfl) ?_
 refine AC Z Z (J (BF (hbk) Z Z) (AC Z Z ?_))
 first | refine J (BT Z Z Z) ?_ | refine J (BS Z Z Z) ?_
 first | refine J (BT Z Z Z) ?_ | refine J (BS Z Z Z) ?_
 refine AD Z Z (AD Z Z (AH (AF (AJ (AC Z Z ?_)))))
 first | refine J (EP Z Z Z) ?_ | refine J (EW Z Z Z) ?_ | refine J (EA Z Z Z) ?_ | refine J (EQ Tryz.underlying34 Z Z Z) ?_ | refine J (ET Tryz.underlying34 Z Z Z) ?_ | refine J (ES Tryz.underlying34 Z Z) ?_ | refine J (ER Tryz.underlying34 Z Z Z) ?_ | refine J (EV Tryz.underlying34 Z Z) ?_
 refine AC Z Z ?_
 first | refine K9 16 rfl (fun h16=>?_) (fun h16=>?_) | refine J4 16 rfl (fun h16=>?_) (fun h16=>?_)
 ·refine Ah Z Z Z (AC Z Z (Ah Z Z Z ?_))
  first | refine J (Cc rfl Tryz.underlying225 rfl) ?_ | refine J (C8 Z Z Tryz.underlying225 rfl) ?_ | refine J (Cd rfl Tryz.underlying225 rfl) ?_ | refine J (Cb rfl Tryz.underlying225 rfl) ?_ | refine J (CW rfl Tryz.underlying225 rfl) ?_ | refine J (C9 rfl Tryz.underlying225 rfl) ?_
  refine Ah Z Z Z ?_
  first | refine J (EP Z Z Z) ?_ | refine J (EW Z Z Z) ?_ | refine J (EA Z Z Z) ?_ | refine J (EQ Tryz.underlying3 Z Z Z) ?_ | refine J (ET Tryz.underlying3 Z Z Z) ?_ | refine J (ES Tryz.underlying3 Z Z) ?_ | refine J (ER Tryz.underlying3 Z Z Z) ?_ | refine J (EV Tryz.underlying3 Z Z) ?_
  refine J (EB Z Z Z Z) (AC Z Z (AD Z Z (AD Z Z (AH (Af ?_)))));exact ⟨_,[],[],Ae rfl,rfl,rfl,UJ (by first | (rw [Bool.eq_iff_iff];simp [h16,List.length_eq_zero_iff];done) | (rw [Bool.eq_iff_iff];simp_all)),rfl⟩
 ·refine Aj Z Z Z Z (Aj Z Z Z Z (Aj Z Z Z Z (J (Ei Z Z Z Z) (AC Z Z (AD Z Z (AD Z Z (AH (Af ?_))))))));exact ⟨_,[],[],Ae rfl,rfl,rfl,UJ (by first | (rw [Bool.eq_iff_iff];simp [h16,List.length_eq_zero_iff];done) | (rw [Bool.eq_iff_iff];simp_all)),rfl⟩
theorem violF_p (p:Prb) (l:List Int) (hb:Cz p) (hl:l.length≤1000):AU Tryz.prog 110 [.d (CI p),.d (.sl none (l.map AG))] (.tup [.sl none ((if Bn p l=0 then FU p (Ag l) else []).map DT),AG (Bn p l)]):=by
 by_cases hE:Bn p l=0
 ·have hpr:=(Iw p l hb (by omega) hE).by [(2,12)] rfl;have h0:=Na hE;rw [if_pos hE,hE];have hbk:=fun mv=>Jd p mv (Ag l) h0 hb (by unfold Ag;rw [List.length_map];exact hl);refine BY Tryz.func110 Z Z Tryz.ntmps110 Z Z Z fun F hF=>(AF (AJ (U (CJ 1 Z Z Z Z Z Z Z) (AD Z Z (AD Z Z (AH (AF (AJ ?_))))))))
  first | refine J (An Z Z AW rfl) ?_ | refine J (Ao Z Z AW Z Z Z) ?_ | refine J (Ap Z Z (rfl) rfl AW rfl) ?_
  refine AC Z Z (U (HQ hpr rfl [10,11,12] ⟨rfl,rfl,rfl,trivial⟩ Z Z Z Z Z Z Z Z Z) (AC Z Z ?_))
  first | refine J (BT Z Z Z) ?_ | refine J (BS Z Z Z) ?_
  first | refine J (BT Z Z Z) ?_ | refine J (BS Z Z Z) ?_
  first | refine J (BT Z Z Z) ?_ | refine J (BS Z Z Z) ?_
  refine AD Z Z (AD Z Z (AD Z Z (AH (AF (AF (AJ (AC Z Z ?_)))))))
  first | refine J (E9 Z Z Z) ?_ | refine J (Ed Z Z Z) ?_ | refine J (EU Z Z Z) ?_ | refine J (Ea Tryz.underlying34 Z Z Z) ?_ | refine J (Ec Tryz.underlying34 Z Z Z) ?_ | refine J (st_neqN Tryz.underlying34 Z Z) ?_ | refine J (Eb Tryz.underlying34 Z Z Z) ?_ | refine J (st_neqFN Tryz.underlying34 Z Z) ?_
  refine AH (Ey rfl ((by decide)) (Am (AF (Ni 13 12 0 Z Z Z Z Z fun mv=>?_))));refine QV 7 13 0 (.inl rfl) rfl (AJ (AC Z Z (AC Z Z (U (HQ (hbk mv) rfl [10,11,12,13] ⟨rfl,rfl,rfl,rfl,trivial⟩ Z Z Z Z Z Z Z Z Z) (AD Z Z (AD Z Z (AH (Af ?_))))))));exact ⟨_,[],[],Ae rfl,rfl,rfl,rfl,rfl⟩
 ·have hpr:=H6 p l hb (by omega) hE;rw [if_neg hE];refine BY Tryz.func110 Z Z Tryz.ntmps110 Z Z Z fun F hF=>?_;refine AF (AJ (U (CJ 1 Z Z Z Z Z Z Z) (AD Z Z (S4 4 rfl (AD Z Z (AH (AF (AJ ?_))))))))
  first | refine J (An Z Z AW rfl) ?_ | refine J (Ao Z Z AW Z Z Z) ?_ | refine J (Ap Z Z (rfl) rfl AW rfl) ?_
  refine AC Z Z (J (BF (hpr) Z Z) (AC Z Z ?_))
  first | refine J (BT Z Z Z) ?_ | refine J (BS Z Z Z) ?_
  first | refine J (BT Z Z Z) ?_ | refine J (BS Z Z Z) ?_
  first | refine J (BT Z Z Z) ?_ | refine J (BS Z Z Z) ?_
  refine AD Z Z (AD Z Z (AD Z Z (AH (AF (AF (AJ (AC Z Z ?_)))))))
  first | refine J (E9 Z Z Z) ?_ | refine J (Ed Z Z Z) ?_ | refine J (EU Z Z Z) ?_ | refine J (Ea Tryz.underlying34 Z Z Z) ?_ | refine J (Ec Tryz.underlying34 Z Z Z) ?_ | refine J (st_neqN Tryz.underlying34 Z Z) ?_ | refine J (Eb Tryz.underlying34 Z Z Z) ?_ | refine J (st_neqFN Tryz.underlying34 Z Z) ?_
  refine AH ?_;refine Dg rfl ((decide_eq_true hE)) (AF (AJ (AC Z Z (AD Z Z (S4 4 rfl (AD Z Z (AH (Af ?_))))))));exact ⟨_,[],[],Ae rfl,rfl,rfl,rfl,rfl⟩
theorem Ud (p:Prb) (l:List Int) (hb:Cz p) (hl:l.length≤1000) (h1:p.it.length≤1000) (h2:p.ro.length≤1000):AU Tryz.prog 113 [.d (CI p),.d (.sl none (l.map AG))] (.tup [BE (decide (Bn p l=0∧DN p (GQ l)=[]∧FU p (Ag l)=[])),AG (Bn p l)]):=by
 by_cases hE:Bn p l=0
 ·have hpr:=(Iw p l hb (by omega) hE).by [(2,12)] rfl;have h0:=Na hE;have hbk:=fun mv=>SG p mv (some (List.range (Ag l).length,(Ag l).length)) (Ag l) hb h1 h2;rw [U9] at hbk;have hvk:=fun mv=>Jd p mv (Ag l) h0 hb (by unfold Ag;rw [List.length_map];exact hl);rw [hE];refine BY Tryz.func113 Z Z Tryz.ntmps113 Z Z Z fun F hF=>(AF (AJ (U (CJ 1 Z Z Z Z Z Z Z) (AD Z Z (AD Z Z (AH (AF (AJ ?_))))))))
  first | refine J (An Z Z AW rfl) ?_ | refine J (Ao Z Z AW Z Z Z) ?_ | refine J (Ap Z Z (rfl) rfl AW rfl) ?_
  refine AC Z Z (U (HQ hpr rfl [10,11,12] ⟨rfl,rfl,rfl,trivial⟩ Z Z Z Z Z Z Z Z Z) (AC Z Z ?_))
  first | refine J (BT Z Z Z) ?_ | refine J (BS Z Z Z) ?_
  first | refine J (BT Z Z Z) ?_ | refine J (BS Z Z Z) ?_
  first | refine J (BT Z Z Z) ?_ | refine J (BS Z Z Z) ?_
  refine AD Z Z (AD Z Z (AD Z Z (AH (AF (AF (AJ (AC Z Z ?_)))))))
  first | refine J (E9 Z Z Z) ?_ | refine J (Ed Z Z Z) ?_ | refine J (EU Z Z Z) ?_ | refine J (Ea Tryz.underlying34 Z Z Z) ?_ | refine J (Ec Tryz.underlying34 Z Z Z) ?_ | refine J (st_neqN Tryz.underlying34 Z Z) ?_ | refine J (Eb Tryz.underlying34 Z Z Z) ?_ | refine J (st_neqFN Tryz.underlying34 Z Z) ?_
  refine AH ?_;refine Ey rfl ((by decide)) (Am (AF (Ni 13 12 0 Z Z Z Z Z fun mv=>(QV 7 13 0 (.inl rfl) rfl (AJ (AC Z Z (AC Z Z (U (HQ (hbk mv) rfl [10,11,12,13] ⟨rfl,rfl,rfl,rfl,trivial⟩ Z Z Z Z Z Z Z Z Z) ?_))))))))
  first | refine J (Cc rfl Tryz.underlying225 rfl) ?_ | refine J (C8 Z Z Tryz.underlying225 rfl) ?_ | refine J (Cd rfl Tryz.underlying225 rfl) ?_ | refine J (Cb rfl Tryz.underlying225 rfl) ?_ | refine J (CW rfl Tryz.underlying225 rfl) ?_ | refine J (C9 rfl Tryz.underlying225 rfl) ?_
  first | refine J (EP Z Z Z) ?_ | refine J (EW Z Z Z) ?_ | refine J (EA Z Z Z) ?_ | refine J (EQ Tryz.underlying3 Z Z Z) ?_ | refine J (ET Tryz.underlying3 Z Z Z) ?_ | refine J (ES Tryz.underlying3 Z Z) ?_ | refine J (ER Tryz.underlying3 Z Z Z) ?_ | refine J (EV Tryz.underlying3 Z Z) ?_
  refine AC Z Z ?_
  first | refine K9 24 rfl (fun h24=>?_) (fun h24=>?_) | refine J4 24 rfl (fun h24=>?_) (fun h24=>?_)
  ·refine Ah Z Z Z (AC Z Z (Ah Z Z Z (AC Z Z (Ah Z Z Z (U (HQ (hvk mv) rfl [10,11,12,13] ⟨rfl,rfl,rfl,rfl,trivial⟩ Z Z Z Z Z Z Z Z Z) (Ah Z Z Z ?_))))))
   first | refine J (Cc rfl Tryz.underlying201 rfl) ?_ | refine J (C8 Z Z Tryz.underlying201 rfl) ?_ | refine J (Cd rfl Tryz.underlying201 rfl) ?_ | refine J (Cb rfl Tryz.underlying201 rfl) ?_ | refine J (CW rfl Tryz.underlying201 rfl) ?_ | refine J (C9 rfl Tryz.underlying201 rfl) ?_
   refine Ah Z Z Z ?_
   first | refine J (EP Z Z Z) ?_ | refine J (EW Z Z Z) ?_ | refine J (EA Z Z Z) ?_ | refine J (EQ Tryz.underlying3 Z Z Z) ?_ | refine J (ET Tryz.underlying3 Z Z Z) ?_ | refine J (ES Tryz.underlying3 Z Z) ?_ | refine J (ER Tryz.underlying3 Z Z Z) ?_ | refine J (EV Tryz.underlying3 Z Z) ?_
   refine J (EB Z Z Z Z) (AD Z Z (AD Z Z (AH (Af ?_))));exact ⟨_,[],[],Ae rfl,rfl,rfl,UJ (by first | (rw [Bool.eq_iff_iff];simp_all [List.length_eq_zero_iff];done) | (rw [Bool.eq_iff_iff];simp_all)),rfl⟩
  ·refine Aj Z Z Z Z ?_;refine Aj Z Z Z Z (Aj Z Z Z Z (Aj Z Z Z Z (Aj Z Z Z Z (J (Ei Z Z Z Z) (AD Z Z (AD Z Z (AH (Af ?_))))))));exact ⟨_,[],[],Ae rfl,rfl,rfl,UJ (by first | (rw [Bool.eq_iff_iff];simp_all [List.length_eq_zero_iff];done) | (rw [Bool.eq_iff_iff];simp_all)),rfl⟩
 ·have hpr:=H6 p l hb (by omega) hE;refine BY Tryz.func113 Z Z Tryz.ntmps113 Z Z Z fun F hF=>(AF (AJ (U (CJ 1 Z Z Z Z Z Z Z) (AD Z Z (AD Z Z (AH (AF (AJ ?_))))))))
  first | refine J (An Z Z AW rfl) ?_ | refine J (Ao Z Z AW Z Z Z) ?_ | refine J (Ap Z Z (rfl) rfl AW rfl) ?_
  refine AC Z Z (J (BF (hpr) Z Z) (AC Z Z ?_))
  first | refine J (BT Z Z Z) ?_ | refine J (BS Z Z Z) ?_
  first | refine J (BT Z Z Z) ?_ | refine J (BS Z Z Z) ?_
  first | refine J (BT Z Z Z) ?_ | refine J (BS Z Z Z) ?_
  refine AD Z Z (AD Z Z (AD Z Z (AH (AF (AF (AJ (AC Z Z ?_)))))))
  first | refine J (E9 Z Z Z) ?_ | refine J (Ed Z Z Z) ?_ | refine J (EU Z Z Z) ?_ | refine J (Ea Tryz.underlying34 Z Z Z) ?_ | refine J (Ec Tryz.underlying34 Z Z Z) ?_ | refine J (st_neqN Tryz.underlying34 Z Z) ?_ | refine J (Eb Tryz.underlying34 Z Z Z) ?_ | refine J (st_neqFN Tryz.underlying34 Z Z) ?_
  refine AH (Dg rfl ((decide_eq_true hE)) (AF (AJ (AC Z Z (AD Z Z (AD Z Z (AH (Af ?_))))))));exact ⟨_,[],[],Ae rfl,rfl,rfl,by rw [decide_eq_false (fun h=>hE h.1)],rfl⟩
theorem PC.le {γ:Type} {c:γ ->γ ->Int} (h:PC c) {x y z:γ} (h1:c x y≤0) (h2:c y z≤0):c x z≤0:=by
 by_cases e1:c x y=0
 ·rw [h.eqv x y z e1];exact h2
 ·by_cases e2:c y z=0
  ·have a1:=h.anti y z;have e3:c z y=0:=by omega
   have a2:=h.eqv z y x e3;have a3:=h.anti z x;have a4:=h.anti y x;omega
  ·have:=h.trans x y z (by omega) (by omega);omega
theorem Ui {a b:Int}:¬Dy b a<0↔a≤b:=by unfold Dy;split<;>(try split)<;>omega
theorem Qm {l ys:List Int} (h1:ys.Perm l) (h2:ys.Pairwise fun a b=>¬Dy b a<0):ys=Cq l:=
 List.Perm.eq_of_pairwise (le:=fun a b:Int=>a≤b) (fun a b _ _ g1 g2=>by omega) (h2.imp fun h=>Ui.1 h) (Gk l) (h1.trans (Zc2 l).symm)
theorem YG {p:Prb} (hp:Ak p=0) {ys:List Roo} (h1:ys.Perm p.ro) (h2:ys.Pairwise fun a b=>¬CE b.r a.r<0):ys=Vm p.ro:=
 UI Roo.r (H4 (Ia hp).1) (Zda p.ro) (L6 p.ro) h1 h2
theorem TT {p:Prb} (hp:Ak p=0) {x:AT} (hx:x∈p.it):Ar p x.id=x:=by
 obtain ⟨hk,_,e,e2⟩:=Yz (p:=p) (List.mem_map.2 ⟨x,hx,rfl⟩);exact ML (S0 (Ia hp).2.1) (by rw [e];exact List.getElem_mem hk) hx e2
theorem XU {i:Int} {q:List Int} (h:i∈q):prefN i q=q.idxOf i:=by unfold prefN YP;rw [if_pos h];omega
structure PV (p:Prb):Prop where
 e:Ak p=0
 b:Cz p
 i:p.it.length≤1000
 r:p.ro.length≤1000
 q:∀i∈p.it,i.po.length≤1000∧i.pa.length≤1000∧i.af.length≤1000
end Go.Proofs.YtnkkaeblokdifaaGreat
