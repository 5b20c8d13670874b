/- The kit's contract of slices.Sort at integers as a contract over an owned row. No program in sight. -/
import Derived.Test.YtnkkaeblokdifaaGreatMg18
import Derived.Shelf.SortG.Plain
import Derived.Shelf.SortG.SortNone
namespace Go.Proofs.YtnkkaeblokdifaaGreat
open Go.RowKit Go.Shelf
open Go.Sort (putRow Holds putCells)
def Ck (l:List Int):List Int:=l.mergeSort fun x y=>decide (x≤y)
theorem Es (l:List Int):(Ck l).Perm l:=List.mergeSort_perm l _
theorem Fw (l:List Int):(Ck l).length=l.length:=(Es l).length_eq
theorem G8 (l:List Int):(Ck l).Pairwise (· ≤ ·):=by
 have:=List.pairwise_mergeSort (le:=fun x y:Int=>decide (x≤y)) (fun a b c h1 h2=>by simp only [decide_eq_true_eq] at*;omega) (fun a b=>by simp only [Bool.or_eq_true,decide_eq_true_eq];omega) l;exact this.imp fun h=>by simpa using h
abbrev zD (z:Int):D:= .raw (.int .i64 z)
variable {P:Program} {ρr:Ren}
theorem QY (L:SlLaysN.n53 P ρr) {E:TypeId} {g53:FuncId} (xs:List Int) (hsz:xs.length<4611686018427387904) {F:Fr} {s:AS} {d:Nat} {x:Operand} {ty:TypeId} {pos:String} {aft:Array Edge} {gd:Option (Nat×Bool)} {at_:Array TypeId} {f n:Nat} {row:List D} {hp':Hp}
  (hg:ρr.f 53=g53) (hx:s.ev x=some (.own f 0 n)) (ho:hget s.hp f 0=some (.rowD E 1 row)) (hrow:row=xs.map zD) (hn:n=xs.length) (hh:Bn s.hp f 0 (.rowD E 1 ((Ck xs).map zD))=some hp') (hd:Nat.blt d s.n=true):
  AR P F ⟨some d,.call {callee:= .value (.func g53),args:= #[x],argTypes:=at_},ty,pos,aft,gd⟩ s ⟨s.n,(d,.d (.tup []))::s.env,hp'⟩ (fun _ _=>true):=by
 subst hg hrow hn;intro ρ act w hs
 obtain ⟨fn6,hf1,hf2,hf3⟩:∃fn,P.funcs[ρr.f 53]?=some fn∧(fn.name== "runtime.NumGoroutine")=false∧fn.body.isSome=true:=by
  obtain ⟨nm,hn,hf⟩:=L.f53;exact ⟨_,hf,hn,rfl⟩
 unfold Oper.wp;rw [show (#[x]:Array Operand)=[x].toArray from rfl,EG hf1 hf2 hf3,Oper.upon_enter]
 suffices key:Calls P (ρr.f 53) ([x].map act.eval).toArray w fun e w'=>e= .returned (.tuple #[])∧SR F ⟨s.n,s.env,hp'⟩ ρ act w' by
  refine key.mono fun e w' ⟨e1,hsr⟩=>?_;subst e1;exact ⟨ρ,hsr.put (KZ hd) (.d (.tup rfl fun i c v hc=>by cases hc)),fun _ _ _=>rfl⟩
 have r0:=hs.ev hx;have hg0:=ho;have h3:=hs.heap;have hset:=BN hh;obtain ⟨us,q1,q2,q3⟩:=h3.sim f 0 _ hg0;show Calls P (ρr.f 53) #[act.eval x] w _
 generalize act.eval x=V0 at r0
 cases r0 with
 | own hρ hle=>
  rename_i N cap a
  by_cases hx:xs=[]
  ·subst hx;refine (AnyG.slices_Sort_int_none L a cap w).mono fun e w' ⟨e1,e2⟩=>?_;subst e1 e2;refine ⟨rfl,hs.writeG f 0 _ _ ho hset Z Z Z (Nat.le_refl _) (Nat.le_refl _) (fun _ _ _=>rfl) (fun _ _ e=>by cases e) fun hrep=>?_⟩;have h0:Ck []=[]:=by simp [Ck]
   rw [h0];exact ⟨us,q1,⟨by simpa using q2.1,fun x hx=>(by cases hx),fun i x hx=>by simp at hx⟩,fun x hx=>(by cases hx)⟩
  ·have hn:0<xs.length:=List.length_pos_iff.2 hx;have hul:us.length=xs.length:=by have:=q2.1;rw [List.length_map] at this;omega
   have hblkeq:∃b cur,a=some ⟨b,0,none⟩∧w.heap[b]?=some (.cells cur E (0,0))∧cur.size=cap∧xs.length≤cap∧cap≤maxLen∧cur.toList.take xs.length=us∧N=xs.length:=by
    rcases q1.2 with ⟨_,h⟩ | ⟨b,cap',cur,e1,_,e2,e3,e4,e5,e6⟩
    ·rw [List.length_map] at h;omega
    ·rw [hρ] at e1;injection e1 with e1 e7 e8
     subst e1 e8;rw [List.length_map] at e3 e6 e7;exact ⟨b,cur,rfl,e2,by omega,e3,e4,by rw [Nat.mul_one] at e6;exact e6,e7⟩
   obtain ⟨b,cur,rfl,p1,p2,p3,p3',p4,rfl⟩:=hblkeq;have hb:CO (ρ f 0)=some b:=by rw [hρ];rfl
   have hlt:b<w.heap.size:=(Array.getElem?_eq_some_iff.1 p1).1
   have hus:∀i (hi:i<xs.length),us[i]?=some (.int .i64 xs[i]):=fun i hi=>by
    have hm:(xs.map zD)[i]?=some (zD xs[i]):=by rw [List.getElem?_map,List.getElem?_eq_getElem hi];rfl
    obtain ⟨u,hu,_,hr⟩:=q2.2.2 i _ hm 0 (zD xs[i]) rfl;rw [Nat.mul_one,Nat.add_zero] at hu
    cases hr with
    | raw _=>exact hu
   have hH:Holds (Value.int .i64) w b 0 xs.toArray:=by
    intro j hj;have hj:j<xs.length:=by simpa using hj
    refine ⟨?_,?_⟩
    ·have hju:us[j]?=cur.toList[j]?:=by rw [←p4,List.getElem?_take_of_lt hj]
     simp only [World.cell?,p1,Nat.zero_add];have h1:=hus j hj;rw [hju] at h1;rw [getElem!_pos _ j (by simpa using hj)];have hjc:j<cur.size:=by simpa using (List.getElem?_eq_some_iff.1 h1).1
     simp only [List.getElem_toArray]
     simp [hjc] at h1⊢
     exact h1
    ·simp only [World.frozen?,p1];simp
   have key:=AnyG.slices_Sort_int L b 0 cap xs w hH hlt hsz;refine key.mono fun e w' ⟨e1,nd,os,hw⟩=>?_;subst e1 hw
   obtain ⟨ys,hys⟩:∃ys,Ck xs=ys:=⟨_,rfl⟩
   have hys':(xs.mergeSort fun x y=>decide (x≤y))=ys:=hys;have hyl:ys.length=xs.length:=by rw [←hys,Fw]
   rw [hys] at hset hh;rw [hys'];refine ⟨rfl,?_⟩;have hsz2:((putRow (Value.int .i64) (Go.Sort.ahead w nd) b 0 ys.toArray)).heap.size=w.heap.size:=by rw [Go.Sort.size_putRow];rfl
   have hoth:∀b',b'<w.heap.size ->b'≠b ->(Go.Sort.grow (putRow (Value.int .i64) (Go.Sort.ahead w nd) b 0 ys.toArray) os).heap[b']?=w.heap[b']?:=fun b' hl hne=>by
    rw [Go.Sort.heap_grow_old _ _ (by rw [hsz2];exact hl)];show (w.heap.modify b _)[b']?=_;rw [Array.getElem?_modify,if_neg (Ne.symm hne)]
   refine hs.writeG f 0 _ _ ho hset Z Z Z (by rw [Go.Sort.size_grow,hsz2];exact Nat.le_add_right _ _) (Nat.le_add_right _ _) (fun b' hl hno=>hoth b' hl (fun e=>hno (by rw [e];exact hb))) (fun _ _ e=>by cases e) fun hrep=>?_
   have hheap:(Go.Sort.grow (putRow (Value.int .i64) (Go.Sort.ahead w nd) b 0 ys.toArray) os).heap[b]?=some (.cells (putCells (Value.int .i64) 0 ys.toArray cur) E (0,0)):=by
    rw [Go.Sort.heap_grow_old _ _ (by rw [hsz2];exact hlt)];show (w.heap.modify b _)[b]?=_;rw [Array.getElem?_modify,if_pos rfl,p1];rfl
   have hcs:(putCells (Value.int .i64) 0 ys.toArray cur).size=cap:=by simp only [putCells,Array.size_mapIdx];exact p2
   have hyl2:(ys.map zD).length=xs.length:=by rw [List.length_map,hyl]
   refine ⟨ys.map (Value.int .i64),⟨by rw [List.length_map,hyl2,hyl,Nat.mul_one],.inr ⟨b,cap,_,by rw [hρ,hyl2],Nat.zero_le _,hheap,by rw [hyl2];exact p3,p3',by omega,?_⟩⟩,⟨by rw [List.length_map,hyl2,hyl,Nat.mul_one],fun x hx2=>?_,fun i x hx2 j c hc2=>?_⟩,fun x hx2 c hc2=>?_⟩
   ·rw [hyl2,Nat.mul_one]
    apply List.ext_getElem?
    intro i
    by_cases hi:i<xs.length
    ·rw [List.getElem?_take_of_lt hi,Array.getElem?_toList,List.getElem?_map,List.getElem?_eq_getElem (by omega),Array.getElem?_eq_getElem (by omega)];simp only [putCells,Array.getElem_mapIdx];rw [if_pos ⟨Nat.zero_le _,by simp;omega⟩];simp only [Nat.sub_zero,Option.map_some];rw [getElem!_pos _ i (by simp;omega)]
     simp
    ·rw [List.getElem?_eq_none (by rw [List.length_take];omega),List.getElem?_eq_none (by rw [List.length_map];omega)]
   ·obtain ⟨y,_,rfl⟩:=List.mem_map.1 hx2;rfl
   ·rw [List.getElem?_map] at hx2
    cases hyi:ys[i]? with
    | none=>rw [hyi] at hx2;cases hx2
    | some y=>
     rw [hyi] at hx2;injection hx2 with hx2;subst hx2
     have hj0:j=0:=by have:=(List.getElem?_eq_some_iff.1 hc2).1;simp [D.cells] at this;exact this
     subst hj0;simp only [D.cells,List.getElem?_cons_zero,Option.some.injEq] at hc2;subst hc2;exact ⟨.int .i64 y,by rw [Nat.mul_one,Nat.add_zero,List.getElem?_map,hyi];rfl,rfl,.raw rfl⟩
   ·obtain ⟨y,_,rfl⟩:=List.mem_map.1 hx2;simp only [D.cells,List.mem_singleton] at hc2;subst hc2;rfl
end Go.Proofs.YtnkkaeblokdifaaGreat
/- Layer 29: the analysis of a problem; sets of its items. -/
namespace Go.Proofs.YtnkkaeblokdifaaGreat
open Go.RowKit
set_option maxRecDepth 100000
section
variable {P:Program} {F:Fr} {s:AS} {α β:Type} [DecidableEq α] {eK:α ->D} {eV:β ->D} {K:TypeId} {kv:α ->Value} {d:Nat} {ty T E:TypeId} {pos:String} {aft:Array Edge} {g:Option (Nat×Bool)} {x y z:Operand} {bs:Option (List Nat×Nat)}
theorem Jb (m:List (α×β)) (a:α) (b0 v:β) {x0:D} {f i:Nat} (hx:s.ev x=some (.map f i)) (ho:hget s.hp f i=some (.map bs (Bw eK eV m))) (hy:s.ev y=some (.d (eK a))) (hT:CY P T K E=true) (KT:Bo P K eK kv) (hz:Em P E=some (.d x0)) (hw:∀w O v,A1 w O x0 v ->A1 w O (eV b0) v) (hv:Ai m a b0=v) (hd:Nat.blt d s.n=true):
  AA P F ⟨some d,.lookup T x y false,ty,pos,aft,g⟩ s d (.d (eV v)):=
 C1 _ hd fun ρ act w hs=>by
  obtain ⟨mb,arr,c,e1,_,h1,h2,h3,_⟩:=hs.mapAt hx ho;have hk:act.eval y=kv a:=(hs.repD hy).val (KT.val a);obtain ⟨zv,hz1,hz2⟩:=FP hz w
  have hz3:∀w' O ρ,A3 w' O ρ (.d (eV b0)) zv:=fun w' O ρ=>by
   have:=hz2 w' O ρ
   cases this with
   | d h=>exact .d (hw _ _ _ h)
  subst hv;rcases hit_get KT h2 h3 a b0 with ⟨g1,_,g3,_⟩ | ⟨j,e,g1,g2,_,_,_,_,g7⟩
  ·refine ⟨zv,?_,by rw [g3];exact hz3 _ _ _⟩
   simp [execOp,Instr.lookup,run_underlying (Yr hT),e1,hk,MapKept.run_getObj_map h1,KT.check,KT.find w a _ _ (Zde KT h2 h3),g1,hz1,Result.andThen]
  ·refine ⟨e.val,?_,.d g7⟩
   simp [execOp,Instr.lookup,run_underlying (Yr hT),e1,hk,MapKept.run_getObj_map h1,KT.check,KT.find w a _ _ (Zde KT h2 h3),g1,Result.andThen]
theorem MM (m:List (α×β)) (a:α) (b0:β) {x0:D} {f i:Nat} (hx:s.ev x=some (.map f i)) (ho:hget s.hp f i=some (.map bs (Bw eK eV m))) (hy:s.ev y=some (.d (eK a))) (hT:CY P T K E=true) (KT:Bo P K eK kv) (hz:Em P E=some (.d x0)) (hw:∀w O v,A1 w O x0 v ->A1 w O (eV b0) v) (hd:Nat.blt d s.n=true):
  AA P F ⟨some d,.lookup T x y true,ty,pos,aft,g⟩ s d (.tup [.d (eV (Ai m a b0)),.d (.raw (.bool (P7 m a)))]):=
 C1 _ hd fun ρ act w hs=>by
  obtain ⟨mb,arr,c,e1,_,h1,h2,h3,_⟩:=hs.mapAt hx ho;have hk:act.eval y=kv a:=(hs.repD hy).val (KT.val a);obtain ⟨zv,hz1,hz2⟩:=FP hz w
  have hz3:∀w' O ρ,A3 w' O ρ (.d (eV b0)) zv:=fun w' O ρ=>by
   have:=hz2 w' O ρ
   cases this with
   | d h=>exact .d (hw _ _ _ h)
  have tup2:∀{v1 v2:Value} {a1 a2:AV},A3 w (F.O ρ s.hp) ρ a1 v1 ->A3 w (F.O ρ s.hp) ρ a2 v2 ->A3 w (F.O ρ s.hp) ρ (.tup [a1,a2]) (.tuple #[v1,v2]):=fun {v1 v2 a1 a2} h1 h2=>by
   refine .tup (vs:=[v1,v2]) rfl fun i a v ha hv=>?_;rcases i with _ | _ | i
   ·simp at ha hv;subst ha hv;exact h1
   ·simp at ha hv;subst ha hv;exact h2
   ·simp at ha
  rcases hit_get KT h2 h3 a b0 with ⟨g1,g2,g3,_⟩ | ⟨j,e,g1,g2,_,g4,_,_,g7⟩
  ·refine ⟨.tuple #[zv,.bool false],?_,tup2 (by rw [g3];exact hz3 _ _ _) (by rw [g2];exact .d (.raw rfl))⟩
   simp [execOp,Instr.lookup,run_underlying (Yr hT),e1,hk,MapKept.run_getObj_map h1,KT.check,KT.find w a _ _ (Zde KT h2 h3),g1,hz1,Result.andThen]
  ·refine ⟨.tuple #[e.val,.bool true],?_,tup2 (.d g7) (by rw [g4];exact .d (.raw rfl))⟩
   simp [execOp,Instr.lookup,run_underlying (Yr hT),e1,hk,MapKept.run_getObj_map h1,KT.check,KT.find w a _ _ (Zde KT h2 h3),g1,Result.andThen]
end
theorem De:∀w O v,A1 w O (.agg [AH 0,AH 0,AH 0,.sl (some true) [],.sl (some true) [],.sl (some true) []]) v ->A1 w O (BH itm0) v:=fun w O v h=>h.aggMono rfl (by simp [D.one]) fun i c c' hc hc' v hv=>by
 match i,hc,hc' with
 | 0,hc,hc'=>injection hc with hc;injection hc' with hc';subst hc hc';exact hv
 | 1,hc,hc'=>injection hc with hc;injection hc' with hc';subst hc hc';exact hv
 | 2,hc,hc'=>injection hc with hc;injection hc' with hc';subst hc hc';exact hv
 | 3,hc,hc'=>injection hc with hc;injection hc' with hc';subst hc hc';exact hv.anyNil
 | 4,hc,hc'=>injection hc with hc;injection hc' with hc';subst hc hc';exact hv.anyNil
 | 5,hc,hc'=>injection hc with hc;injection hc' with hc';subst hc hc';exact hv.anyNil
def Vb (l:List Roo):List Roo:=l.mergeSort fun a b=>decide (By a.r b.r≤0)
theorem IJ (l:List Roo):(Vb l).Perm l:=List.mergeSort_perm l _
theorem Xu (l:List Roo):(Vb l).length=l.length:=(IJ l).length_eq
theorem cmpR_le {a b c:A5} (h1:By a b≤0) (h2:By b c≤0):By a c≤0:=by
 by_cases e1:By a b=0
 ·rw [Dj.1 e1];exact h2
 ·by_cases e2:By b c=0
  ·rw [←Dj.1 e2];exact h1
  ·have:=Nv.trans a b c (by omega) (by omega);omega
theorem LU (l:List Roo):(Vb l).Pairwise fun a b=>¬By b.r a.r<0:=by
 have:=List.pairwise_mergeSort (le:=fun a b:Roo=>decide (By a.r b.r≤0)) (fun a b c h1 h2=>by simp only [decide_eq_true_eq] at*;exact cmpR_le h1 h2) (fun a b=>by simp only [Bool.or_eq_true,decide_eq_true_eq];have:=Nv.anti a.r b.r;omega) l
 exact this.imp fun {a b} h=>by
  have h':By a.r b.r≤0:=by simpa using h
  have:=Nv.anti a.r b.r;omega
theorem Tv {γ:Type} (f:γ ->A5) {l m ys:List γ} (hn:(l.map f).Nodup) (hm:m.Perm l) (hms:m.Pairwise fun a b=>¬By (f b) (f a)<0) (h1:ys.Perm l) (h2:ys.Pairwise fun a b=>¬By (f b) (f a)<0):ys=m:=by
 have st:∀{k:List γ},(k.map f).Nodup ->(k.Pairwise fun a b=>¬By (f b) (f a)<0) ->k.Pairwise fun a b=>By (f a) (f b)<0:=fun {k} hn h=>by
  rw [List.Nodup,List.pairwise_map] at hn;refine (h.and hn).imp fun {a b} ⟨g1,g2⟩=>?_;have h1:=Nv.anti (f a) (f b);have h2:By (f a) (f b)≠0:=fun e=>g2 (Dj.1 e);omega
 exact D4 (R:=fun a b=>By (f a) (f b)<0) (fun x=>by rw [Nv.refl];omega) (fun x y z=>Nv.trans _ _ _) (st ((h1.map f).nodup_iff.2 hn) h2) (st ((hm.map f).nodup_iff.2 hn) hms) fun x=>by rw [h1.mem_iff,hm.mem_iff]
structure Lin where
 r:A5
 n:Int
 q:List Int
abbrev Kl (x:Lin):D:= .agg [AH x.r.k,Am x.r.acc.o,AH x.r.acc.k,Am x.r.acc.a,Am x.r.f,Am x.r.t,AH x.n,.sl none (x.q.map AH)]
theorem Xw (x:Lin):∃cs,Kl x= .agg cs:=⟨_,rfl⟩
def I8 (p:Prb) (x:Roo):Lin:=⟨x.r,max x.n 0,qIds (ordP p) x.r⟩
def linL (p:Prb):List Lin:=(Vb p.ro).map (I8 p)
theorem Ez (p:Prb):(linL p).length=p.ro.length:=by unfold linL;rw [List.length_map,Xu]
theorem LO {l:List Roo} (h:D9 l=0):(l.map Roo.r).Nodup:=by
 have h0:=Uh.1 h;rw [List.Nodup,List.pairwise_map,List.pairwise_iff_getElem];intro i j hi hj hij e;have:=h0 j (List.mem_range.2 hj);unfold MY at this;rw [Bd DD hj] at this
 split at this
 ·contradiction
 ·split at this
  ·cases this
  ·split at this
   ·cases this
   ·rename_i hn;exact hn (Mn hj hij e)
theorem lin_one {p:Prb} (hp:Ao p=0) {ys:List Lin} (h1:ys.Perm (p.ro.map (I8 p))) (h2:ys.Pairwise fun a b=>¬By b.r a.r<0):ys=linL p:=by
 refine Tv Lin.r (l:=p.ro.map (I8 p)) ?_ ((IJ p.ro).map _) ?_ h1 h2
 ·rw [List.map_map];exact LO (KW hp).1
 ·unfold linL;rw [List.pairwise_map];exact LU p.ro
theorem ana1_p (a b:Lin):AU Tryz.prog 117 [.d (Kl a),.d (Kl b)] (AH (By a.r b.r)):=by
 refine B2 Tryz.func117 Z Z Tryz.ntmps117 Z Z Z fun F hF=>(AF (AJ (U (C5 1 Z Z Z Z Z Z Z) (U (C5 2 Z Z Z Z Z Z Z) (AD Z Z (AG (AF (AJ ?_))))))))
 first | refine J (AM rfl GY Z Z Z) ?_ | refine J (AO rfl GY Z Z Z) ?_ | refine J (AP rfl GY Z Z Z) ?_ | refine J (AN rfl GY Z Z Z) ?_ | refine J (AL rfl GY Z Z Z) ?_
 first | refine J (Av Z Z Ah rfl) ?_ | refine J (Aw Z Z Ah Z Z Z) ?_ | refine J (Ax Z Z (rfl) rfl Ah rfl) ?_
 first | refine J (AM rfl GY Z Z Z) ?_ | refine J (AO rfl GY Z Z Z) ?_ | refine J (AP rfl GY Z Z Z) ?_ | refine J (AN rfl GY Z Z Z) ?_ | refine J (AL rfl GY Z Z Z) ?_
 first | refine J (Av Z Z Ah rfl) ?_ | refine J (Aw Z Z Ah Z Z Z) ?_ | refine J (Ax Z Z (rfl) rfl Ah rfl) ?_
 refine J (B1 (Ky a.r b.r) Z Z) (AD Z Z (AG (Ae ?_)));exact ⟨_,[],[],Aa rfl,rfl,rfl,rfl,rfl⟩
def Bx (l:List AT):List (Int×AT):=l.map fun i=>(i.id,i)
theorem TG {l:List AT} {i:AT} (h:i.id∉l.map AT.id):BM (Bx l) i.id i=Bx (l++ [i]):=by
 induction l with
 | nil=>rfl
 | cons a l ih=>
  rw [List.map_cons,List.mem_cons] at h;show BM ((a.id,a)::Bx l) i.id i=(a.id,a)::Bx (l++ [i]);rw [←ih (fun h'=>h (.inr h'))];simp only [BM];rw [if_neg (fun e=>h (.inl e))]
def encZ (x:Int):List AV:=[.d (AH x)]
section
variable {β:Type}
theorem seqZ_c (its:List Int) (hits:its.length≤1000000) (l:Nat) (H:β ->Hp) (N:List Nat) (step:β ->Int ->β×Bool) (st0:β) (hN:∀st,hpN (H st)=N) (hI:∀st,DM N (H st)=true) (hP:∀st,An (H st) N=some (H st))
  (hfe:Co Tryz.prog l encZ H step st0 its):
  A2 Tryz.prog 164 [.d (.raw (CG l)),.d (.ptr (.sl none (its.map AH)))] (H st0) fun r H'=>r= .tup []∧H'=H (Bv step st0 its):=by
 refine B2 Tryz.func164 Z Z Tryz.ntmps164 Z Z Z fun F hF=>(AF (AJ ?_))
 first | refine J (AY Z Z BO rfl) ?_ | refine J (AW Z Z Z BO rfl) ?_ | refine J (AX Z Z (rfl) rfl BO rfl) ?_
 first | refine J (Cz rfl Tryz.underlying33 rfl) ?_ | refine J (C9 Z Z Tryz.underlying33 rfl) ?_ | refine J (DB rfl Tryz.underlying33 rfl) ?_ | refine J (Cy rfl Tryz.underlying33 rfl) ?_ | refine J (Cr rfl Tryz.underlying33 rfl) ?_ | refine J (Cw rfl Tryz.underlying33 rfl) ?_
 refine AC Z Z (AG (Al (EQ (α:=Nat×β) (fun p=>⟨16,[(0,.d (.raw (CG l))),(5,(.d (.sl none (its.map AH)))),(6,(.d (AH (its.length:Int)))),(7,(.d (AH (p.1:Int))))],H p.2⟩) (fun p=>p.1≤its.length∧Co Tryz.prog l encZ H step p.2 (its.drop p.1)∧Bv step p.2 (its.drop p.1)=Bv step st0 its) (fun p=>its.length - p.1) ((0,st0)) (⟨Nat.zero_le _,hfe,rfl⟩) (Ui ⟨rfl,rfl,rfl,rfl,trivial⟩) ?_)));rintro ⟨k,st⟩ ⟨hk0,hfd,hfin⟩;dsimp only at hk0 hfd hfin⊢;refine AF (AJ ?_)
 first | refine J (CD Z Z Z) ?_ | refine J (CE Z Z Z) ?_
 refine AG (AF ?_)
 first | refine Ay rfl (fun h8=>?_) (fun h8=>?_) | refine At rfl (fun h8=>?_) (fun h8=>?_)
 ·have hk1:k<its.length:=DA h8;refine Ak (AF (Al (AF (AJ ?_))));have hA:its.drop k=its[k]::its.drop (k+1):=List.drop_eq_getElem_cons hk1;rw [hA] at hfd
  first | refine J (CT (k) Z Z (rfl) (A0 hk1) Tryz.underlying33 rfl Ep rfl) ?_ | refine J (CU (k) Z Z (rfl) (A0 hk1) rfl Tryz.underlying33 Ep rfl) ?_
  first | refine J (AY Z Z Ab rfl) ?_ | refine J (AW Z Z Z Ab rfl) ?_ | refine J (AX Z Z (rfl) rfl Ab rfl) ?_
  refine AD Z Z (AG (AF (AJ (AC Z Z (AC Z Z (Sw [0,5,6,7,11,12] rfl (Qx hfd.1 Z Z (by rw [hN,hN]) (by rw [hN];exact hI _) Z Z ?_)))))))
  first | refine J (GZ Z Z) ?_ | refine J (GP Z Z) ?_
  refine AG ?_
  first | refine Ay rfl (fun h14=>?_) (fun h14=>?_) | refine At rfl (fun h14=>?_) (fun h14=>?_)
  ·have hgo:(step st its[k]).2=false:=by simpa using h14
   refine Ae ?_;exact ⟨_,N,_,Aa rfl,hP _,by rw [←hN st0];exact Yt _,rfl,by rw [←hfin,hA,T1,if_neg (by rw [hgo];decide)]⟩
  ·have hgo:(step st its[k]).2=true:=by simpa using h14
   refine Ak (AJ (J (Bi Z Z (Ac (k+1) (by omega)) rfl) (AC Z Z (AG ?_))));exact ⟨(k+1,(step st its[k]).1),⟨by show k+1≤_;omega,hfd.2 hgo,by rw [←hfin,hA,T1,if_pos hgo]⟩,by show its.length - (k+1)<its.length - k;omega,⟨rfl,rfl,fun _ _=>N2.get (l:=[(0,_),(5,_),(6,_),(7,_)]) ⟨rfl,rfl,rfl,rfl,trivial⟩⟩⟩
 ·refine CW ?_;exact ⟨_,N,_,Aa rfl,hP _,by rw [←hN st0];exact Yt _,rfl,by rw [←hfin,List.drop_of_length_le (by have h:=h8;omega)];rfl⟩
end
theorem Uq (its:List Int):A2 Tryz.prog 119 [.d (.sl none (its.map AH))] [] fun r H'=>r= .fn 164 [.d (.ptr (.sl none (its.map AH)))]∧H'=[]:=by
 refine B2 Tryz.func119 Z Z Tryz.ntmps119 Z Z Z fun F hF=>(AF (AJ (U (C5 1 Z Z Z Z Z Z Z) ?_)));refine AD Z Z (AG (AF (AJ (IF 1 1 (.sl none (its.map AH)) [] hF Z Z Z (by intro c hc;simp [D.cells] at hc;subst hc;rfl) Z Z Z (J (Zdb Z Z) (AD Z Z (AG (Ae ?_))))))));exact ⟨_,[],[],Aa rfl,rfl,rfl,rfl,rfl⟩
abbrev hZ (q:List Int):Hp:=[(920,[.rowD 3 1 (q.map AH)]),(1,[.blk 33 [.own 920 0 q.length]])]
def Tk (q:List Int) (x:Int):List Int×Bool:=(q++ [x],true)
theorem Ol:∀(l q:List Int),Bv Tk q l=q++l
 | [],q=>by simp [Bv]
 | x::l,q=>by rw [T1];show (if true=true then Bv Tk (q++ [x]) l else _)=_;rw [if_pos rfl,Ol l];simp
theorem NG {P:Program} {l:Nat} {H:List Int ->Hp} {n:Nat} (hY:∀q x,q.length<n ->ES P l (encZ x) (H q) fun v H'=>v= .d (.raw (.bool true))∧H'=H (q++ [x])):∀(xs q:List Int),q.length+xs.length≤n ->Co P l encZ H Tk q xs
 | [],_,_=>trivial
 | x::xs,q,h=>⟨hY q x (by simp at h;omega),fun _=>NG hY xs (q++ [x]) (by simp at h⊢;omega)⟩
theorem WF (its:List Int) (hits:its.length≤1000000):A2 Tryz.prog 205 [.d (.sl (some true) []),.fn 164 [.d (.ptr (.sl none (its.map AH)))]] [] fun r H'=>r= .own 920 0 its.length∧H'=[(920,[.rowD 3 1 (its.map AH)])]:=by
 refine Hq Tryz.func205 Z Z Tryz.ntmps205 Z Z Z fun F hF hFl=>(AF (AJ (U (C5 1 Z Z Z Z Z Z Z) ?_)));refine AD Z Z (AG (AF (AF (Cv 1 0 0 920 C7 Z Z Z Z Z Z Z (AJ (AC Z Z (AG (Al ?_))))))));refine QA [2,6] rfl ?_;refine ME (γ:=Unit) hFl 900 Z Z Z Z Z [1,920] (CHr:=hZ []) (fun _=>True) (fun _=>hZ its) (fun _=> .ready) (fun _=>none) ⟨rfl,rfl,trivial⟩ Z Z Z (fun _=>rfl) (fun _=>rfl) rfl (fun _ _=>by simp) (fun _ _=>⟨rfl,rfl⟩) [920,1] hF Z Z (fun _ _=>rfl) (fun l A B hA hB=>?_) (fun _ _=>?_)
 ·refine (seqZ_c its hits l (fun q:List Int=>(900,[.loop ⟨l,13,[(2,.ptr 1 0 0),(6,.fn 164 [.d (.ptr (.sl none (its.map AH)))])],.ready,none, #[7],A,B⟩])::hZ q) [900,920,1] Tk [] (fun _=>rfl) (fun _=>rfl) (fun _=>rfl) ?_).mono (fun r H' ⟨e1,e2⟩=>⟨e1,(),trivial,by rw [e2,Ol];rfl⟩);refine NG (n:=its.length) (fun q x hq=>?_) its [] (by simp);refine J2 (lf:=900) Z Z Z Z fun F hF hr=>?_;show Bt _ _ A _ _;rw [hA];refine AJ (AD Z Z (AG (⟨rfl,_,_,rfl,rfl,rfl,rfl,?_⟩)));show Bt _ _ B _ _;rw [hB];refine Al (AJ ?_)
  first | refine J (AY Z Z BO rfl) ?_ | refine J (AW Z Z Z BO rfl) ?_ | refine J (AX Z Z (rfl) rfl BO rfl) ?_
  refine AC Z Z (U (Fq 30 C7 Z Z Z Z Z Z Z Z) ?_)
  first | refine U (If (q) ([x]) Z Z Z Z Z Z Z Z C7 (by simp only [List.length_singleton];omega) Z Z Z Z) ?_ | refine U (LD (q) ([x]) Z Z Z Z Z Z (fun _=>rfl) C7 (by simp only [List.length_singleton];omega) Z Z Z Z) ?_
  refine U (CF Z Z Z Z Z Z Z sz33) (AG ?_);exact ⟨none,_,_,[900,920,1],_,rfl,rfl,rfl,rfl,rfl,rfl,rfl,rfl⟩
 ·refine AF (AJ ?_)
  first | refine J (AY Z Z BO rfl) ?_ | refine J (AW Z Z Z BO rfl) ?_ | refine J (AX Z Z (rfl) rfl BO rfl) ?_
  refine AD Z Z (AG (Ae ?_));exact ⟨_,[920],_,Aa rfl,rfl,rfl,rfl,rfl⟩
theorem TU (its:List Int) (hits:its.length≤1000000):A2 Tryz.prog 162 [.fn 164 [.d (.ptr (.sl none (its.map AH)))]] [] fun r H'=>r= .own 920 0 its.length∧H'=[(920,[.rowD 3 1 (its.map AH)])]:=by
 refine B2 Tryz.func162 Z Z Tryz.ntmps162 Z Z Z fun F hF=>(AF (AJ ?_));refine AD Z Z (AG (AF (AJ (AC Z Z (U (Fp (WF its hits) rfl [920] ⟨rfl,trivial⟩ Z Z Z Z Z Z Z Z Z) (AD Z Z (AG (Ae ?_))))))));exact ⟨_,[920],_,Aa rfl,rfl,rfl,rfl,rfl⟩
theorem Uz (its:List Int) (hits:its.length≤1000000):AU Tryz.prog 118 [.fn 164 [.d (.ptr (.sl none (its.map AH)))]] (.sl none ((Ck its).map AH)):=by
 have hsl:=Fw its;refine B2 Tryz.func118 Z Z Tryz.ntmps118 Z Z Z fun F hF=>(AF (AJ (AD Z Z (AG ?_))));refine AF (AJ (AC Z Z (U (Fp (TU its hits) rfl [920] ⟨rfl,trivial⟩ Z Z Z Z Z Z Z Z Z) (AD Z Z (AG (AF (AJ (AC Z Z ?_))))))));refine U (QY laysS its (by omega) Z Z Z Z Z Z Z) (AG (AF (WK (emb:=AH) 3 920 (Ck its) Z Z Z hsl.symm Z Z Z (AJ (AC Z Z (AD Z Z (AG (Ae ?_))))))));exact ⟨_,[],[],Aa rfl,rfl,rfl,rfl,rfl⟩
theorem less_p (a b:Int):AU Tryz.prog 165 [.d (AH a),.d (AH b)] (.raw (.bool (decide (a<b)))):=by
 refine B2 Tryz.func165 Z Z Tryz.ntmps165 Z Z Z fun F hF=>(AF (AJ ?_));refine AD Z Z (AG (AF (AJ (AC Z Z (J (B1 (Xk a) Z Z) (AC Z Z (Kf 7 rfl (rfl) (A8 Z Z Z Z ?_))))))));refine A8 Z Z Z Z (A8 Z Z Z Z (J (EC Z Z Z Z) (AC Z Z (A9 Z Z Z (AC Z Z (A9 Z Z Z (AC Z Z (A9 Z Z Z ?_))))))))
 first | refine J (CD Z Z Z) ?_ | refine J (CE Z Z Z) ?_
 refine J (EC Z Z Z Z) (AD Z Z (AG (Ae ?_)));exact ⟨_,[],[],Aa rfl,rfl,rfl,rfl,rfl⟩
def GS (p:Prb):List Int:=(ordP p).map AT.id
abbrev HA (p:Prb):Hp:=[(10,[.blk 215 [.map 11 0,.d (.sl none ((GS p).map AH)),.d (.sl none ((linL p).map Kl))]]),(11,[CL AH BH (Bx p.it)])]
theorem maxI (a:Int):(if 0>a then 0 else a)=max a 0:=by rw [Int.max_def];split<;>split<;>omega
theorem JM (p:Prb) (hb:D1 p) (hE:Ao p=0):A2 Tryz.prog 58 [.d (Cc p)] [] fun r H'=>r= .tup [.ptr 3 0 0,.d (AH 0)]∧H'=[(3,[.blk 215 [.map 2 0,.d (.sl none ((GS p).map AH)),.d (.sl none ((linL p).map Kl))]]),(2,[CL AH BH (Bx p.it)])]:=by
 have hck:=HY p hb;rw [hE] at hck;have hid:=WP (KW hE).2.1;have hor:=LS p hb;have hb1:=hb.1;have hb2:=hb.2.1;refine B2 Tryz.func58 Z Z Tryz.ntmps58 Z Z Z fun F hF=>?_;refine AF (AJ (U (C5 1 Z Z Z Z Z Z Z) (AD Z Z (AD Z Z (AG (AF (AF (AJ ?_))))))))
 first | refine J (Av Z Z A4 rfl) ?_ | refine J (Aw Z Z A4 Z Z Z) ?_ | refine J (Ax Z Z (rfl) rfl A4 rfl) ?_
 refine J (B1 (hck) Z Z) (AD Z Z (AG (AF (AJ (AC Z Z ?_)))))
 first | refine J (Fa Z Z Z) ?_ | refine J (F9 Z Z Z) ?_ | refine J (FM Z Z Z) ?_ | refine J (Fb Tryz.underlying34 Z Z Z) ?_ | refine J (Fd Tryz.underlying34 Z Z Z) ?_ | refine J (st_neqN Tryz.underlying34 Z Z) ?_ | refine J (Fc Tryz.underlying34 Z Z Z) ?_ | refine J (st_neqFN Tryz.underlying34 Z Z) ?_
 refine AG (Fs rfl ((by decide)) (Ak (AF (AJ (U (Ys 2 Z Z Z Z) ?_)))))
 first | refine J (Av Z Z A4 rfl) ?_ | refine J (Aw Z Z A4 Z Z Z) ?_ | refine J (Ax Z Z (rfl) rfl A4 rfl) ?_
 refine J (B1 (hor) Z Z) (J (DH zl215 pl215 Z Z Z) (U (C5 3 Z Z Z Z Z Z Z) (AD Z Z (AG (AF (AF (AJ ?_)))))))
 first | refine J (AM rfl CP Z Z Z) ?_ | refine J (AO rfl CP Z Z Z) ?_ | refine J (AP rfl CP Z Z Z) ?_ | refine J (AN rfl CP Z Z Z) ?_ | refine J (AL rfl CP Z Z Z) ?_
 first | refine J (AY Z Z Bh rfl) ?_ | refine J (AW Z Z Z Bh rfl) ?_ | refine J (AX Z Z (rfl) rfl Bh rfl) ?_
 first | refine J (Cz rfl Tryz.underlying29 rfl) ?_ | refine J (C9 Z Z Tryz.underlying29 rfl) ?_ | refine J (DB rfl Tryz.underlying29 rfl) ?_ | refine J (Cy rfl Tryz.underlying29 rfl) ?_ | refine J (Cr rfl Tryz.underlying29 rfl) ?_ | refine J (Cw rfl Tryz.underlying29 rfl) ?_
 refine AC Z Z (AG (Al (DG (α:=Nat) (fun k=>⟨68,[(1,(.ptr 1 0 0)),(5,(.ptr 3 0 0)),(21,(.d (.sl none (p.it.map BH)))),(22,(.d (AH (p.it.length:Int)))),(23,(.d (AH (k:Int))))],[(1,[HV 31 p]),(3,[.blk 215 [.map 2 0,.d (.sl none ((GS p).map AH)),I1]]),(2,[CL AH BH (Bx (p.it.take k))])]⟩) (fun k=>k≤p.it.length) (fun k=>p.it.length - k) (0) (Nat.zero_le _) (BA hF [1,3,2] Z Z ⟨rfl,rfl,rfl,rfl,rfl,trivial⟩) ?_)));rintro k hk0;refine AF (AJ ?_)
 first | refine J (CD Z Z Z) ?_ | refine J (CE Z Z Z) ?_
 refine AG (AF ?_)
 first | refine Ay rfl (fun h24=>?_) (fun h24=>?_) | refine At rfl (fun h24=>?_) (fun h24=>?_)
 ·have hk1:k<p.it.length:=DA h24;refine Ak (AF (Al (AF (AJ ?_))));have hnk:p.it[k].id∉(p.it.take k).map AT.id:=fun h=>by have hn:=hid;rw [List.Nodup,List.pairwise_map,List.pairwise_iff_getElem] at hn;obtain ⟨x,hx,e⟩:=List.mem_map.1 h;obtain ⟨j,hj,rfl⟩:=List.mem_take_iff_getElem.1 hx;exact hn j k (by omega) hk1 (by omega) e
  first | refine J (CT (k) Z Z (rfl) (A0 hk1) Tryz.underlying29 rfl C6 rfl) ?_ | refine J (CU (k) Z Z (rfl) (A0 hk1) rfl Tryz.underlying29 C6 rfl) ?_
  first | refine J (Av Z Z Af rfl) ?_ | refine J (Aw Z Z Af Z Z Z) ?_ | refine J (Ax Z Z (rfl) rfl Af rfl) ?_
  refine U (DO 4 FG Z Z Z Z) (U (CF Z Z Z Z Z Z Z C6) (AG (Gp [[],[0],[0,1],[0,1,2],[],[4],[],[0,1,2,3,4,5,6]] BF rfl (Hh ?_))))
  first | refine AE [5] [] Z Z (fun _=>AB (Be Z Z)) ?_ | refine AI [5] Z Z (fun _=>AB (Be Z Z)) ?_
  first | refine AE [27] [] Z Z (fun _=>AB (BS Z Z)) ?_ | refine AI [27] Z Z (fun _=>AB (BS Z Z)) ?_ | refine AE [27] [] Z Z (fun _=>AB (BQ Z Z)) ?_ | refine AI [27] Z Z (fun _=>AB (BQ Z Z)) ?_ | refine AE [27] [] Z Z (fun _=>AB (BT Z Z)) ?_ | refine AI [27] Z Z (fun _=>AB (BT Z Z)) ?_ | refine AE [27] [] Z Z (fun _=>AB (BR Z Z)) ?_ | refine AI [27] Z Z (fun _=>AB (BR Z Z)) ?_
  first | refine AE [28] [] Z Z (fun _=>AB (AM rfl FL Z Z Z)) ?_ | refine AI [28] Z Z (fun _=>AB (AM rfl FL Z Z Z)) ?_ | refine AE [28] [] Z Z (fun _=>AB (AO rfl FL Z Z Z)) ?_ | refine AI [28] Z Z (fun _=>AB (AO rfl FL Z Z Z)) ?_ | refine AE [28] [] Z Z (fun _=>AB (AP rfl FL Z Z Z)) ?_ | refine AI [28] Z Z (fun _=>AB (AP rfl FL Z Z Z)) ?_ | refine AE [28] [] Z Z (fun _=>AB (AN rfl FL Z Z Z)) ?_ | refine AI [28] Z Z (fun _=>AB (AN rfl FL Z Z Z)) ?_ | refine AE [28] [] Z Z (fun _=>AB (AL rfl FL Z Z Z)) ?_ | refine AI [28] Z Z (fun _=>AB (AL rfl FL Z Z Z)) ?_
  first | refine AE [29] [] Z Z (fun _=>AB (AY Z Z C4 rfl)) ?_ | refine AI [29] Z Z (fun _=>AB (AY Z Z C4 rfl)) ?_ | refine AE [29] [] Z Z (fun _=>AB (AW Z Z Z C4 rfl)) ?_ | refine AI [29] Z Z (fun _=>AB (AW Z Z Z C4 rfl)) ?_ | refine AE [29] [] Z Z (fun _=>AB (AX Z Z (rfl) rfl C4 rfl)) ?_ | refine AI [29] Z Z (fun _=>AB (AX Z Z (rfl) rfl C4 rfl)) ?_
  first | refine AE [7] [] Z Z (fun _=>AB (AM rfl Bm Z Z Z)) ?_ | refine AI [7] Z Z (fun _=>AB (AM rfl Bm Z Z Z)) ?_ | refine AE [7] [] Z Z (fun _=>AB (AO rfl Bm Z Z Z)) ?_ | refine AI [7] Z Z (fun _=>AB (AO rfl Bm Z Z Z)) ?_ | refine AE [7] [] Z Z (fun _=>AB (AP rfl Bm Z Z Z)) ?_ | refine AI [7] Z Z (fun _=>AB (AP rfl Bm Z Z Z)) ?_ | refine AE [7] [] Z Z (fun _=>AB (AN rfl Bm Z Z Z)) ?_ | refine AI [7] Z Z (fun _=>AB (AN rfl Bm Z Z Z)) ?_ | refine AE [7] [] Z Z (fun _=>AB (AL rfl Bm Z Z Z)) ?_ | refine AI [7] Z Z (fun _=>AB (AL rfl Bm Z Z Z)) ?_
  first | refine AE [31] [] Z Z (fun _=>AB (AY Z Z Ab rfl)) ?_ | refine AI [31] Z Z (fun _=>AB (AY Z Z Ab rfl)) ?_ | refine AE [31] [] Z Z (fun _=>AB (AW Z Z Z Ab rfl)) ?_ | refine AI [31] Z Z (fun _=>AB (AW Z Z Z Ab rfl)) ?_ | refine AE [31] [] Z Z (fun _=>AB (AX Z Z (rfl) rfl Ab rfl)) ?_ | refine AI [31] Z Z (fun _=>AB (AX Z Z (rfl) rfl Ab rfl)) ?_
  first | refine AE [7] [] Z Z (fun _=>AB (Av Z Z Af rfl)) ?_ | refine AI [7] Z Z (fun _=>AB (Av Z Z Af rfl)) ?_ | refine AE [7] [] Z Z (fun _=>AB (Aw Z Z Af Z Z Z)) ?_ | refine AI [7] Z Z (fun _=>AB (Aw Z Z Af Z Z Z)) ?_ | refine AE [7] [] Z Z (fun _=>AB (Ax Z Z (rfl) rfl Af rfl)) ?_ | refine AI [7] Z Z (fun _=>AB (Ax Z Z (rfl) rfl Af rfl)) ?_
  refine GR 7 Z Z Z (BC 8 Z Z ?_)
  first | refine U (FR (Bx (p.it.take k)) (p.it[k].id) (p.it[k]) Z Z Z LT KB Z Z) ?_ | refine U (ED (Bx (p.it.take k)) (p.it[k].id) (p.it[k]) Z Z Z LT KB Z Z) ?_
  refine AG ⟨rfl,?_⟩;refine GQ (AJ (J (Bi Z Z (Ac (k+1) (by omega)) rfl) (AC Z Z (AG ?_))));exact ⟨k+1,by show k+1≤_;omega,by show p.it.length - (k+1)<p.it.length - k;omega,BA hF [1,3,2] rfl (by rw [List.take_succ_eq_append_getElem hk1,←TG hnk];rfl) ⟨rfl,rfl,rfl,rfl,rfl,trivial⟩⟩
 ·refine CW (AF (AF ?_));rw [List.take_of_length_le (show p.it.length≤k by have h:=h24;omega)];refine Cv 3 0 2 900 Tq Z Z Z Z Z Z Z (AJ ?_)
  first | refine J (AM rfl Hr Z Z Z) ?_ | refine J (AO rfl Hr Z Z Z) ?_ | refine J (AP rfl Hr Z Z Z) ?_ | refine J (AN rfl Hr Z Z Z) ?_ | refine J (AL rfl Hr Z Z Z) ?_
  first | refine J (AY Z Z HF rfl) ?_ | refine J (AW Z Z Z HF rfl) ?_ | refine J (AX Z Z (rfl) rfl HF rfl) ?_
  first | refine J (Cz rfl Tryz.underlying28 rfl) ?_ | refine J (C9 Z Z Tryz.underlying28 rfl) ?_ | refine J (DB rfl Tryz.underlying28 rfl) ?_ | refine J (Cy rfl Tryz.underlying28 rfl) ?_ | refine J (Cr rfl Tryz.underlying28 rfl) ?_ | refine J (Cw rfl Tryz.underlying28 rfl) ?_
  refine AC Z Z (AG (Al (DG (α:=Nat×List Lin) (fun q=>⟨68,[(1,(.ptr 1 0 0)),(5,(.ptr 3 0 0)),(36,(.d (.sl none (p.ro.map Ff)))),(37,(.d (AH (p.ro.length:Int)))),(38,(.d (AH (q.1:Int))))],[(900,[.rowD 218 8 (q.2.map Kl)]),(1,[HV 31 p]),(3,[.blk 215 [.map 2 0,.d (.sl none ((GS p).map AH)),.own 900 0 q.2.length]]),(2,[CL AH BH (Bx p.it)])]⟩) (fun q=>q.1≤p.ro.length∧q.2=(p.ro.take q.1).map (I8 p)) (fun q=>p.ro.length - q.1) ((0,[])) (⟨Nat.zero_le _,rfl⟩) (BA hF [900,1,3,2] Z Z ⟨rfl,rfl,rfl,rfl,rfl,trivial⟩) ?_)));rintro ⟨m,acc⟩ ⟨hm0,hA⟩;dsimp only at hm0 hA⊢;refine AF (AJ ?_)
  first | refine J (CD Z Z Z) ?_ | refine J (CE Z Z Z) ?_
  refine AG (AF ?_)
  first | refine Ay rfl (fun h39=>?_) (fun h39=>?_) | refine At rfl (fun h39=>?_) (fun h39=>?_)
  ·have hm1:m<p.ro.length:=DA h39;refine Ak (AF (Al (AF (AJ ?_))));have hal:acc.length≤100000:=by rw [hA,List.length_map,List.length_take];omega
   first | refine J (CT (m) Z Z (rfl) (A0 hm1) Tryz.underlying28 rfl PN rfl) ?_ | refine J (CU (m) Z Z (rfl) (A0 hm1) rfl Tryz.underlying28 PN rfl) ?_
   first | refine J (Av Z Z PW rfl) ?_ | refine J (Aw Z Z PW Z Z Z) ?_ | refine J (Ax Z Z (rfl) rfl PW rfl) ?_
   refine U (DO 5 PI Z Z Z Z) (U (CF Z Z Z Z Z Z Z PN) (AG (Gp [[],[],[1],[1,2],[1,2,3],[],[5],[],[7],[7,8],[],[],[11],[10,11,12],[5,6,7,8,9,10,11,12,13],[5,6,7,8,9,10,11,12,13,14],[1,2,3,4,5,6,7,8,9,10,11,12,13,14,15],[0,1,2,3,4,5,6,7,8,9,10,11,12,13,14,15,16],[0,1,2,3,4,5,6,7,8,9,10,11,12,13,14,15,16,17],[0,1,2,3,4,5,6,7,8,9,10,11,12,13,14,15,16,17,18]] BF rfl (Hh ?_))))
   first | refine AE [5] [] Z Z (fun _=>AB (Be Z Z)) ?_ | refine AI [5] Z Z (fun _=>AB (Be Z Z)) ?_
   first | refine AE [5] [] Z Z (fun _=>AB (Be Z Z)) ?_ | refine AI [5] Z Z (fun _=>AB (Be Z Z)) ?_
   first | refine AE [43] [] Z Z (fun _=>AB (BS Z Z)) ?_ | refine AI [43] Z Z (fun _=>AB (BS Z Z)) ?_ | refine AE [43] [] Z Z (fun _=>AB (BQ Z Z)) ?_ | refine AI [43] Z Z (fun _=>AB (BQ Z Z)) ?_ | refine AE [43] [] Z Z (fun _=>AB (BT Z Z)) ?_ | refine AI [43] Z Z (fun _=>AB (BT Z Z)) ?_ | refine AE [43] [] Z Z (fun _=>AB (BR Z Z)) ?_ | refine AI [43] Z Z (fun _=>AB (BR Z Z)) ?_
   first | refine AE [44] [] Z Z (fun _=>AB (AM rfl Hv Z Z Z)) ?_ | refine AI [44] Z Z (fun _=>AB (AM rfl Hv Z Z Z)) ?_ | refine AE [44] [] Z Z (fun _=>AB (AO rfl Hv Z Z Z)) ?_ | refine AI [44] Z Z (fun _=>AB (AO rfl Hv Z Z Z)) ?_ | refine AE [44] [] Z Z (fun _=>AB (AP rfl Hv Z Z Z)) ?_ | refine AI [44] Z Z (fun _=>AB (AP rfl Hv Z Z Z)) ?_ | refine AE [44] [] Z Z (fun _=>AB (AN rfl Hv Z Z Z)) ?_ | refine AI [44] Z Z (fun _=>AB (AN rfl Hv Z Z Z)) ?_ | refine AE [44] [] Z Z (fun _=>AB (AL rfl Hv Z Z Z)) ?_ | refine AI [44] Z Z (fun _=>AB (AL rfl Hv Z Z Z)) ?_
   first | refine AE [45] [3] Z Z (fun _=>AB (AY Z Z Ev rfl)) ?_ | refine AE [45] [3] Z Z (fun _=>AB (AW Z Z Z Ev rfl)) ?_ | refine AE [45] [3] Z Z (fun _=>AB (AX Z Z (rfl) rfl Ev rfl)) ?_
   first | refine AE [9] [] Z Z (fun _=>AB (AM rfl Dm Z Z Z)) ?_ | refine AI [9] Z Z (fun _=>AB (AM rfl Dm Z Z Z)) ?_ | refine AE [9] [] Z Z (fun _=>AB (AO rfl Dm Z Z Z)) ?_ | refine AI [9] Z Z (fun _=>AB (AO rfl Dm Z Z Z)) ?_ | refine AE [9] [] Z Z (fun _=>AB (AP rfl Dm Z Z Z)) ?_ | refine AI [9] Z Z (fun _=>AB (AP rfl Dm Z Z Z)) ?_ | refine AE [9] [] Z Z (fun _=>AB (AN rfl Dm Z Z Z)) ?_ | refine AI [9] Z Z (fun _=>AB (AN rfl Dm Z Z Z)) ?_ | refine AE [9] [] Z Z (fun _=>AB (AL rfl Dm Z Z Z)) ?_ | refine AI [9] Z Z (fun _=>AB (AL rfl Dm Z Z Z)) ?_
   first | refine AE [47] [5] Z Z (fun _=>AB (Av Z Z Ah rfl)) ?_ | refine AE [47] [5] Z Z (fun _=>AB (Aw Z Z Ah Z Z Z)) ?_ | refine AE [47] [5] Z Z (fun _=>AB (Ax Z Z (rfl) rfl Ah rfl)) ?_
   first | refine AE [9] [] Z Z (fun _=>AB (AM rfl PA Z Z Z)) ?_ | refine AI [9] Z Z (fun _=>AB (AM rfl PA Z Z Z)) ?_ | refine AE [9] [] Z Z (fun _=>AB (AO rfl PA Z Z Z)) ?_ | refine AI [9] Z Z (fun _=>AB (AO rfl PA Z Z Z)) ?_ | refine AE [9] [] Z Z (fun _=>AB (AP rfl PA Z Z Z)) ?_ | refine AI [9] Z Z (fun _=>AB (AP rfl PA Z Z Z)) ?_ | refine AE [9] [] Z Z (fun _=>AB (AN rfl PA Z Z Z)) ?_ | refine AI [9] Z Z (fun _=>AB (AN rfl PA Z Z Z)) ?_ | refine AE [9] [] Z Z (fun _=>AB (AL rfl PA Z Z Z)) ?_ | refine AI [9] Z Z (fun _=>AB (AL rfl PA Z Z Z)) ?_
   first | refine AE [49] [5] Z Z (fun _=>AB (AY Z Z BI rfl)) ?_ | refine AE [49] [5] Z Z (fun _=>AB (AW Z Z Z BI rfl)) ?_ | refine AE [49] [5] Z Z (fun _=>AB (AX Z Z (rfl) rfl BI rfl)) ?_
   first | refine AE [50] [] Z Z (fun _=>AB (PP Z Z (maxI _) rfl)) ?_ | refine AI [50] Z Z (fun _=>AB (PP Z Z (maxI _) rfl)) ?_
   first | refine AE [1] [1] Z Z (fun _=>AB (Av Z Z A4 rfl)) ?_ | refine AE [1] [1] Z Z (fun _=>AB (Aw Z Z A4 Z Z Z)) ?_ | refine AE [1] [1] Z Z (fun _=>AB (Ax Z Z (rfl) rfl A4 rfl)) ?_
   first | refine AE [9] [] Z Z (fun _=>AB (AM rfl Dm Z Z Z)) ?_ | refine AI [9] Z Z (fun _=>AB (AM rfl Dm Z Z Z)) ?_ | refine AE [9] [] Z Z (fun _=>AB (AO rfl Dm Z Z Z)) ?_ | refine AI [9] Z Z (fun _=>AB (AO rfl Dm Z Z Z)) ?_ | refine AE [9] [] Z Z (fun _=>AB (AP rfl Dm Z Z Z)) ?_ | refine AI [9] Z Z (fun _=>AB (AP rfl Dm Z Z Z)) ?_ | refine AE [9] [] Z Z (fun _=>AB (AN rfl Dm Z Z Z)) ?_ | refine AI [9] Z Z (fun _=>AB (AN rfl Dm Z Z Z)) ?_ | refine AE [9] [] Z Z (fun _=>AB (AL rfl Dm Z Z Z)) ?_ | refine AI [9] Z Z (fun _=>AB (AL rfl Dm Z Z Z)) ?_
   first | refine AE [53] [5] Z Z (fun _=>AB (Av Z Z Ah rfl)) ?_ | refine AE [53] [5] Z Z (fun _=>AB (Aw Z Z Ah Z Z Z)) ?_ | refine AE [53] [5] Z Z (fun _=>AB (Ax Z Z (rfl) rfl Ah rfl)) ?_
   first | refine AE [52,54] [] Z Z (fun _=>AB (B1 (Ty p p.ro[m].r hb) Z Z)) ?_ | refine AI [52,54] Z Z (fun _=>AB (B1 (Ty p p.ro[m].r hb) Z Z)) ?_
   first | refine AE [48,51,55] [] Z Z (fun _=>AB (DH QM pl218 Z Z Z)) ?_ | refine AI [48,51,55] Z Z (fun _=>AB (DH QM pl218 Z Z Z)) ?_
   refine Gn [56] [50] [(57,_)] Z Z (fun _=>Gq (Fq 50 Tq Z Z Z Z Z Z Z Z)) (.inr ⟨57,_,rfl,rfl,rfl,rfl,rfl⟩) Z Z Z Z Z ?_
   first | refine Gn [46,57] [900,50,3,2] [(58,_)] Z Z (fun _=>Gq (If (acc) ([I8 p p.ro[m]]) Z Z Z Z Z Z Z Z Tq (by simp only [List.length_singleton];omega) Z Z Z Z)) (.inr ⟨58,_,rfl,rfl,rfl,rfl,rfl⟩) Z Z Z Z Z ?_ | refine Gn [46,57] [900,50,3,2] [(58,_)] Z Z (fun _=>Gq (LD (acc) ([I8 p p.ro[m]]) Z Z Z Z Z Z (fun _=>rfl) Tq (by simp only [List.length_singleton];omega) Z Z Z Z)) (.inr ⟨58,_,rfl,rfl,rfl,rfl,rfl⟩) Z Z Z Z Z ?_
   refine GR 17 Z Z Z (BC 18 Z Z ?_)
   first | refine J (BS Z Z) ?_ | refine J (BQ Z Z) ?_ | refine J (BT Z Z) ?_ | refine J (BR Z Z) ?_
   refine AG ⟨rfl,?_⟩;refine BC 19 Z Z ?_
   first | refine J (AM rfl Hv Z Z Z) ?_ | refine J (AO rfl Hv Z Z Z) ?_ | refine J (AP rfl Hv Z Z Z) ?_ | refine J (AN rfl Hv Z Z Z) ?_ | refine J (AL rfl Hv Z Z Z) ?_
   refine AG ⟨rfl,?_⟩;refine BC 20 Z Z (U (CF Z Z Z Z Z Z Z sz213) (AG ⟨rfl,?_⟩));refine GQ (AJ (J (Bi Z Z (Ac (m+1) (by omega)) rfl) (AC Z Z (AG ?_))));exact ⟨(m+1,acc++ [I8 p p.ro[m]]),⟨by show m+1≤_;omega,by show acc++ [I8 p p.ro[m]]=(p.ro.take (m+1)).map (I8 p);rw [Cp hm1,hA]⟩,by show p.ro.length - (m+1)<p.ro.length - m;omega,BA hF [900,1,3,2] rfl (rfl) ⟨rfl,rfl,rfl,rfl,rfl,trivial⟩⟩
  ·refine CW (AF ?_);have hfa:acc=p.ro.map (I8 p):=by rw [hA,List.take_of_length_le (by have h:=h39;omega)]
   refine AJ (AC Z Z ?_)
   first | refine J (BS Z Z) ?_ | refine J (BQ Z Z) ?_ | refine J (BT Z Z) ?_ | refine J (BR Z Z) ?_
   first | refine J (AM rfl Hv Z Z Z) ?_ | refine J (AO rfl Hv Z Z Z) ?_ | refine J (AP rfl Hv Z Z Z) ?_ | refine J (AN rfl Hv Z Z Z) ?_ | refine J (AL rfl Hv Z Z Z) ?_
   first | refine J (AY Z Z Ev rfl) ?_ | refine J (AW Z Z Z Ev rfl) ?_ | refine J (AX Z Z (rfl) rfl Ev rfl) ?_
   refine U (PO laysLn (k:=8) (by decide) Tryz.isAgg218 Tryz.sizeOf218 Tryz.func117 Z Z Xw (fun a b=>By a.r b.r) ((Nv.comap Lin.r).swo) acc (linL p) (by rw [hfa,List.length_map];omega) (fun x _ y _=>ana1_p x y) (fun ys g1 g2=>lin_one hE (by rw [←hfa];exact g1) g2) Z Z Z Ph Z Z Z Z Z) ?_;refine AG (AF (Yu (ys:=(linL p).map Kl) 3 0 2 900 Z Z Z (by rw [List.length_map,Ez,hfa,List.length_map];exact Nat.le_refl _) (List.take_of_length_le (by rw [List.length_map,Ez,hfa,List.length_map];exact Nat.le_refl _)) Z Z Z Z Z Z (AJ (AC Z Z (AD Z Z (AD Z Z (AG (Ae ?_))))))));exact ⟨_,[3,2],_,Aa rfl,rfl,rfl,rfl,rfl⟩
theorem Rs (p:Prb) (hb:D1 p) (hE:Ao p≠0):AU Tryz.prog 58 [.d (Cc p)] (.tup [.raw (.pointer none),AH (Ao p)]):=by
 have hck:=HY p hb;refine B2 Tryz.func58 Z Z Tryz.ntmps58 Z Z Z fun F hF=>?_;refine AF (AJ (U (C5 1 Z Z Z Z Z Z Z) (AD Z Z (AD Z Z (AG (AF (AF (AJ ?_))))))))
 first | refine J (Av Z Z A4 rfl) ?_ | refine J (Aw Z Z A4 Z Z Z) ?_ | refine J (Ax Z Z (rfl) rfl A4 rfl) ?_
 refine J (B1 (hck) Z Z) (AD Z Z (AG (AF (AJ (AC Z Z ?_)))))
 first | refine J (Fa Z Z Z) ?_ | refine J (F9 Z Z Z) ?_ | refine J (FM Z Z Z) ?_ | refine J (Fb Tryz.underlying34 Z Z Z) ?_ | refine J (Fd Tryz.underlying34 Z Z Z) ?_ | refine J (st_neqN Tryz.underlying34 Z Z) ?_ | refine J (Fc Tryz.underlying34 Z Z Z) ?_ | refine J (st_neqFN Tryz.underlying34 Z Z) ?_
 refine AG (EB rfl ((decide_eq_true hE)) (AF (AJ (AC Z Z (AD Z Z (AD Z Z (AG (Ae ?_))))))));exact ⟨_,[],[],Aa rfl,rfl,rfl,rfl,rfl⟩
theorem TH (l:List AT) (i:Int):Ai (Bx l) i itm0=l.getD ((l.map AT.id).idxOf i) itm0:=by
 induction l with
 | nil=>rfl
 | cons a l ih=>
  show (if i=a.id then a else Ai (Bx l) i itm0)=_;rw [List.map_cons,List.idxOf_cons]
  by_cases h:a.id=i
  ·rw [if_pos h.symm];simp [h]
  ·rw [if_neg (fun e=>h e.symm),ih];have hb:(a.id==i)=false:=by simp [h]
   rw [hb];simp
theorem JA (l:List AT) (i:Int):P7 (Bx l) i=decide (i∈l.map AT.id):=by
 rw [Bool.eq_iff_iff,Ml,decide_eq_true_eq];unfold Bx;rw [List.map_map];rfl
theorem IN (p:Prb) (i:Int):Ai (Bx p.it) i itm0=itmOf p i:=TH p.it i
theorem Lx {p:Prb} (hb:D1 p) (i:Int):(itmOf p i).po.length≤100000∧(itmOf p i).pa.length≤100000∧(itmOf p i).af.length≤100000:=by
 unfold itmOf;rw [List.getD_eq_getElem?_getD]
 cases h:p.it[(p.it.map AT.id).idxOf i]? with
 | none=>exact ⟨by simp [itm0],by simp [itm0],by simp [itm0]⟩
 | some x=>exact hb.2.2 _ (List.mem_of_getElem? h)
theorem Ir (p:Prb) (l:List Int) (hb:D1 p) (hl:l.length≤100000) (hE:E3 p l=0):A2 Tryz.prog 156 [.d (Cc p),.d (.sl none (l.map AH))] [] fun r H'=>r= .tup [.ptr 10 0 0,.map 2 0,.d (AH 0)]∧H'=HA p++ [(2,[CL AH BJ (Ba l)])]:=by
 have h0:Ao p=0:=by
  unfold E3 at hE;split at hE
  ·exact hE
  ·rename_i h;simpa using h
 have han:=(JM p hb h0).by [(3,10),(2,11)] rfl;have hC:E3 p l=Wo (p.it.map AT.id) l:=if_neg (fun h=>h h0);rw [hC] at hE;refine B2 Tryz.func156 Z Z Tryz.ntmps156 Z Z Z fun F hF=>?_;refine AF (AJ (U (C5 1 Z Z Z Z Z Z Z) (AD Z Z (AD Z Z (AD Z Z (AG (AF (AJ ?_))))))))
 first | refine J (Av Z Z A4 rfl) ?_ | refine J (Aw Z Z A4 Z Z Z) ?_ | refine J (Ax Z Z (rfl) rfl A4 rfl) ?_
 refine U (Fp han rfl [10,11] ⟨rfl,rfl,trivial⟩ Z Z Z Z Z Z Z Z Z) (AC Z Z ?_)
 first | refine J (B6 Z Z Z) ?_ | refine J (B7 Z Z Z) ?_
 first | refine J (B6 Z Z Z) ?_ | refine J (B7 Z Z Z) ?_
 refine AD Z Z (AD Z Z (AG (AF (AF (AJ (AC Z Z ?_))))))
 first | refine J (Fa Z Z Z) ?_ | refine J (F9 Z Z Z) ?_ | refine J (FM Z Z Z) ?_ | refine J (Fb Tryz.underlying34 Z Z Z) ?_ | refine J (Fd Tryz.underlying34 Z Z Z) ?_ | refine J (st_neqN Tryz.underlying34 Z Z) ?_ | refine J (Fc Tryz.underlying34 Z Z Z) ?_ | refine J (st_neqFN Tryz.underlying34 Z Z) ?_
 refine AG (Fs rfl ((by decide)) (Ak ?_));refine AF (AJ (U (Ys 2 Z Z Z Z) (AD Z Z (AG (AF (AF (AJ (AC Z Z ?_))))))))
 first | refine J (Cz rfl Tryz.underlying33 rfl) ?_ | refine J (C9 Z Z Tryz.underlying33 rfl) ?_ | refine J (DB rfl Tryz.underlying33 rfl) ?_ | refine J (Cy rfl Tryz.underlying33 rfl) ?_ | refine J (Cr rfl Tryz.underlying33 rfl) ?_ | refine J (Cw rfl Tryz.underlying33 rfl) ?_
 refine AC Z Z (AG (Al (DG (α:=Nat) (fun k=>⟨48,[(7,(.ptr 10 0 0)),(9,(.map 2 0)),(23,(.d (.sl none (l.map AH)))),(24,(.d (AH (l.length:Int)))),(25,(.d (AH (k:Int))))],HA p++ [(2,[CL AH BJ (Ba (l.take k))])]⟩) (fun k=>k≤l.length) (fun k=>l.length - k) (0) (Nat.zero_le _) (BA hF [10,11,2] Z Z ⟨rfl,rfl,rfl,rfl,rfl,trivial⟩) ?_)));rintro k hk0;refine AF (AJ ?_)
 first | refine J (CD Z Z Z) ?_ | refine J (CE Z Z Z) ?_
 refine AG (AF ?_)
 first | refine Ay rfl (fun h26=>?_) (fun h26=>?_) | refine At rfl (fun h26=>?_) (fun h26=>?_)
 ·have hk1:k<l.length:=DA h26;refine Ak (AF (Al (AF (AJ ?_))));have hin:l[k]∈p.it.map AT.id:=(Wm hE).2 _ (List.getElem_mem hk1);have hnk:l[k]∉l.take k:=fun h=>by have hn2:=(Wm hE).1;rw [List.Nodup,List.pairwise_iff_getElem] at hn2;obtain ⟨j,hj,e⟩:=List.mem_take_iff_getElem.1 h;exact hn2 j k (by omega) hk1 (by omega) e
  first | refine J (CT (k) Z Z (rfl) (A0 hk1) Tryz.underlying33 rfl Ep rfl) ?_ | refine J (CU (k) Z Z (rfl) (A0 hk1) rfl Tryz.underlying33 Ep rfl) ?_
  first | refine J (AY Z Z Ab rfl) ?_ | refine J (AW Z Z Z Ab rfl) ?_ | refine J (AX Z Z (rfl) rfl Ab rfl) ?_
  refine AD Z Z (AG (AF (AF (AJ (AC Z Z ?_)))))
  first | refine J (BS Z Z) ?_ | refine J (BQ Z Z) ?_ | refine J (BT Z Z) ?_ | refine J (BR Z Z) ?_
  first | refine J (AM rfl FL Z Z Z) ?_ | refine J (AO rfl FL Z Z Z) ?_ | refine J (AP rfl FL Z Z Z) ?_ | refine J (AN rfl FL Z Z Z) ?_ | refine J (AL rfl FL Z Z Z) ?_
  first | refine J (AY Z Z C4 rfl) ?_ | refine J (AW Z Z Z C4 rfl) ?_ | refine J (AX Z Z (rfl) rfl C4 rfl) ?_
  refine AC Z Z (J (MM (Bx p.it) l[k] itm0 Z Z Z LT KB Um De rfl) (AC Z Z ?_))
  first | refine J (B6 Z Z Z) ?_ | refine J (B7 Z Z Z) ?_
  first | refine J (B6 Z Z Z) ?_ | refine J (B7 Z Z Z) ?_
  refine U (DO 3 FG Z Z Z Z) (U (CF Z Z Z Z Z Z Z C6) (AD Z Z (AG (AF (AJ (AC Z Z ?_))))))
  first | refine J (GZ Z Z) ?_ | refine J (GP Z Z) ?_
  refine AG (Fs rfl ((by rw [JA,decide_eq_true hin];rfl)) (Ak (AF (AF (AJ ?_)))));refine AC Z Z (AC Z Z (J (LC (Ba (l.take k)) (l[k]) (false) _ Z Z Z Ib KB za4 Z Z) (AG (Fs rfl ((by rw [EE];exact decide_eq_false hnk)) (Ak (AJ (AC Z Z (AC Z Z ?_))))))))
  first | refine U (FR (Ba (l.take k)) (l[k]) (true) Z Z Z Ib KB Z Z) ?_ | refine U (ED (Ba (l.take k)) (l[k]) (true) Z Z Z Ib KB Z Z) ?_
  refine AG (AJ (J (Bi Z Z (Ac (k+1) (by omega)) rfl) (AC Z Z (AG ?_))));exact ⟨k+1,by show k+1≤_;omega,by show l.length - (k+1)<l.length - k;omega,BA hF [10,11,2] rfl (by rw [List.take_succ_eq_append_getElem hk1,←HQ hnk];rfl) ⟨rfl,rfl,rfl,rfl,rfl,trivial⟩⟩
 ·refine CW ?_;refine AF (AJ (AC Z Z (AC Z Z (AD Z Z (AD Z Z (AD Z Z (AG (Ae ?_))))))));exact ⟨_,[10,11,2],_,Aa rfl,rfl,rfl,rfl,by rw [List.take_of_length_le (show l.length≤k by have h:=h26;omega)];rfl⟩
theorem HU (p:Prb) (l:List Int) (hb:D1 p) (hl:l.length≤100000) (hE:E3 p l≠0):AU Tryz.prog 156 [.d (Cc p),.d (.sl none (l.map AH))] (.tup [.raw (.pointer none),.raw (.map none),AH (E3 p l)]):=by
 by_cases h0:Ao p=0
 ·have han:=(JM p hb h0).by [(3,10),(2,11)] rfl;have hC:E3 p l=Wo (p.it.map AT.id) l:=if_neg (fun h=>h h0);rw [hC] at hE⊢
  obtain ⟨E0,hE0⟩:∃e,Wo (p.it.map AT.id) l=e:=⟨_,rfl⟩
  rw [hE0] at hE⊢;refine B2 Tryz.func156 Z Z Tryz.ntmps156 Z Z Z fun F hF=>?_;refine AF (AJ (U (C5 1 Z Z Z Z Z Z Z) (AD Z Z (AD Z Z (AD Z Z (AG (AF (AJ ?_))))))))
  first | refine J (Av Z Z A4 rfl) ?_ | refine J (Aw Z Z A4 Z Z Z) ?_ | refine J (Ax Z Z (rfl) rfl A4 rfl) ?_
  refine U (Fp han rfl [10,11] ⟨rfl,rfl,trivial⟩ Z Z Z Z Z Z Z Z Z) (AC Z Z ?_)
  first | refine J (B6 Z Z Z) ?_ | refine J (B7 Z Z Z) ?_
  first | refine J (B6 Z Z Z) ?_ | refine J (B7 Z Z Z) ?_
  refine AD Z Z (AD Z Z (AG (AF (AF (AJ (AC Z Z ?_))))))
  first | refine J (Fa Z Z Z) ?_ | refine J (F9 Z Z Z) ?_ | refine J (FM Z Z Z) ?_ | refine J (Fb Tryz.underlying34 Z Z Z) ?_ | refine J (Fd Tryz.underlying34 Z Z Z) ?_ | refine J (st_neqN Tryz.underlying34 Z Z) ?_ | refine J (Fc Tryz.underlying34 Z Z Z) ?_ | refine J (st_neqFN Tryz.underlying34 Z Z) ?_
  refine AG (Fs rfl ((by decide)) (Ak ?_));refine AF (AJ (U (Ys 2 Z Z Z Z) (AD Z Z (AG (AF (AF (AJ (AC Z Z ?_))))))))
  first | refine J (Cz rfl Tryz.underlying33 rfl) ?_ | refine J (C9 Z Z Tryz.underlying33 rfl) ?_ | refine J (DB rfl Tryz.underlying33 rfl) ?_ | refine J (Cy rfl Tryz.underlying33 rfl) ?_ | refine J (Cr rfl Tryz.underlying33 rfl) ?_ | refine J (Cw rfl Tryz.underlying33 rfl) ?_
  refine AC Z Z (AG (Al (DG (α:=Nat) (fun k=>⟨48,[(7,(.ptr 10 0 0)),(9,(.map 2 0)),(23,(.d (.sl none (l.map AH)))),(24,(.d (AH (l.length:Int)))),(25,(.d (AH (k:Int))))],HA p++ [(2,[CL AH BJ (Ba (l.take k))])]⟩) (fun k=>k≤l.length∧E0=Bl (((List.range l.length).drop k).map (NQ (p.it.map AT.id) l))) (fun k=>l.length - k) (0) (⟨Nat.zero_le _,hE0.symm⟩) (BA hF [10,11,2] Z Z ⟨rfl,rfl,rfl,rfl,rfl,trivial⟩) ?_)));rintro k ⟨hk0,hk⟩;refine AF (AJ ?_)
  first | refine J (CD Z Z Z) ?_ | refine J (CE Z Z Z) ?_
  refine AG (AF ?_)
  first | refine Ay rfl (fun h26=>?_) (fun h26=>?_) | refine At rfl (fun h26=>?_) (fun h26=>?_)
  ·have hk1:k<l.length:=DA h26;refine Ak (AF (Al (AF (AJ ?_))));have hEc:=FV hk1 hk;have hgd:=Bd 0 hk1
   first | refine J (CT (k) Z Z (rfl) (A0 hk1) Tryz.underlying33 rfl Ep rfl) ?_ | refine J (CU (k) Z Z (rfl) (A0 hk1) rfl Tryz.underlying33 Ep rfl) ?_
   first | refine J (AY Z Z Ab rfl) ?_ | refine J (AW Z Z Z Ab rfl) ?_ | refine J (AX Z Z (rfl) rfl Ab rfl) ?_
   refine AD Z Z (AG (AF (AF (AJ (AC Z Z ?_)))))
   first | refine J (BS Z Z) ?_ | refine J (BQ Z Z) ?_ | refine J (BT Z Z) ?_ | refine J (BR Z Z) ?_
   first | refine J (AM rfl FL Z Z Z) ?_ | refine J (AO rfl FL Z Z Z) ?_ | refine J (AP rfl FL Z Z Z) ?_ | refine J (AN rfl FL Z Z Z) ?_ | refine J (AL rfl FL Z Z Z) ?_
   first | refine J (AY Z Z C4 rfl) ?_ | refine J (AW Z Z Z C4 rfl) ?_ | refine J (AX Z Z (rfl) rfl C4 rfl) ?_
   refine AC Z Z (J (MM (Bx p.it) l[k] itm0 Z Z Z LT KB Um De rfl) (AC Z Z ?_))
   first | refine J (B6 Z Z Z) ?_ | refine J (B7 Z Z Z) ?_
   first | refine J (B6 Z Z Z) ?_ | refine J (B7 Z Z Z) ?_
   refine U (DO 3 FG Z Z Z Z) (U (CF Z Z Z Z Z Z Z C6) (AD Z Z (AG (AF (AJ (AC Z Z ?_))))))
   first | refine J (GZ Z Z) ?_ | refine J (GP Z Z) ?_
   refine AG ?_
   first | refine Ay rfl (fun h39=>?_) (fun h39=>?_) | refine At rfl (fun h39=>?_) (fun h39=>?_)
   ·have hin:¬l[k]∈p.it.map AT.id:=by rw [JA] at h39;simpa using h39
    refine AF (AJ (AD Z Z (AD Z Z (AD Z Z (AG (Ae ?_))))));exact ⟨_,[],[],Aa rfl,rfl,rfl,by rw [hEc.2 9 (by unfold NQ;rw [hgd,if_pos hin]) (by decide)],rfl⟩
   ·have hin:l[k]∈p.it.map AT.id:=by rw [JA] at h39;simpa using h39
    refine Ak (AF (AF (AJ (AC Z Z (AC Z Z (J (LC (Ba (l.take k)) (l[k]) (false) _ Z Z Z Ib KB za4 Z Z) (AG ?_)))))))
    first | refine Ay rfl (fun h42=>?_) (fun h42=>?_) | refine At rfl (fun h42=>?_) (fun h42=>?_)
    ·have hnk:l[k]∈l.take k:=by rw [EE] at h42;simpa using h42
     refine AF (AJ (AD Z Z (AD Z Z (AD Z Z (AG (Ae ?_))))));exact ⟨_,[],[],Aa rfl,rfl,rfl,by rw [hEc.2 7 (by unfold NQ;rw [hgd,if_neg (fun h=>h hin),if_pos hnk]) (by decide)],rfl⟩
    ·have hnk:¬l[k]∈l.take k:=by rw [EE] at h42;simpa using h42
     refine Ak (AJ (AC Z Z (AC Z Z ?_)))
     first | refine U (FR (Ba (l.take k)) (l[k]) (true) Z Z Z Ib KB Z Z) ?_ | refine U (ED (Ba (l.take k)) (l[k]) (true) Z Z Z Ib KB Z Z) ?_
     refine AG (AJ (J (Bi Z Z (Ac (k+1) (by omega)) rfl) (AC Z Z (AG ?_))));exact ⟨k+1,⟨by show k+1≤_;omega,hEc.1 (by unfold NQ;rw [hgd,if_neg (fun h=>h hin),if_neg hnk])⟩,by show l.length - (k+1)<l.length - k;omega,BA hF [10,11,2] rfl (by rw [List.take_succ_eq_append_getElem hk1,←HQ hnk];rfl) ⟨rfl,rfl,rfl,rfl,rfl,trivial⟩⟩
  ·refine CW ?_;refine AF (AJ (AC Z Z (AC Z Z (AD Z Z (AD Z Z (AD Z Z (AG (Ae ?_))))))));exact absurd (by rw [hk,List.drop_of_length_le (by have h:=h26;simp only [List.length_range];omega)];rfl) hE
 ·have hC:E3 p l=Ao p:=if_pos h0;have hab:=Rs p hb h0;rw [hC];refine B2 Tryz.func156 Z Z Tryz.ntmps156 Z Z Z fun F hF=>?_;refine AF (AJ (U (C5 1 Z Z Z Z Z Z Z) (AD Z Z (AD Z Z (AD Z Z (AG (AF (AJ ?_))))))))
  first | refine J (Av Z Z A4 rfl) ?_ | refine J (Aw Z Z A4 Z Z Z) ?_ | refine J (Ax Z Z (rfl) rfl A4 rfl) ?_
  refine J (B1 (hab) Z Z) (AC Z Z ?_)
  first | refine J (B6 Z Z Z) ?_ | refine J (B7 Z Z Z) ?_
  first | refine J (B6 Z Z Z) ?_ | refine J (B7 Z Z Z) ?_
  refine AD Z Z (AD Z Z (AG (AF (AF (AJ (AC Z Z ?_))))))
  first | refine J (Fa Z Z Z) ?_ | refine J (F9 Z Z Z) ?_ | refine J (FM Z Z Z) ?_ | refine J (Fb Tryz.underlying34 Z Z Z) ?_ | refine J (Fd Tryz.underlying34 Z Z Z) ?_ | refine J (st_neqN Tryz.underlying34 Z Z) ?_ | refine J (Fc Tryz.underlying34 Z Z Z) ?_ | refine J (st_neqFN Tryz.underlying34 Z Z) ?_
  refine AG ?_;refine EB rfl ((decide_eq_true h0)) (AF (AJ (AC Z Z (AD Z Z (AD Z Z (AD Z Z (AG (Ae ?_))))))));exact ⟨_,[],[],Aa rfl,rfl,rfl,rfl,rfl⟩
structure Bkd where
 i:Int
 m:Int
 r:A5
 deriving DecidableEq
abbrev MS:A5:=⟨0,Rv,[],[]⟩
abbrev NU (x:Bkd):D:= .agg [AH x.i,AH x.m,AH x.r.k,Am x.r.acc.o,AH x.r.acc.k,Am x.r.acc.a,Am x.r.f,Am x.r.t]
def prefN (i:Int) (q:List Int):Nat:=(max (ixI i q) 0).toNat
def Cb (i:Int) (q:List Int):List Int:=q.take (prefN i q)
def VN (i:Int) (af:List Int):List Bkd:=(Ck af).map fun x=>⟨i,x,MS⟩
def EY (i:Int) (x:Lin):List Bkd:=(Cb i x.q).map fun y=>⟨i,y,x.r⟩
def req (p:Prb) (i:Int):List Bkd:=VN i (itmOf p i).af++(linL p).flatMap (EY i)
def D0 (inM:Int ->Bool) (l:List Bkd):List Bkd:=l.filter fun b=>!inM b.m
def inM (M:List (Int×Bool)) (x:Int):Bool:=Ai M x false
theorem XH (i:Int) (q:List Int):prefN i q≤q.length:=by
 unfold prefN ixI
 split
 ·rename_i h
  have:=List.idxOf_lt_length_iff.2 h;omega
 ·omega
theorem XI (i:Int) (q:List Int):max (ixI i q) 0=(prefN i q:Int):=by unfold prefN;omega
theorem Rq (f:Int ->Bool) (l m:List Bkd):D0 f (l++m)=D0 f l++D0 f m:=List.filter_append _ _
theorem FD (f:Int ->Bool) (l:List Bkd):(D0 f l).length≤l.length:=List.length_filter_le _ _
theorem IV {f:Int ->Bool} {l:List Bkd} {k:Nat} (hk:k<l.length):D0 f (l.take (k+1))=D0 f (l.take k)++(if !f l[k].m then [l[k]] else []):=My hk
theorem GH {α β:Type} {f:α ->List β} {l:List α} {k:Nat} (hk:k<l.length):(l.take (k+1)).flatMap f=(l.take k).flatMap f++f l[k]:=by
 rw [List.take_succ_eq_append_getElem hk,List.flatMap_append];simp
theorem KH {α β:Type} {f:α ->List β} {n:Nat}:∀{l:List α},(∀x∈l,(f x).length≤n) ->(l.flatMap f).length≤l.length*n
 | [],_=>by simp
 | a::l,h=>by
  have h1:=h a (by simp);have h2:=KH (l:=l) (fun x hx=>h x (by simp [hx]));rw [List.flatMap_cons,List.length_append,List.length_cons,Nat.add_mul];omega
theorem Xv {p:Prb} (x:Lin) (hx:x∈linL p):x.q.length≤p.it.length:=by
 unfold linL at hx;obtain ⟨y,_,rfl⟩:=List.mem_map.1 hx;show (qIds (ordP p) y.r).length≤_;unfold qIds;rw [List.length_map];exact Nat.le_trans (List.length_filter_le _ _) (EK p)
theorem Qd {p:Prb} (i:Int) (x:Lin) (hx:x∈linL p):(EY i x).length≤p.it.length:=by
 unfold EY Cb;rw [List.length_map,List.length_take];have:=Xv x hx;omega
abbrev Nj (mv:Nat):AV:= .d (.raw (.map (some mv)))
abbrev HM2 (p:Prb) (mv:Nat) (bs:Option (List Nat×Nat)) (M:List (Int×Bool)):Hp:=HA p++ [(12,[.map bs (Bw AH BJ M)]),(13,[.addr 12 0 (.map (some mv))])]
theorem NS (p:Prb) (mv:Nat) (bs:Option (List Nat×Nat)) (M:List (Int×Bool)) (i:Int) (hb:D1 p) (h1:p.it.length≤1000) (h2:p.ro.length≤1000):A2 Tryz.prog 120 [.ptr 10 0 0,Nj mv,.d (AH i)] (HM2 p mv bs M) fun r H'=>r= .d (.sl none ((D0 (inM M) (req p i)).map NU))∧H'=HM2 p mv bs M:=by
 have hI:=IN p i;have hIb:=Lx hb i;have hLl:=Ez p;have hcl:=(Y7 (itmOf p i).af (by omega)).by [(20,21)] rfl;have hRl:∀x∈linL p,(EY i x).length≤1000:=fun x hx=>Nat.le_trans (Qd i x hx) h1;have hsl:=Fw (itmOf p i).af
 obtain ⟨S,hS⟩:∃S,Ck (itmOf p i).af=S:=⟨_,rfl⟩
 have hreq:req p i=(S.map fun x=>(⟨i,x,MS⟩:Bkd))++(linL p).flatMap (EY i):=by unfold req VN;rw [hS]
 rw [hreq];rw [hS] at hsl;refine B2 Tryz.func120 Z Z Tryz.ntmps120 Z Z Z fun F hF=>(AF (AJ (AD Z Z ?_)));refine AG (AF (AJ (AD Z Z (AG (AF (EA 7 900 I9 Z Z Z Z (AJ (AC Z Z ?_))))))))
 first | refine J (BS Z Z) ?_ | refine J (BQ Z Z) ?_ | refine J (BT Z Z) ?_ | refine J (BR Z Z) ?_
 first | refine J (AM rfl FL Z Z Z) ?_ | refine J (AO rfl FL Z Z Z) ?_ | refine J (AP rfl FL Z Z Z) ?_ | refine J (AN rfl FL Z Z Z) ?_ | refine J (AL rfl FL Z Z Z) ?_
 first | refine J (AY Z Z C4 rfl) ?_ | refine J (AW Z Z Z C4 rfl) ?_ | refine J (AX Z Z (rfl) rfl C4 rfl) ?_
 refine AC Z Z (J (Jb (Bx p.it) i itm0 (itmOf p i) Z Z Z LT KB Um De hI rfl) ?_)
 first | refine J (S0 rfl El Z Z) ?_ | refine J (SZ rfl El (by simp) Z Z) ?_ | refine J (S1 rfl El Z Z) ?_
 refine U (Fp hcl rfl [21] ⟨rfl,trivial⟩ Z Z Z Z Z Z Z Z Z) ?_;refine AD Z Z (AG (AF (AJ (AC Z Z (U (QY laysS (itmOf p i).af (by omega) Z Z Z Z Z Z Z) (AG (AF (AF ?_))))))));rw [hS];refine WK (emb:=AH) 8 21 S Z Z Z hsl.symm Z Z Z (AJ (AC Z Z ?_))
 first | refine J (Cz rfl Tryz.underlying33 rfl) ?_ | refine J (C9 Z Z Tryz.underlying33 rfl) ?_ | refine J (DB rfl Tryz.underlying33 rfl) ?_ | refine J (Cy rfl Tryz.underlying33 rfl) ?_ | refine J (Cr rfl Tryz.underlying33 rfl) ?_ | refine J (Cw rfl Tryz.underlying33 rfl) ?_
 refine AC Z Z (AG (Al (DG (α:=Nat×List Bkd) (fun q=>⟨81,[(0,.ptr 10 0 0),(1,Nj mv),(2,.d (AH i)),(7,(.own 900 0 q.2.length)),(26,(.d (.sl none (S.map AH)))),(27,(.d (AH (S.length:Int)))),(28,(.d (AH (q.1:Int))))],HM2 p mv bs M++ [(900,[.rowD 229 8 (q.2.map NU)])]⟩) (fun q=>q.1≤S.length∧q.2=D0 (inM M) ((S.map fun x=>(⟨i,x,MS⟩:Bkd)).take q.1)) (fun q=>S.length - q.1) ((0,[])) (⟨Nat.zero_le _,rfl⟩) (BA hF [10,11,12,13,900] Z Z ⟨rfl,rfl,rfl,rfl,rfl,rfl,rfl,trivial⟩) ?_)));rintro ⟨k,acc⟩ ⟨hk0,hA⟩;dsimp only at hk0 hA⊢;refine AF (AJ ?_)
 first | refine J (CD Z Z Z) ?_ | refine J (CE Z Z Z) ?_
 refine AG (AF ?_)
 first | refine Ay rfl (fun h29=>?_) (fun h29=>?_) | refine At rfl (fun h29=>?_) (fun h29=>?_)
 ·have hk1:k<S.length:=DA h29;refine Ak (AF (Al (AF (AJ ?_))))
  first | refine J (CT (k) Z Z (rfl) (A0 hk1) Tryz.underlying33 rfl Ep rfl) ?_ | refine J (CU (k) Z Z (rfl) (A0 hk1) rfl Tryz.underlying33 Ep rfl) ?_
  first | refine J (AY Z Z Ab rfl) ?_ | refine J (AW Z Z Z Ab rfl) ?_ | refine J (AX Z Z (rfl) rfl Ab rfl) ?_
  refine AD Z Z (AG (AF (AJ (AC Z Z (Ex 32 13 0 Z Z (AC Z Z (J (LC M S[k] false (inM M S[k]) Z Z Z Ib KB za4 Z Z) ?_)))))))
  first | refine J (GZ Z Z) ?_ | refine J (GP Z Z) ?_
  refine AG ?_
  first | refine Ay rfl (fun h35=>?_) (fun h35=>?_) | refine At rfl (fun h35=>?_) (fun h35=>?_)
  ·refine AJ ?_;have hal:acc.length≤100000:=by rw [hA];refine Nat.le_trans (FD _ _) ?_;rw [List.length_take,List.length_map];omega
   refine AC Z Z (AC Z Z (AC Z Z (J (DH WR pl229 Z Z Z) (U (Fq 1 I9 Z Z Z Z Z Z Z Z) ?_))))
   first | refine U (If (acc) ([⟨i,S[k],MS⟩]) Z Z Z Z Z Z Z Z I9 (by simp only [List.length_singleton];omega) Z Z Z Z) ?_ | refine U (LD (acc) ([⟨i,S[k],MS⟩]) Z Z Z Z Z Z (fun _=>rfl) I9 (by simp only [List.length_singleton];omega) Z Z Z Z) ?_
   refine AD Z Z (AG (AJ (J (Bi Z Z (Ac (k+1) (by omega)) rfl) (AC Z Z (AG ?_)))));exact ⟨(k+1,acc++ [⟨i,S[k],MS⟩]),⟨by show k+1≤_;omega,by show acc++ [⟨i,S[k],MS⟩]=D0 (inM M) ((S.map fun x=>(⟨i,x,MS⟩:Bkd)).take (k+1));rw [IV (by simpa using hk1),List.getElem_map,if_pos (by show (!inM M S[k])=true;simpa using h35),hA]⟩,by show S.length - (k+1)<S.length - k;omega,BA hF [10,11,12,13,900] rfl (rfl) ⟨rfl,rfl,rfl,rfl,rfl,rfl,rfl,trivial⟩⟩
  ·refine Ak (AJ (J (Bi Z Z (Ac (k+1) (by omega)) rfl) (AC Z Z (AG ?_))));exact ⟨(k+1,acc),⟨by show k+1≤_;omega,by show acc=D0 (inM M) ((S.map fun x=>(⟨i,x,MS⟩:Bkd)).take (k+1));rw [IV (by simpa using hk1),List.getElem_map,if_neg (by show ¬(!inM M S[k])=true;simpa using h35),List.append_nil,hA]⟩,by show S.length - (k+1)<S.length - k;omega,BA hF [10,11,12,13,900] rfl (rfl) ⟨rfl,rfl,rfl,rfl,rfl,rfl,rfl,trivial⟩⟩
 ·refine CW (AF (AF ?_));have hA1:acc=D0 (inM M) (S.map fun x=>(⟨i,x,MS⟩:Bkd)):=by rw [hA,List.take_of_length_le (by rw [List.length_map];have h:=h29;omega)]
  have hal1:acc.length≤100000:=by rw [hA1];refine Nat.le_trans (FD _ _) ?_;rw [List.length_map];omega
  refine AJ (AC Z Z ?_)
  first | refine J (BS Z Z) ?_ | refine J (BQ Z Z) ?_ | refine J (BT Z Z) ?_ | refine J (BR Z Z) ?_
  first | refine J (AM rfl Hv Z Z Z) ?_ | refine J (AO rfl Hv Z Z Z) ?_ | refine J (AP rfl Hv Z Z Z) ?_ | refine J (AN rfl Hv Z Z Z) ?_ | refine J (AL rfl Hv Z Z Z) ?_
  first | refine J (AY Z Z Ev rfl) ?_ | refine J (AW Z Z Z Ev rfl) ?_ | refine J (AX Z Z (rfl) rfl Ev rfl) ?_
  first | refine J (Cz rfl Tryz.underlying213 rfl) ?_ | refine J (C9 Z Z Tryz.underlying213 rfl) ?_ | refine J (DB rfl Tryz.underlying213 rfl) ?_ | refine J (Cy rfl Tryz.underlying213 rfl) ?_ | refine J (Cr rfl Tryz.underlying213 rfl) ?_ | refine J (Cw rfl Tryz.underlying213 rfl) ?_
  refine AC Z Z (AG (Al (DG (α:=Nat×List Bkd) (fun q=>⟨81,[(0,.ptr 10 0 0),(1,Nj mv),(2,.d (AH i)),(7,(.own 900 0 q.2.length)),(46,(.d (.sl none ((linL p).map Kl)))),(47,(.d (AH ((linL p).length:Int)))),(48,(.d (AH (q.1:Int))))],HM2 p mv bs M++ [(900,[.rowD 229 8 (q.2.map NU)])]⟩) (fun q=>q.1≤(linL p).length∧q.2=acc++D0 (inM M) (((linL p).take q.1).flatMap (EY i))) (fun q=>(linL p).length - q.1) ((0,acc)) (⟨Nat.zero_le _,by simp [D0]⟩) (BA hF [10,11,12,13,900] Z Z ⟨rfl,rfl,rfl,rfl,rfl,rfl,rfl,trivial⟩) ?_)));rintro ⟨m,acc2⟩ ⟨hm0,hB⟩;dsimp only at hm0 hB⊢;refine AF (AJ ?_)
  first | refine J (CD Z Z Z) ?_ | refine J (CE Z Z Z) ?_
  refine AG (AF ?_)
  first | refine Ay rfl (fun h49=>?_) (fun h49=>?_) | refine At rfl (fun h49=>?_) (fun h49=>?_)
  ·have hm1:m<(linL p).length:=DA h49;refine Ak (AF (Al (AF (AJ ?_))));have hql:=Xv _ (List.getElem_mem hm1);have hfl:=KH (f:=EY i) (n:=1000) (l:=(linL p).take m) (fun x hx=>hRl x (List.mem_of_mem_take hx));have hbl:acc2.length≤1200000:=by rw [hB,List.length_append];have:=FD (inM M) (((linL p).take m).flatMap (EY i));rw [List.length_take] at hfl;have h3:min m (linL p).length*1000≤1000*1000:=Nat.mul_le_mul_right _ (by omega);omega
   first | refine J (CT (m) Z Z (rfl) (A0 hm1) Tryz.underlying213 rfl J6 rfl) ?_ | refine J (CU (m) Z Z (rfl) (A0 hm1) rfl Tryz.underlying213 J6 rfl) ?_
   first | refine J (Av Z Z Ji rfl) ?_ | refine J (Aw Z Z Ji Z Z Z) ?_ | refine J (Ax Z Z (rfl) rfl Ji rfl) ?_
   refine U (DO 2 QM Z Z Z Z) (U (CF Z Z Z Z Z Z Z J6) (AG (AF (AJ ?_))))
   first | refine J (AM rfl Dt Z Z Z) ?_ | refine J (AO rfl Dt Z Z Z) ?_ | refine J (AP rfl Dt Z Z Z) ?_ | refine J (AN rfl Dt Z Z Z) ?_ | refine J (AL rfl Dt Z Z Z) ?_
   first | refine J (AY Z Z BO rfl) ?_ | refine J (AW Z Z Z BO rfl) ?_ | refine J (AX Z Z (rfl) rfl BO rfl) ?_
   refine AC Z Z (J (B1 (U0 (linL p)[m].q i (by omega)) Z Z) (AD Z Z (AG (AF (AJ ?_)))))
   first | refine J (AM rfl Dt Z Z Z) ?_ | refine J (AO rfl Dt Z Z Z) ?_ | refine J (AP rfl Dt Z Z Z) ?_ | refine J (AN rfl Dt Z Z Z) ?_ | refine J (AL rfl Dt Z Z Z) ?_
   first | refine J (AY Z Z BO rfl) ?_ | refine J (AW Z Z Z BO rfl) ?_ | refine J (AX Z Z (rfl) rfl BO rfl) ?_
   refine AC Z Z (J (PP Z Z (maxI _) rfl) (J (LI ((linL p)[m].q) (prefN i (linL p)[m].q) Z Z Z (XI _ _) (XH _ _) Tryz.underlying33 Ep (fun _=>rfl) rfl) ?_))
   first | refine J (Cz rfl Tryz.underlying33 rfl) ?_ | refine J (C9 Z Z Tryz.underlying33 rfl) ?_ | refine J (DB rfl Tryz.underlying33 rfl) ?_ | refine J (Cy rfl Tryz.underlying33 rfl) ?_ | refine J (Cr rfl Tryz.underlying33 rfl) ?_ | refine J (Cw rfl Tryz.underlying33 rfl) ?_
   refine AC Z Z (AG (Al (DG (α:=Nat×List Bkd) (fun q=>⟨81,[(0,.ptr 10 0 0),(1,Nj mv),(2,.d (AH i)),(7,(.own 900 0 q.2.length)),(12,(.ptr 2 0 0)),(46,(.d (.sl none ((linL p).map Kl)))),(47,(.d (AH ((linL p).length:Int)))),(48,(.d (AH (m:Int)))),(60,(.d (.sl none ((Cb i (linL p)[m].q).map AH)))),(61,(.d (AH ((Cb i (linL p)[m].q).length:Int)))),(62,(.d (AH (q.1:Int))))],HM2 p mv bs M++ [(900,[.rowD 229 8 (q.2.map NU)]),(2,[.blk 218 [.d (AH (linL p)[m].r.k),.d (Am (linL p)[m].r.acc.o),.d (AH (linL p)[m].r.acc.k),.d (Am (linL p)[m].r.acc.a),.d (Am (linL p)[m].r.f),.d (Am (linL p)[m].r.t),.d (AH (linL p)[m].n),.d (.sl none ((linL p)[m].q.map AH))]])]⟩) (fun q=>q.1≤(Cb i (linL p)[m].q).length∧q.2=acc2++D0 (inM M) ((EY i (linL p)[m]).take q.1)) (fun q=>(Cb i (linL p)[m].q).length - q.1) ((0,acc2)) (⟨Nat.zero_le _,by simp [D0]⟩) (BA hF [10,11,12,13,900,2] Z Z ⟨rfl,rfl,rfl,rfl,rfl,rfl,rfl,rfl,rfl,rfl,rfl,trivial⟩) ?_)));rintro ⟨j,acc3⟩ ⟨hj0,hC⟩;dsimp only at hj0 hC⊢;refine AF (AJ ?_)
   first | refine J (CD Z Z Z) ?_ | refine J (CE Z Z Z) ?_
   refine AG (AF ?_)
   first | refine Ay rfl (fun h63=>?_) (fun h63=>?_) | refine At rfl (fun h63=>?_) (fun h63=>?_)
   ·have hj1:j<(Cb i (linL p)[m].q).length:=DA h63;refine Ak (AF (Al (AF (AJ ?_))))
    first | refine J (CT (j) Z Z (rfl) (A0 hj1) Tryz.underlying33 rfl Ep rfl) ?_ | refine J (CU (j) Z Z (rfl) (A0 hj1) rfl Tryz.underlying33 Ep rfl) ?_
    first | refine J (AY Z Z Ab rfl) ?_ | refine J (AW Z Z Z Ab rfl) ?_ | refine J (AX Z Z (rfl) rfl Ab rfl) ?_
    refine AD Z Z (AG (AF (AJ (AC Z Z (Ex 66 13 0 Z Z (AC Z Z (J (LC M (Cb i (linL p)[m].q)[j] false (inM M (Cb i (linL p)[m].q)[j]) Z Z Z Ib KB za4 Z Z) ?_)))))))
    first | refine J (GZ Z Z) ?_ | refine J (GP Z Z) ?_
    refine AG ?_
    first | refine Ay rfl (fun h69=>?_) (fun h69=>?_) | refine At rfl (fun h69=>?_) (fun h69=>?_)
    ·refine AJ ?_;have hcl3:acc3.length≤1300000:=by rw [hC,List.length_append];have h3:=FD (inM M) ((EY i (linL p)[m]).take j);have h4:=hRl _ (List.getElem_mem hm1);rw [List.length_take] at h3;omega
     refine AC Z Z (AC Z Z (AC Z Z ?_))
     first | refine J (AM rfl GY Z Z Z) ?_ | refine J (AO rfl GY Z Z Z) ?_ | refine J (AP rfl GY Z Z Z) ?_ | refine J (AN rfl GY Z Z Z) ?_ | refine J (AL rfl GY Z Z Z) ?_
     first | refine J (Av Z Z Ah rfl) ?_ | refine J (Aw Z Z Ah Z Z Z) ?_ | refine J (Ax Z Z (rfl) rfl Ah rfl) ?_
     refine J (DH WR pl229 Z Z Z) (U (Fq 3 I9 Z Z Z Z Z Z Z Z) ?_)
     first | refine U (If (acc3) ([⟨i,(Cb i (linL p)[m].q)[j],(linL p)[m].r⟩]) Z Z Z Z Z Z Z Z I9 (by simp only [List.length_singleton];omega) Z Z Z Z) ?_ | refine U (LD (acc3) ([⟨i,(Cb i (linL p)[m].q)[j],(linL p)[m].r⟩]) Z Z Z Z Z Z (fun _=>rfl) I9 (by simp only [List.length_singleton];omega) Z Z Z Z) ?_
     refine AD Z Z (AG (AJ (J (Bi Z Z (Ac (j+1) (by have h5:(Cb i (linL p)[m].q).length≤1000:=by {unfold Cb;rw [List.length_take];omega};omega)) rfl) (AC Z Z (AG ?_)))));exact ⟨(j+1,acc3++ [⟨i,(Cb i (linL p)[m].q)[j],(linL p)[m].r⟩]),⟨by show j+1≤_;omega,by show acc3++ [⟨i,(Cb i (linL p)[m].q)[j],(linL p)[m].r⟩]=acc2++D0 (inM M) ((EY i (linL p)[m]).take (j+1));rw [IV (by unfold EY;simpa using hj1),hC,List.append_assoc];congr 2;unfold EY;rw [List.getElem_map,if_pos (by show (!inM M (Cb i (linL p)[m].q)[j])=true;simpa using h69)]⟩,by show (Cb i (linL p)[m].q).length - (j+1)<(Cb i (linL p)[m].q).length - j;omega,BA hF [10,11,12,13,900,2] rfl (rfl) ⟨rfl,rfl,rfl,rfl,rfl,rfl,rfl,rfl,rfl,rfl,rfl,trivial⟩⟩
    ·refine Ak (AJ (J (Bi Z Z (Ac (j+1) (by have h5:(Cb i (linL p)[m].q).length≤1000:=by {unfold Cb;rw [List.length_take];omega};omega)) rfl) (AC Z Z (AG ?_))));exact ⟨(j+1,acc3),⟨by show j+1≤_;omega,by show acc3=acc2++D0 (inM M) ((EY i (linL p)[m]).take (j+1));rw [IV (by unfold EY;simpa using hj1),hC];unfold EY;rw [List.getElem_map,if_neg (by show ¬(!inM M (Cb i (linL p)[m].q)[j])=true;simpa using h69),List.append_nil]⟩,by show (Cb i (linL p)[m].q).length - (j+1)<(Cb i (linL p)[m].q).length - j;omega,BA hF [10,11,12,13,900,2] rfl (rfl) ⟨rfl,rfl,rfl,rfl,rfl,rfl,rfl,rfl,rfl,rfl,rfl,trivial⟩⟩
   ·have hfin:acc3=acc2++D0 (inM M) (EY i (linL p)[m]):=by rw [hC,List.take_of_length_le (by unfold EY;rw [List.length_map];have h:=h63;omega)]
    refine CW (AJ (J (Bi Z Z (Ac (m+1) (by omega)) rfl) (AC Z Z (AG ?_))));exact ⟨(m+1,acc3),⟨by show m+1≤_;omega,by show acc3=acc++D0 (inM M) (((linL p).take (m+1)).flatMap (EY i));rw [GH hm1,Rq,←List.append_assoc,←hB];exact hfin⟩,by show (linL p).length - (m+1)<(linL p).length - m;omega,BA hF [10,11,12,13,900] rfl (rfl) ⟨rfl,rfl,rfl,rfl,rfl,rfl,rfl,trivial⟩⟩
  ·refine CW (AF ?_);have hfa:acc2=D0 (inM M) ((S.map fun x=>(⟨i,x,MS⟩:Bkd))++(linL p).flatMap (EY i)):=by rw [hB,hA1,List.take_of_length_le (by have h:=h49;omega),Rq]
   refine WK (emb:=NU) 7 900 acc2 Z Z Z Z Z Z Z (AJ (AC Z Z (AD Z Z (AG (Ae ?_)))));exact ⟨_,[10,11,12,13],_,Aa rfl,rfl,rfl,by rw [hfa],rfl⟩
def I4 (p:Prb) (f:Int ->Bool) (i:Int):List Bkd:=if f i then D0 f (req p i) else []
def GO (p:Prb) (f:Int ->Bool):List Bkd:=(GS p).flatMap (I4 p f)
theorem Lt {p:Prb} (hb:D1 p) (h1:p.it.length≤1000) (h2:p.ro.length≤1000) (i:Int):(req p i).length≤1100000:=by
 unfold req VN;rw [List.length_append,List.length_map,Fw];have h3:=Lx hb i;have h4:=KH (f:=EY i) (n:=1000) (l:=linL p) (fun x hx=>Nat.le_trans (Qd i x hx) h1);have h5:=Ez p;have h6:(linL p).length*1000≤1000*1000:=Nat.mul_le_mul_right _ (by omega);omega
theorem Yc {p:Prb} (hb:D1 p) (h1:p.it.length≤1000) (h2:p.ro.length≤1000) (f:Int ->Bool) (i:Int):(I4 p f i).length≤1100000:=by
 unfold I4;split
 ·exact Nat.le_trans (FD _ _) (Lt hb h1 h2 i)
 ·simp
theorem le_step {a k N:Nat} (h:a≤k*N):a≤(k+1)*N:=Nat.le_trans h (Nat.mul_le_mul_right _ (Nat.le_succ _))
theorem Xx {α:Type} {a b:List α} {k N:Nat} (h:a.length≤k*N) (h2:b.length≤N):(a++b).length≤(k+1)*N:=by rw [List.length_append,Nat.add_mul,Nat.one_mul];exact Nat.add_le_add h h2
theorem Ro (p:Prb) (mv:Nat) (bs:Option (List Nat×Nat)) (M:List (Int×Bool)) (hb:D1 p) (h1:p.it.length≤1000) (h2:p.ro.length≤1000):A2 Tryz.prog 157 [.ptr 10 0 0,Nj mv] (HM2 p mv bs M) fun r H'=>r= .d (.sl none ((GO p (inM M)).map NU))∧H'=HM2 p mv bs M:=by
 have hbl:∀i,(I4 p (inM M) i).length≤1100000:=Yc hb h1 h2 _;have hor:(GS p).length≤1000:=by unfold GS;rw [List.length_map];exact Nat.le_trans (EK p) h1
 have hbs:GO p (inM M)=(GS p).flatMap (I4 p (inM M)):=rfl;rw [hbs];refine B2 Tryz.func157 Z Z Tryz.ntmps157 Z Z Z fun F hF=>(AF (AJ (AD Z Z (AG ?_))));refine AF (AJ (AD Z Z (AG (AF (AF (EA 5 900 I9 Z Z Z Z (AJ (AC Z Z ?_))))))))
 first | refine J (BS Z Z) ?_ | refine J (BQ Z Z) ?_ | refine J (BT Z Z) ?_ | refine J (BR Z Z) ?_
 first | refine J (AM rfl Du Z Z Z) ?_ | refine J (AO rfl Du Z Z Z) ?_ | refine J (AP rfl Du Z Z Z) ?_ | refine J (AN rfl Du Z Z Z) ?_ | refine J (AL rfl Du Z Z Z) ?_
 first | refine J (AY Z Z BO rfl) ?_ | refine J (AW Z Z Z BO rfl) ?_ | refine J (AX Z Z (rfl) rfl BO rfl) ?_
 first | refine J (Cz rfl Tryz.underlying33 rfl) ?_ | refine J (C9 Z Z Tryz.underlying33 rfl) ?_ | refine J (DB rfl Tryz.underlying33 rfl) ?_ | refine J (Cy rfl Tryz.underlying33 rfl) ?_ | refine J (Cr rfl Tryz.underlying33 rfl) ?_ | refine J (Cw rfl Tryz.underlying33 rfl) ?_
 refine AC Z Z (AG (Al (DG (α:=Nat×List Bkd) (fun q=>⟨28,[(0,.ptr 10 0 0),(1,Nj mv),(5,(.own 900 0 q.2.length)),(11,(.d (.sl none ((GS p).map AH)))),(12,(.d (AH ((GS p).length:Int)))),(13,(.d (AH (q.1:Int))))],HM2 p mv bs M++ [(900,[.rowD 229 8 (q.2.map NU)])]⟩) (fun q=>q.1≤(GS p).length∧q.2=((GS p).take q.1).flatMap (I4 p (inM M))∧q.2.length≤q.1*1100000) (fun q=>(GS p).length - q.1) ((0,[])) (⟨Nat.zero_le _,rfl,Nat.le_refl _⟩) (BA hF [10,11,12,13,900] Z Z ⟨rfl,rfl,rfl,rfl,rfl,rfl,trivial⟩) ?_)));rintro ⟨k,acc⟩ ⟨hk0,hA,hL⟩;dsimp only at hk0 hA hL⊢;refine AF (AJ ?_)
 first | refine J (CD Z Z Z) ?_ | refine J (CE Z Z Z) ?_
 refine AG (AF ?_)
 first | refine Ay rfl (fun h14=>?_) (fun h14=>?_) | refine At rfl (fun h14=>?_) (fun h14=>?_)
 ·have hk1:k<(GS p).length:=DA h14;refine Ak (AF (Al (AF (AJ ?_))))
  first | refine J (CT (k) Z Z (rfl) (A0 hk1) Tryz.underlying33 rfl Ep rfl) ?_ | refine J (CU (k) Z Z (rfl) (A0 hk1) rfl Tryz.underlying33 Ep rfl) ?_
  first | refine J (AY Z Z Ab rfl) ?_ | refine J (AW Z Z Z Ab rfl) ?_ | refine J (AX Z Z (rfl) rfl Ab rfl) ?_
  refine AD Z Z (AG (AF (AJ (AC Z Z (Ex 17 13 0 Z Z (AC Z Z (J (LC M (GS p)[k] false (inM M (GS p)[k]) Z Z Z Ib KB za4 Z Z) (AG ?_))))))))
  first | refine Ay rfl (fun h19=>?_) (fun h19=>?_) | refine At rfl (fun h19=>?_) (fun h19=>?_)
  ·refine AJ (AC Z Z (AC Z Z (AC Z Z (AC Z Z (U (Fp (NS p mv bs M (GS p)[k] hb h1 h2) rfl [10,11,12,13] ⟨rfl,rfl,rfl,rfl,trivial⟩ Z Z Z Z Z Z Z Z Z) ?_)))));have hrl:=Nat.le_trans (FD (inM M) _) (Lt hb h1 h2 (GS p)[k])
   first | refine U (If (acc) (D0 (inM M) (req p (GS p)[k])) Z Z Z Z Z Z Z Z I9 (by omega) Z Z Z Z) ?_ | refine U (LD (acc) (D0 (inM M) (req p (GS p)[k])) Z Z Z Z Z Z (fun _=>rfl) I9 (by omega) Z Z Z Z) ?_
   refine AD Z Z (AG (AJ (J (Bi Z Z (Ac (k+1) (by have h:=hor;omega)) rfl) (AC Z Z (AG ?_)))));exact ⟨(k+1,acc++D0 (inM M) (req p (GS p)[k])),⟨by show k+1≤_;omega,by show acc++D0 (inM M) (req p (GS p)[k])=((GS p).take (k+1)).flatMap (I4 p (inM M));rw [GH hk1,←hA];unfold I4;rw [if_pos (by simpa using h19)],Xx hL (Nat.le_trans (FD (inM M) _) (Lt hb h1 h2 (GS p)[k]))⟩,by show (GS p).length - (k+1)<(GS p).length - k;omega,BA hF [10,11,12,13,900] rfl (rfl) ⟨rfl,rfl,rfl,rfl,rfl,rfl,trivial⟩⟩
  ·refine Ak (AJ (J (Bi Z Z (Ac (k+1) (by have h:=hor;omega)) rfl) (AC Z Z (AG ?_))));exact ⟨(k+1,acc),⟨by show k+1≤_;omega,by show acc=((GS p).take (k+1)).flatMap (I4 p (inM M));rw [GH hk1,←hA];unfold I4;rw [if_neg (by simpa using h19),List.append_nil],le_step hL⟩,by show (GS p).length - (k+1)<(GS p).length - k;omega,BA hF [10,11,12,13,900] rfl (rfl) ⟨rfl,rfl,rfl,rfl,rfl,rfl,trivial⟩⟩
 ·refine CW (AF ?_);have hfa:acc=(GS p).flatMap (I4 p (inM M)):=by rw [hA,List.take_of_length_le (by have h:=h14;omega)]
  refine WK (emb:=NU) 5 900 acc Z Z Z Z Z Z Z (AJ (AC Z Z (AD Z Z (AG (Ae ?_)))));exact ⟨_,[10,11,12,13],_,Aa rfl,rfl,rfl,by rw [hfa],rfl⟩
def FH (p:Prb) (r:A5) (l:List (Int×Bool)):Int:=(l.map fun e=>if e.2=true then CJ (itmOf p e.1) r else 0).sum
theorem K1 {p:Prb} {r:A5} {l m:List (Int×Bool)} (h:l.Perm m):FH p r l=FH p r m:=XR h _
theorem Up (p:Prb) (r:A5) (e:Int×Bool) (l:List (Int×Bool)):FH p r (e::l)=(if e.2=true then CJ (itmOf p e.1) r else 0)+FH p r l:=by simp [FH]
theorem MH (p:Prb) (r:A5) (k:Int) (v:Bool) (l:List (Int×Bool)):FH p r ((k,v)::l)=(if v=true then CJ (itmOf p k) r else 0)+FH p r l:=Up p r (k,v) l
theorem Rl {p:Prb} {l:List Int} (h:E3 p l=0):Ao p=0:=by
 unfold E3 at h;split at h
 ·exact h
 ·rename_i hn;simpa using hn
theorem Tw {a b:Bool} {x:D} (h:a=b):AV.d (.tup [.raw (.bool a),x])= .d (.tup [.raw (.bool b),x]):=by rw [h]
theorem TP (i:AT) (r:A5): -1000000000000000≤CJ i r∧CJ i r≤1000000000000000:=by
 unfold CJ
 split
 ·rename_i h;simpa [Mx] using Pr h.1 r
 ·omega
theorem SP (p:Prb) (r:A5) {l:List (Int×Bool)} (h:l.length≤1000): -1000000000000000000≤FH p r l∧FH p r l≤1000000000000000000:=by
 have:=Us (l:=l) (f:=fun e=>if e.2=true then CJ (itmOf p e.1) r else 0) (B:=1000000000000000) (fun e _=>by
  show _≤(if e.2=true then _ else _)∧_;have:=TP (itmOf p e.1) r
  split<;>omega) 1000 h (by omega)
 unfold FH;omega
def PJ (p:Prb) (M:List (Int×Bool)) (x:Lin):List Roo:=if x.n+FH p x.r M<0 then [⟨x.r,0 - (x.n+FH p x.r M)⟩] else []
def HK (p:Prb) (M:List (Int×Bool)):List Roo:=(linL p).flatMap (PJ p M)
theorem TA {p:Prb} (hp:Ao p=0) (x:Lin) (hx:x∈linL p):0≤x.n∧x.n≤4000000000000000:=by
 unfold linL at hx;obtain ⟨y,hy,rfl⟩:=List.mem_map.1 hx;have:=OL (KW hp).1 y ((IJ p.ro).mem_iff.1 hy);show 0≤max y.n 0∧max y.n 0≤_;omega
abbrev HM3 (p:Prb) (mv:Nat) (M:List (Int×Bool)):Hp:=HA p++ [(12,[CL AH BJ M]),(13,[.addr 12 0 (.map (some mv))])]
theorem J4 (p:Prb) (mv:Nat) (M:List (Int×Bool)) (hp:Ao p=0) (hb:D1 p) (hM:M.length≤1000):A2 Tryz.prog 159 [.ptr 10 0 0,Nj mv] (HM3 p mv M) fun r H'=>r= .d (.sl none ((HK p M).map Ff))∧H'=HM3 p mv M:=by
 have hb1:=hb.1;have hLl:=Ez p;refine B2 Tryz.func159 Z Z Tryz.ntmps159 Z Z Z fun F hF=>(AF (AJ (AD Z Z (AG ?_))));refine AF (AJ (AD Z Z (AG (AF (AF (EA 5 900 Tr Z Z Z Z (AJ (AC Z Z ?_))))))))
 first | refine J (BS Z Z) ?_ | refine J (BQ Z Z) ?_ | refine J (BT Z Z) ?_ | refine J (BR Z Z) ?_
 first | refine J (AM rfl Hv Z Z Z) ?_ | refine J (AO rfl Hv Z Z Z) ?_ | refine J (AP rfl Hv Z Z Z) ?_ | refine J (AN rfl Hv Z Z Z) ?_ | refine J (AL rfl Hv Z Z Z) ?_
 first | refine J (AY Z Z Ev rfl) ?_ | refine J (AW Z Z Z Ev rfl) ?_ | refine J (AX Z Z (rfl) rfl Ev rfl) ?_
 first | refine J (Cz rfl Tryz.underlying213 rfl) ?_ | refine J (C9 Z Z Tryz.underlying213 rfl) ?_ | refine J (DB rfl Tryz.underlying213 rfl) ?_ | refine J (Cy rfl Tryz.underlying213 rfl) ?_ | refine J (Cr rfl Tryz.underlying213 rfl) ?_ | refine J (Cw rfl Tryz.underlying213 rfl) ?_
 refine AC Z Z (AG (Al (DG (α:=Nat×List Roo) (fun q=>⟨53,[(0,.ptr 10 0 0),(1,Nj mv),(5,(.own 900 0 q.2.length)),(14,(.d (.sl none ((linL p).map Kl)))),(15,(.d (AH ((linL p).length:Int)))),(16,(.d (AH (q.1:Int))))],HM3 p mv M++ [(900,[.rowD 205 7 (q.2.map Ff)])]⟩) (fun q=>q.1≤(linL p).length∧q.2=((linL p).take q.1).flatMap (PJ p M)∧q.2.length≤q.1) (fun q=>(linL p).length - q.1) ((0,[])) (⟨Nat.zero_le _,rfl,Nat.le_refl _⟩) (BA hF [10,11,12,13,900] Z Z ⟨rfl,rfl,rfl,rfl,rfl,rfl,trivial⟩) ?_)));rintro ⟨k,acc⟩ ⟨hk0,hA,hL⟩;dsimp only at hk0 hA hL⊢;refine AF (AJ ?_)
 first | refine J (CD Z Z Z) ?_ | refine J (CE Z Z Z) ?_
 refine AG (AF ?_)
 first | refine Ay rfl (fun h17=>?_) (fun h17=>?_) | refine At rfl (fun h17=>?_) (fun h17=>?_)
 ·have hk1:k<(linL p).length:=DA h17;refine Ak (AF (Al (AF (AJ ?_))));have hxn:=TA hp _ (List.getElem_mem hk1)
  first | refine J (CT (k) Z Z (rfl) (A0 hk1) Tryz.underlying213 rfl J6 rfl) ?_ | refine J (CU (k) Z Z (rfl) (A0 hk1) rfl Tryz.underlying213 J6 rfl) ?_
  first | refine J (Av Z Z Ji rfl) ?_ | refine J (Aw Z Z Ji Z Z Z) ?_ | refine J (Ax Z Z (rfl) rfl Ji rfl) ?_
  refine U (DO 1 QM Z Z Z Z) (U (CF Z Z Z Z Z Z Z J6) (AG (AF (AJ ?_))))
  first | refine J (AM rfl T6 Z Z Z) ?_ | refine J (AO rfl T6 Z Z Z) ?_ | refine J (AP rfl T6 Z Z Z) ?_ | refine J (AN rfl T6 Z Z Z) ?_ | refine J (AL rfl T6 Z Z Z) ?_
  first | refine J (AY Z Z BI rfl) ?_ | refine J (AW Z Z Z BI rfl) ?_ | refine J (AX Z Z (rfl) rfl BI rfl) ?_
  refine AD Z Z (AG ?_);refine AF (AF (AJ (AC Z Z (Ex 22 13 0 Z Z (U (Ja 2 Z Z Z Ib Z Z Z Z) (AG (Al (DG (α:=List Nat×Int) (fun q=>⟨53,[(0,.ptr 10 0 0),(1,Nj mv),(5,(.own 900 0 acc.length)),(7,(.ptr 1 0 0)),(8,(.d (AH q.2))),(14,(.d (.sl none ((linL p).map Kl)))),(15,(.d (AH ((linL p).length:Int)))),(16,(.d (AH (k:Int)))),(23,(.ptr 2 0 0))],HM3 p mv M++ [(900,[.rowD 205 7 (acc.map Ff)]),(1,[.blk 218 [.d (AH (linL p)[k].r.k),.d (Am (linL p)[k].r.acc.o),.d (AH (linL p)[k].r.acc.k),.d (Am (linL p)[k].r.acc.a),.d (Am (linL p)[k].r.f),.d (Am (linL p)[k].r.t),.d (AH (linL p)[k].n),.d (.sl none ((linL p)[k].q.map AH))]]),(2,[.iter 12 0 M.length q.1])]⟩) (fun q=>q.2+FH p (linL p)[k].r (EP M (List.range M.length) q.1)=(linL p)[k].n+FH p (linL p)[k].r M) (fun q=>(EP M (List.range M.length) q.1).length) (([],(linL p)[k].n)) (by show (linL p)[k].n+FH p (linL p)[k].r (EP M (List.range M.length) [])=_;rw [IK (by simp)]) (BA hF [10,11,12,13,900,1,2] Z Z ⟨rfl,rfl,rfl,rfl,rfl,rfl,rfl,rfl,rfl,trivial⟩) ?_))))))));rintro ⟨seen,left⟩ hI;dsimp only at hI⊢;refine AF (AJ (P3 (M) Z Z Z Z (fun hl24=>?_) (fun j24 b24 k24 v24 hm24 hb24 hB24 hp24=>⟨_,rfl,?_⟩)))
  ·have hfin:left=(linL p)[k].n+FH p (linL p)[k].r M:=by have h1:=hI;rw [hl24] at h1;have h2:FH p (linL p)[k].r []=0:=rfl;omega
   first | refine J (B6 Z Z Z) ?_ | refine J (B7 Z Z Z) ?_
   refine AG (AF (Fs Z Z (CW (AF (AJ (AC Z Z ?_))))))
   first | refine J (CD Z Z Z) ?_ | refine J (CE Z Z Z) ?_
   refine AG ?_
   first | refine Ay rfl (fun h42=>?_) (fun h42=>?_) | refine At rfl (fun h42=>?_) (fun h42=>?_)
   ·refine AJ ?_;have hv4:=SP p (linL p)[k].r hM;refine AC Z Z ?_
    first | refine J (AM rfl GY Z Z Z) ?_ | refine J (AO rfl GY Z Z Z) ?_ | refine J (AP rfl GY Z Z Z) ?_ | refine J (AN rfl GY Z Z Z) ?_ | refine J (AL rfl GY Z Z Z) ?_
    first | refine J (Av Z Z Ah rfl) ?_ | refine J (Aw Z Z Ah Z Z Z) ?_ | refine J (Ax Z Z (rfl) rfl Ah rfl) ?_
    refine AC Z Z (J (Wc rfl (IntWalk.i64_in _ (by omega)) rfl) (J (DH WS XQ Z Z Z) (U (Fq 3 Tr Z Z Z Z Z Z Z Z) ?_)))
    first | refine U (If (acc) ([⟨(linL p)[k].r,0 - left⟩]) Z Z Z Z Z Z Z Z Tr (by simp only [List.length_singleton];omega) Z Z Z Z) ?_ | refine U (LD (acc) ([⟨(linL p)[k].r,0 - left⟩]) Z Z Z Z Z Z (fun _=>rfl) Tr (by simp only [List.length_singleton];omega) Z Z Z Z) ?_
    refine AD Z Z (AG (AJ (J (Bi Z Z (Ac (k+1) (by omega)) rfl) (AC Z Z (AG ?_)))));exact ⟨(k+1,acc++ [⟨(linL p)[k].r,0 - left⟩]),⟨by show k+1≤_;omega,by show acc++ [⟨(linL p)[k].r,0 - left⟩]=((linL p).take (k+1)).flatMap (PJ p M);rw [GH hk1,←hA];unfold PJ;rw [←hfin,if_pos (by simpa using h42)],by show (acc++ [_]).length≤k+1;rw [List.length_append];simp;omega⟩,by show (linL p).length - (k+1)<(linL p).length - k;omega,BA hF [10,11,12,13,900] rfl (rfl) ⟨rfl,rfl,rfl,rfl,rfl,rfl,trivial⟩⟩
   ·refine Ak (AJ (J (Bi Z Z (Ac (k+1) (by omega)) rfl) (AC Z Z (AG ?_))));exact ⟨(k+1,acc),⟨by show k+1≤_;omega,by show acc=((linL p).take (k+1)).flatMap (PJ p M);rw [GH hk1,←hA];unfold PJ;rw [←hfin,if_neg (by simpa using h42),List.append_nil],by show acc.length≤k+1;omega⟩,by show (linL p).length - (k+1)<(linL p).length - k;omega,BA hF [10,11,12,13,900] rfl (rfl) ⟨rfl,rfl,rfl,rfl,rfl,rfl,trivial⟩⟩
  ·first | refine J (B6 Z Z Z) ?_ | refine J (B7 Z Z Z) ?_
   refine AG (AF (EB Z Z (Ak (Al (AF (AJ (J (Jc (M) j24 b24 Z Z Z hm24 hb24 rfl) ?_)))))))
   first | refine J (B6 Z Z Z) ?_ | refine J (B7 Z Z Z) ?_
   first | refine J (B6 Z Z Z) ?_ | refine J (B7 Z Z Z) ?_
   refine AD Z Z (AD Z Z (AG (AF (AJ (AC Z Z (AG ?_))))))
   first | refine Ay rfl (fun h29=>?_) (fun h29=>?_) | refine At rfl (fun h29=>?_) (fun h29=>?_)
   ·refine Gp [[],[],[1],[1,2],[1,2,3],[],[1,2,3,4,5],[],[7],[1,2,3,4,5,6,7,8],[0,1,2,3,4,5,6,7,8,9],[0,1,2,3,4,5,6,7,8,9,10]] BF rfl (Hh ?_);have hb3:=Lx hb k24;have hv1:=SP p (linL p)[k].r hM;have hv2:=SP p (linL p)[k].r (Nat.le_trans (lft_len (m:=M) (B:=List.range M.length) (seen:=seen)) hM);have hv3:=TP (itmOf p k24) (linL p)[k].r
    first | refine AE [8] [] Z Z (fun _=>AB (Be Z Z)) ?_ | refine AI [8] Z Z (fun _=>AB (Be Z Z)) ?_
    first | refine AE [0] [] Z Z (fun _=>AB (Be Z Z)) ?_ | refine AI [0] Z Z (fun _=>AB (Be Z Z)) ?_
    first | refine AE [31] [] Z Z (fun _=>AB (BS Z Z)) ?_ | refine AI [31] Z Z (fun _=>AB (BS Z Z)) ?_ | refine AE [31] [] Z Z (fun _=>AB (BQ Z Z)) ?_ | refine AI [31] Z Z (fun _=>AB (BQ Z Z)) ?_ | refine AE [31] [] Z Z (fun _=>AB (BT Z Z)) ?_ | refine AI [31] Z Z (fun _=>AB (BT Z Z)) ?_ | refine AE [31] [] Z Z (fun _=>AB (BR Z Z)) ?_ | refine AI [31] Z Z (fun _=>AB (BR Z Z)) ?_
    first | refine AE [32] [] Z Z (fun _=>AB (AM rfl FL Z Z Z)) ?_ | refine AI [32] Z Z (fun _=>AB (AM rfl FL Z Z Z)) ?_ | refine AE [32] [] Z Z (fun _=>AB (AO rfl FL Z Z Z)) ?_ | refine AI [32] Z Z (fun _=>AB (AO rfl FL Z Z Z)) ?_ | refine AE [32] [] Z Z (fun _=>AB (AP rfl FL Z Z Z)) ?_ | refine AI [32] Z Z (fun _=>AB (AP rfl FL Z Z Z)) ?_ | refine AE [32] [] Z Z (fun _=>AB (AN rfl FL Z Z Z)) ?_ | refine AI [32] Z Z (fun _=>AB (AN rfl FL Z Z Z)) ?_ | refine AE [32] [] Z Z (fun _=>AB (AL rfl FL Z Z Z)) ?_ | refine AI [32] Z Z (fun _=>AB (AL rfl FL Z Z Z)) ?_
    first | refine AE [33] [] Z Z (fun _=>AB (AY Z Z C4 rfl)) ?_ | refine AI [33] Z Z (fun _=>AB (AY Z Z C4 rfl)) ?_ | refine AE [33] [] Z Z (fun _=>AB (AW Z Z Z C4 rfl)) ?_ | refine AI [33] Z Z (fun _=>AB (AW Z Z Z C4 rfl)) ?_ | refine AE [33] [] Z Z (fun _=>AB (AX Z Z (rfl) rfl C4 rfl)) ?_ | refine AI [33] Z Z (fun _=>AB (AX Z Z (rfl) rfl C4 rfl)) ?_
    first | refine AE [9] [] Z Z (fun _=>AB (Be Z Z)) ?_ | refine AI [9] Z Z (fun _=>AB (Be Z Z)) ?_
    first | refine AE [34,35] [] Z Z (fun _=>AB (Jb (Bx p.it) k24 itm0 (itmOf p k24) Z Z Z LT KB Um De (IN p k24) rfl)) ?_ | refine AI [34,35] Z Z (fun _=>AB (Jb (Bx p.it) k24 itm0 (itmOf p k24) Z Z Z LT KB Um De (IN p k24) rfl)) ?_
    first | refine AE [7] [] Z Z (fun _=>AB (AM rfl GY Z Z Z)) ?_ | refine AI [7] Z Z (fun _=>AB (AM rfl GY Z Z Z)) ?_ | refine AE [7] [] Z Z (fun _=>AB (AO rfl GY Z Z Z)) ?_ | refine AI [7] Z Z (fun _=>AB (AO rfl GY Z Z Z)) ?_ | refine AE [7] [] Z Z (fun _=>AB (AP rfl GY Z Z Z)) ?_ | refine AI [7] Z Z (fun _=>AB (AP rfl GY Z Z Z)) ?_ | refine AE [7] [] Z Z (fun _=>AB (AN rfl GY Z Z Z)) ?_ | refine AI [7] Z Z (fun _=>AB (AN rfl GY Z Z Z)) ?_ | refine AE [7] [] Z Z (fun _=>AB (AL rfl GY Z Z Z)) ?_ | refine AI [7] Z Z (fun _=>AB (AL rfl GY Z Z Z)) ?_
    first | refine AE [37] [] Z Z (fun _=>AB (Av Z Z Ah rfl)) ?_ | refine AI [37] Z Z (fun _=>AB (Av Z Z Ah rfl)) ?_ | refine AE [37] [] Z Z (fun _=>AB (Aw Z Z Ah Z Z Z)) ?_ | refine AI [37] Z Z (fun _=>AB (Aw Z Z Ah Z Z Z)) ?_ | refine AE [37] [] Z Z (fun _=>AB (Ax Z Z (rfl) rfl Ah rfl)) ?_ | refine AI [37] Z Z (fun _=>AB (Ax Z Z (rfl) rfl Ah rfl)) ?_
    first | refine AE [36,38] [] Z Z (fun _=>AB (B1 (KO (itmOf p k24) (linL p)[k].r (by omega) (by omega) (by omega)) Z Z)) ?_ | refine AI [36,38] Z Z (fun _=>AB (B1 (KO (itmOf p k24) (linL p)[k].r (by omega) (by omega) (by omega)) Z Z)) ?_
    refine GR 10 Z Z Z (BC 11 Z Z (J (Bi Z Z (IntWalk.i64_in _ (by omega)) rfl) (AG ⟨rfl,?_⟩)));refine BC 12 Z Z (AD Z Z (AG ⟨rfl,?_⟩));refine GQ ?_;exact ⟨(seen++ [b24],left+CJ (itmOf p k24) (linL p)[k].r),(by show left+CJ (itmOf p k24) (linL p)[k].r+FH p (linL p)[k].r (EP M (List.range M.length) (seen++ [b24]))=_;rw [←hI,K1 hp24,MH,if_pos (by simpa using h29)];omega),by show (EP M (List.range M.length) (seen++ [b24])).length<(EP M (List.range M.length) seen).length;rw [hp24.length_eq];exact Nat.lt_succ_self _,BA hF [10,11,12,13,900,1,2] rfl (rfl) ⟨rfl,rfl,rfl,rfl,rfl,rfl,rfl,rfl,rfl,trivial⟩⟩
   ·refine Ak ?_;exact ⟨(seen++ [b24],left),(by show left+FH p (linL p)[k].r (EP M (List.range M.length) (seen++ [b24]))=_;rw [←hI,K1 hp24,MH,if_neg (by simpa using h29)];omega),by show (EP M (List.range M.length) (seen++ [b24])).length<(EP M (List.range M.length) seen).length;rw [hp24.length_eq];exact Nat.lt_succ_self _,BA hF [10,11,12,13,900,1,2] rfl (rfl) ⟨rfl,rfl,rfl,rfl,rfl,rfl,rfl,rfl,rfl,trivial⟩⟩
 ·refine CW (AF ?_);have hfa:acc=HK p M:=by rw [hA,List.take_of_length_le (by have h:=h17;omega)];rfl
  refine WK (emb:=Ff) 5 900 acc Z Z Z Z Z Z Z (AJ (AC Z Z (AD Z Z (AG (Ae ?_)))));exact ⟨_,[10,11,12,13],_,Aa rfl,rfl,rfl,by rw [hfa],rfl⟩
def Lk (l:List Int) (x:Int):Bool:=decide (x∈l)
theorem U1 (l:List Int):inM (Ba l)=Lk l:=funext fun x=>by unfold inM Lk;exact EE l x
theorem WA (p:Prb) (l:List Int) (hb:D1 p) (hl:l.length≤1000) (h1:p.it.length≤1000) (h2:p.ro.length≤1000):AU Tryz.prog 160 [.d (Cc p),.d (.sl none (l.map AH))] (.tup [.sl none ((if E3 p l=0 then GO p (Lk l) else []).map NU),AH (E3 p l)]):=by
 by_cases hE:E3 p l=0
 ·have hpr:=(Ir p l hb (by omega) hE).by [(2,12)] rfl;rw [if_pos hE,hE];have hbk:=fun mv=>Ro p mv (some (List.range (Ba l).length,(Ba l).length)) (Ba l) hb h1 h2;rw [U1] at hbk;refine B2 Tryz.func160 Z Z Tryz.ntmps160 Z Z Z fun F hF=>(AF (AJ (U (C5 1 Z Z Z Z Z Z Z) (AD Z Z (AD Z Z (AG (AF (AJ ?_))))))))
  first | refine J (Av Z Z A4 rfl) ?_ | refine J (Aw Z Z A4 Z Z Z) ?_ | refine J (Ax Z Z (rfl) rfl A4 rfl) ?_
  refine AC Z Z (U (Fp hpr rfl [10,11,12] ⟨rfl,rfl,rfl,trivial⟩ Z Z Z Z Z Z Z Z Z) (AC Z Z ?_))
  first | refine J (B6 Z Z Z) ?_ | refine J (B7 Z Z Z) ?_
  first | refine J (B6 Z Z Z) ?_ | refine J (B7 Z Z Z) ?_
  first | refine J (B6 Z Z Z) ?_ | refine J (B7 Z Z Z) ?_
  refine AD Z Z (AD Z Z (AD Z Z (AG (AF (AF (AJ (AC Z Z ?_)))))))
  first | refine J (Fa Z Z Z) ?_ | refine J (F9 Z Z Z) ?_ | refine J (FM Z Z Z) ?_ | refine J (Fb Tryz.underlying34 Z Z Z) ?_ | refine J (Fd Tryz.underlying34 Z Z Z) ?_ | refine J (st_neqN Tryz.underlying34 Z Z) ?_ | refine J (Fc Tryz.underlying34 Z Z Z) ?_ | refine J (st_neqFN Tryz.underlying34 Z Z) ?_
  refine AG (Fs rfl ((by decide)) (Ak (AF (NX 13 12 0 Z Z Z Z Z fun mv=>?_))));refine Pz 7 13 0 (.inl rfl) rfl (AJ (AC Z Z (AC Z Z (U (Fp (hbk mv) rfl [10,11,12,13] ⟨rfl,rfl,rfl,rfl,trivial⟩ Z Z Z Z Z Z Z Z Z) (AD Z Z (AD Z Z (AG (Ae ?_))))))));exact ⟨_,[],[],Aa rfl,rfl,rfl,rfl,rfl⟩
 ·have hpr:=HU p l hb (by omega) hE;rw [if_neg hE];refine B2 Tryz.func160 Z Z Tryz.ntmps160 Z Z Z fun F hF=>?_;refine AF (AJ (U (C5 1 Z Z Z Z Z Z Z) (AD Z Z (Ug 4 rfl (AD Z Z (AG (AF (AJ ?_))))))))
  first | refine J (Av Z Z A4 rfl) ?_ | refine J (Aw Z Z A4 Z Z Z) ?_ | refine J (Ax Z Z (rfl) rfl A4 rfl) ?_
  refine AC Z Z (J (B1 (hpr) Z Z) (AC Z Z ?_))
  first | refine J (B6 Z Z Z) ?_ | refine J (B7 Z Z Z) ?_
  first | refine J (B6 Z Z Z) ?_ | refine J (B7 Z Z Z) ?_
  first | refine J (B6 Z Z Z) ?_ | refine J (B7 Z Z Z) ?_
  refine AD Z Z (AD Z Z (AD Z Z (AG (AF (AF (AJ (AC Z Z ?_)))))))
  first | refine J (Fa Z Z Z) ?_ | refine J (F9 Z Z Z) ?_ | refine J (FM Z Z Z) ?_ | refine J (Fb Tryz.underlying34 Z Z Z) ?_ | refine J (Fd Tryz.underlying34 Z Z Z) ?_ | refine J (st_neqN Tryz.underlying34 Z Z) ?_ | refine J (Fc Tryz.underlying34 Z Z Z) ?_ | refine J (st_neqFN Tryz.underlying34 Z Z) ?_
  refine AG ?_;refine EB rfl ((decide_eq_true hE)) (AF (AJ (AC Z Z (AD Z Z (Ug 4 rfl (AD Z Z (AG (Ae ?_))))))));exact ⟨_,[],[],Aa rfl,rfl,rfl,rfl,rfl⟩
theorem admF_p (p:Prb) (l:List Int) (hb:D1 p) (hl:l.length≤1000) (h1:p.it.length≤1000) (h2:p.ro.length≤1000):AU Tryz.prog 114 [.d (Cc p),.d (.sl none (l.map AH))] (.tup [BJ (decide (E3 p l=0∧GO p (Lk l)=[])),AH (E3 p l)]):=by
 have hbk:=WA p l hb hl h1 h2;refine B2 Tryz.func114 Z Z Tryz.ntmps114 Z Z Z fun F hF=>(AF (AJ (U (C5 1 Z Z Z Z Z Z Z) (AD Z Z (AD Z Z (AG (AF (AJ ?_))))))))
 first | refine J (Av Z Z A4 rfl) ?_ | refine J (Aw Z Z A4 Z Z Z) ?_ | refine J (Ax Z Z (rfl) rfl A4 rfl) ?_
 refine AC Z Z (J (B1 (hbk) Z Z) (AC Z Z ?_))
 first | refine J (B6 Z Z Z) ?_ | refine J (B7 Z Z Z) ?_
 first | refine J (B6 Z Z Z) ?_ | refine J (B7 Z Z Z) ?_
 refine AD Z Z (AD Z Z (AG (AF (AJ (AC Z Z ?_)))))
 first | refine J (Ea Z Z Z) ?_ | refine J (E9 Z Z Z) ?_ | refine J (EV Z Z Z) ?_ | refine J (E4 Tryz.underlying34 Z Z Z) ?_ | refine J (E7 Tryz.underlying34 Z Z Z) ?_ | refine J (E6 Tryz.underlying34 Z Z) ?_ | refine J (E5 Tryz.underlying34 Z Z Z) ?_ | refine J (E8 Tryz.underlying34 Z Z) ?_
 refine AC Z Z ?_
 first | refine I5 16 rfl (fun h16=>?_) (fun h16=>?_) | refine Hw 16 rfl (fun h16=>?_) (fun h16=>?_)
 ·refine A9 Z Z Z (AC Z Z (A9 Z Z Z ?_))
  first | refine J (Cz rfl Tryz.underlying225 rfl) ?_ | refine J (C9 Z Z Tryz.underlying225 rfl) ?_ | refine J (DB rfl Tryz.underlying225 rfl) ?_ | refine J (Cy rfl Tryz.underlying225 rfl) ?_ | refine J (Cr rfl Tryz.underlying225 rfl) ?_ | refine J (Cw rfl Tryz.underlying225 rfl) ?_
  refine A9 Z Z Z ?_
  first | refine J (Ea Z Z Z) ?_ | refine J (E9 Z Z Z) ?_ | refine J (EV Z Z Z) ?_ | refine J (E4 Tryz.underlying3 Z Z Z) ?_ | refine J (E7 Tryz.underlying3 Z Z Z) ?_ | refine J (E6 Tryz.underlying3 Z Z) ?_ | refine J (E5 Tryz.underlying3 Z Z Z) ?_ | refine J (E8 Tryz.underlying3 Z Z) ?_
  refine J (DX Z Z Z Z) (AC Z Z (AD Z Z (AD Z Z (AG (Ae ?_)))));exact ⟨_,[],[],Aa rfl,rfl,rfl,Tw (by first | (rw [Bool.eq_iff_iff];simp [h16,List.length_eq_zero_iff];done) | (rw [Bool.eq_iff_iff];simp_all)),rfl⟩
 ·refine A8 Z Z Z Z (A8 Z Z Z Z (A8 Z Z Z Z (J (EC Z Z Z Z) (AC Z Z (AD Z Z (AD Z Z (AG (Ae ?_))))))));exact ⟨_,[],[],Aa rfl,rfl,rfl,Tw (by first | (rw [Bool.eq_iff_iff];simp [h16,List.length_eq_zero_iff];done) | (rw [Bool.eq_iff_iff];simp_all)),rfl⟩
theorem violF_p (p:Prb) (l:List Int) (hb:D1 p) (hl:l.length≤1000):AU Tryz.prog 110 [.d (Cc p),.d (.sl none (l.map AH))] (.tup [.sl none ((if E3 p l=0 then HK p (Ba l) else []).map Ff),AH (E3 p l)]):=by
 by_cases hE:E3 p l=0
 ·have hpr:=(Ir p l hb (by omega) hE).by [(2,12)] rfl;have h0:=Rl hE;rw [if_pos hE,hE];have hbk:=fun mv=>J4 p mv (Ba l) h0 hb (by unfold Ba;rw [List.length_map];exact hl);refine B2 Tryz.func110 Z Z Tryz.ntmps110 Z Z Z fun F hF=>(AF (AJ (U (C5 1 Z Z Z Z Z Z Z) (AD Z Z (AD Z Z (AG (AF (AJ ?_))))))))
  first | refine J (Av Z Z A4 rfl) ?_ | refine J (Aw Z Z A4 Z Z Z) ?_ | refine J (Ax Z Z (rfl) rfl A4 rfl) ?_
  refine AC Z Z (U (Fp hpr rfl [10,11,12] ⟨rfl,rfl,rfl,trivial⟩ Z Z Z Z Z Z Z Z Z) (AC Z Z ?_))
  first | refine J (B6 Z Z Z) ?_ | refine J (B7 Z Z Z) ?_
  first | refine J (B6 Z Z Z) ?_ | refine J (B7 Z Z Z) ?_
  first | refine J (B6 Z Z Z) ?_ | refine J (B7 Z Z Z) ?_
  refine AD Z Z (AD Z Z (AD Z Z (AG (AF (AF (AJ (AC Z Z ?_)))))))
  first | refine J (Fa Z Z Z) ?_ | refine J (F9 Z Z Z) ?_ | refine J (FM Z Z Z) ?_ | refine J (Fb Tryz.underlying34 Z Z Z) ?_ | refine J (Fd Tryz.underlying34 Z Z Z) ?_ | refine J (st_neqN Tryz.underlying34 Z Z) ?_ | refine J (Fc Tryz.underlying34 Z Z Z) ?_ | refine J (st_neqFN Tryz.underlying34 Z Z) ?_
  refine AG (Fs rfl ((by decide)) (Ak (AF (NX 13 12 0 Z Z Z Z Z fun mv=>?_))));refine Pz 7 13 0 (.inl rfl) rfl (AJ (AC Z Z (AC Z Z (U (Fp (hbk mv) rfl [10,11,12,13] ⟨rfl,rfl,rfl,rfl,trivial⟩ Z Z Z Z Z Z Z Z Z) (AD Z Z (AD Z Z (AG (Ae ?_))))))));exact ⟨_,[],[],Aa rfl,rfl,rfl,rfl,rfl⟩
 ·have hpr:=HU p l hb (by omega) hE;rw [if_neg hE];refine B2 Tryz.func110 Z Z Tryz.ntmps110 Z Z Z fun F hF=>?_;refine AF (AJ (U (C5 1 Z Z Z Z Z Z Z) (AD Z Z (Ug 4 rfl (AD Z Z (AG (AF (AJ ?_))))))))
  first | refine J (Av Z Z A4 rfl) ?_ | refine J (Aw Z Z A4 Z Z Z) ?_ | refine J (Ax Z Z (rfl) rfl A4 rfl) ?_
  refine AC Z Z (J (B1 (hpr) Z Z) (AC Z Z ?_))
  first | refine J (B6 Z Z Z) ?_ | refine J (B7 Z Z Z) ?_
  first | refine J (B6 Z Z Z) ?_ | refine J (B7 Z Z Z) ?_
  first | refine J (B6 Z Z Z) ?_ | refine J (B7 Z Z Z) ?_
  refine AD Z Z (AD Z Z (AD Z Z (AG (AF (AF (AJ (AC Z Z ?_)))))))
  first | refine J (Fa Z Z Z) ?_ | refine J (F9 Z Z Z) ?_ | refine J (FM Z Z Z) ?_ | refine J (Fb Tryz.underlying34 Z Z Z) ?_ | refine J (Fd Tryz.underlying34 Z Z Z) ?_ | refine J (st_neqN Tryz.underlying34 Z Z) ?_ | refine J (Fc Tryz.underlying34 Z Z Z) ?_ | refine J (st_neqFN Tryz.underlying34 Z Z) ?_
  refine AG ?_;refine EB rfl ((decide_eq_true hE)) (AF (AJ (AC Z Z (AD Z Z (Ug 4 rfl (AD Z Z (AG (Ae ?_))))))));exact ⟨_,[],[],Aa rfl,rfl,rfl,rfl,rfl⟩
theorem U4 (p:Prb) (l:List Int) (hb:D1 p) (hl:l.length≤1000) (h1:p.it.length≤1000) (h2:p.ro.length≤1000):AU Tryz.prog 113 [.d (Cc p),.d (.sl none (l.map AH))] (.tup [BJ (decide (E3 p l=0∧GO p (Lk l)=[]∧HK p (Ba l)=[])),AH (E3 p l)]):=by
 by_cases hE:E3 p l=0
 ·have hpr:=(Ir p l hb (by omega) hE).by [(2,12)] rfl;have h0:=Rl hE;have hbk:=fun mv=>Ro p mv (some (List.range (Ba l).length,(Ba l).length)) (Ba l) hb h1 h2;rw [U1] at hbk;have hvk:=fun mv=>J4 p mv (Ba l) h0 hb (by unfold Ba;rw [List.length_map];exact hl);rw [hE];refine B2 Tryz.func113 Z Z Tryz.ntmps113 Z Z Z fun F hF=>(AF (AJ (U (C5 1 Z Z Z Z Z Z Z) (AD Z Z (AD Z Z (AG (AF (AJ ?_))))))))
  first | refine J (Av Z Z A4 rfl) ?_ | refine J (Aw Z Z A4 Z Z Z) ?_ | refine J (Ax Z Z (rfl) rfl A4 rfl) ?_
  refine AC Z Z (U (Fp hpr rfl [10,11,12] ⟨rfl,rfl,rfl,trivial⟩ Z Z Z Z Z Z Z Z Z) (AC Z Z ?_))
  first | refine J (B6 Z Z Z) ?_ | refine J (B7 Z Z Z) ?_
  first | refine J (B6 Z Z Z) ?_ | refine J (B7 Z Z Z) ?_
  first | refine J (B6 Z Z Z) ?_ | refine J (B7 Z Z Z) ?_
  refine AD Z Z (AD Z Z (AD Z Z (AG (AF (AF (AJ (AC Z Z ?_)))))))
  first | refine J (Fa Z Z Z) ?_ | refine J (F9 Z Z Z) ?_ | refine J (FM Z Z Z) ?_ | refine J (Fb Tryz.underlying34 Z Z Z) ?_ | refine J (Fd Tryz.underlying34 Z Z Z) ?_ | refine J (st_neqN Tryz.underlying34 Z Z) ?_ | refine J (Fc Tryz.underlying34 Z Z Z) ?_ | refine J (st_neqFN Tryz.underlying34 Z Z) ?_
  refine AG ?_;refine Fs rfl ((by decide)) (Ak (AF (NX 13 12 0 Z Z Z Z Z fun mv=>(Pz 7 13 0 (.inl rfl) rfl (AJ (AC Z Z (AC Z Z (U (Fp (hbk mv) rfl [10,11,12,13] ⟨rfl,rfl,rfl,rfl,trivial⟩ Z Z Z Z Z Z Z Z Z) ?_))))))))
  first | refine J (Cz rfl Tryz.underlying225 rfl) ?_ | refine J (C9 Z Z Tryz.underlying225 rfl) ?_ | refine J (DB rfl Tryz.underlying225 rfl) ?_ | refine J (Cy rfl Tryz.underlying225 rfl) ?_ | refine J (Cr rfl Tryz.underlying225 rfl) ?_ | refine J (Cw rfl Tryz.underlying225 rfl) ?_
  first | refine J (Ea Z Z Z) ?_ | refine J (E9 Z Z Z) ?_ | refine J (EV Z Z Z) ?_ | refine J (E4 Tryz.underlying3 Z Z Z) ?_ | refine J (E7 Tryz.underlying3 Z Z Z) ?_ | refine J (E6 Tryz.underlying3 Z Z) ?_ | refine J (E5 Tryz.underlying3 Z Z Z) ?_ | refine J (E8 Tryz.underlying3 Z Z) ?_
  refine AC Z Z ?_
  first | refine I5 24 rfl (fun h24=>?_) (fun h24=>?_) | refine Hw 24 rfl (fun h24=>?_) (fun h24=>?_)
  ·refine A9 Z Z Z (AC Z Z (A9 Z Z Z (AC Z Z (A9 Z Z Z (U (Fp (hvk mv) rfl [10,11,12,13] ⟨rfl,rfl,rfl,rfl,trivial⟩ Z Z Z Z Z Z Z Z Z) (A9 Z Z Z ?_))))))
   first | refine J (Cz rfl Tryz.underlying201 rfl) ?_ | refine J (C9 Z Z Tryz.underlying201 rfl) ?_ | refine J (DB rfl Tryz.underlying201 rfl) ?_ | refine J (Cy rfl Tryz.underlying201 rfl) ?_ | refine J (Cr rfl Tryz.underlying201 rfl) ?_ | refine J (Cw rfl Tryz.underlying201 rfl) ?_
   refine A9 Z Z Z ?_
   first | refine J (Ea Z Z Z) ?_ | refine J (E9 Z Z Z) ?_ | refine J (EV Z Z Z) ?_ | refine J (E4 Tryz.underlying3 Z Z Z) ?_ | refine J (E7 Tryz.underlying3 Z Z Z) ?_ | refine J (E6 Tryz.underlying3 Z Z) ?_ | refine J (E5 Tryz.underlying3 Z Z Z) ?_ | refine J (E8 Tryz.underlying3 Z Z) ?_
   refine J (DX Z Z Z Z) (AD Z Z (AD Z Z (AG (Ae ?_))));exact ⟨_,[],[],Aa rfl,rfl,rfl,Tw (by first | (rw [Bool.eq_iff_iff];simp_all [List.length_eq_zero_iff];done) | (rw [Bool.eq_iff_iff];simp_all)),rfl⟩
  ·refine A8 Z Z Z Z ?_;refine A8 Z Z Z Z (A8 Z Z Z Z (A8 Z Z Z Z (A8 Z Z Z Z (J (EC Z Z Z Z) (AD Z Z (AD Z Z (AG (Ae ?_))))))));exact ⟨_,[],[],Aa rfl,rfl,rfl,Tw (by first | (rw [Bool.eq_iff_iff];simp_all [List.length_eq_zero_iff];done) | (rw [Bool.eq_iff_iff];simp_all)),rfl⟩
 ·have hpr:=HU p l hb (by omega) hE;refine B2 Tryz.func113 Z Z Tryz.ntmps113 Z Z Z fun F hF=>(AF (AJ (U (C5 1 Z Z Z Z Z Z Z) (AD Z Z (AD Z Z (AG (AF (AJ ?_))))))))
  first | refine J (Av Z Z A4 rfl) ?_ | refine J (Aw Z Z A4 Z Z Z) ?_ | refine J (Ax Z Z (rfl) rfl A4 rfl) ?_
  refine AC Z Z (J (B1 (hpr) Z Z) (AC Z Z ?_))
  first | refine J (B6 Z Z Z) ?_ | refine J (B7 Z Z Z) ?_
  first | refine J (B6 Z Z Z) ?_ | refine J (B7 Z Z Z) ?_
  first | refine J (B6 Z Z Z) ?_ | refine J (B7 Z Z Z) ?_
  refine AD Z Z (AD Z Z (AD Z Z (AG (AF (AF (AJ (AC Z Z ?_)))))))
  first | refine J (Fa Z Z Z) ?_ | refine J (F9 Z Z Z) ?_ | refine J (FM Z Z Z) ?_ | refine J (Fb Tryz.underlying34 Z Z Z) ?_ | refine J (Fd Tryz.underlying34 Z Z Z) ?_ | refine J (st_neqN Tryz.underlying34 Z Z) ?_ | refine J (Fc Tryz.underlying34 Z Z Z) ?_ | refine J (st_neqFN Tryz.underlying34 Z Z) ?_
  refine AG (EB rfl ((decide_eq_true hE)) (AF (AJ (AC Z Z (AD Z Z (AD Z Z (AG (Ae ?_))))))));exact ⟨_,[],[],Aa rfl,rfl,rfl,by rw [decide_eq_false (fun h=>hE h.1)],rfl⟩
theorem PC.le {γ:Type} {c:γ ->γ ->Int} (h:PC c) {x y z:γ} (h1:c x y≤0) (h2:c y z≤0):c x z≤0:=by
 by_cases e1:c x y=0
 ·rw [h.eqv x y z e1];exact h2
 ·by_cases e2:c y z=0
  ·have a1:=h.anti y z;have e3:c z y=0:=by omega
   have a2:=h.eqv z y x e3;have a3:=h.anti z x;have a4:=h.anti y x;omega
  ·have:=h.trans x y z (by omega) (by omega);omega
theorem U7 {a b:Int}:¬Dk b a<0↔a≤b:=by unfold Dk;split<;>(try split)<;>omega
theorem Q4 {l ys:List Int} (h1:ys.Perm l) (h2:ys.Pairwise fun a b=>¬Dk b a<0):ys=Ck l:=
 List.Perm.eq_of_pairwise (le:=fun a b:Int=>a≤b) (fun a b _ _ g1 g2=>by omega) (h2.imp fun h=>U7.1 h) (G8 l) (h1.trans (Es l).symm)
theorem Xt {p:Prb} (hp:Ao p=0) {ys:List Roo} (h1:ys.Perm p.ro) (h2:ys.Pairwise fun a b=>¬By b.r a.r<0):ys=Vb p.ro:=
 Tv Roo.r (LO (KW hp).1) (IJ p.ro) (LU p.ro) h1 h2
structure PV (p:Prb):Prop where
 e:Ao p=0
 b:D1 p
 i:p.it.length≤1000
 r:p.ro.length≤1000
 q:∀i∈p.it,i.po.length≤1000∧i.pa.length≤1000∧i.af.length≤1000
end Go.Proofs.YtnkkaeblokdifaaGreat
