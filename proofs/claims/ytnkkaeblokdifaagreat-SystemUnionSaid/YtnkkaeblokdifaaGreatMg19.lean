/- The kit's contract of slices.Sort at integers as a contract over an owned row. No program in sight. -/
import Derived.Test.YtnkkaeblokdifaaGreatMg18
import Derived.Shelf.SortG.Plain
import Derived.Shelf.SortG.SortNone
namespace Go.Proofs.YtnkkaeblokdifaaGreat
open Go.RowKit Go.Shelf
open Go.Sort (putRow Holds putCells)
def CW (l:List Int):List Int:=l.mergeSort fun x y=>decide (x≤y)
theorem Zdb (l:List Int):(CW l).Perm l:=List.mergeSort_perm l _
theorem Fl (l:List Int):(CW l).length=l.length:=(Zdb l).length_eq
theorem GT (l:List Int):(CW l).Pairwise (· ≤ ·):=by
 have:=List.pairwise_mergeSort (le:=fun x y:Int=>decide (x≤y)) (fun a b c h1 h2=>by simp only [decide_eq_true_eq] at*;omega) (fun a b=>by simp only [Bool.or_eq_true,decide_eq_true_eq];omega) l;exact this.imp fun h=>by simpa using h
abbrev zD (z:Int):D:= .raw (.int .i64 z)
variable {P:Program} {ρr:Ren}
theorem QI (L:SlLaysN.n53 P ρr) {E:TypeId} {g53:FuncId} (xs:List Int) (hsz:xs.length<4611686018427387904) {F:Fr} {s:AS} {d:Nat} {x:Operand} {ty:TypeId} {pos:String} {aft:Array Edge} {gd:Option (Nat×Bool)} {at_:Array TypeId} {f n:Nat} {row:List D} {hp':Hp}
  (hg:ρr.f 53=g53) (hx:s.ev x=some (.own f 0 n)) (ho:hget s.hp f 0=some (.rowD E 1 row)) (hrow:row=xs.map zD) (hn:n=xs.length) (hh:Bk s.hp f 0 (.rowD E 1 ((CW xs).map zD))=some hp') (hd:Nat.blt d s.n=true):
  AM P F ⟨some d,.call {callee:= .value (.func g53),args:= #[x],argTypes:=at_},ty,pos,aft,gd⟩ s ⟨s.n,(d,.d (.tup []))::s.env,hp'⟩ (fun _ _=>true):=by
 subst hg hrow hn;intro ρ act w hs
 obtain ⟨fn6,hf1,hf2,hf3⟩:∃fn,P.funcs[ρr.f 53]?=some fn∧(fn.name== "runtime.NumGoroutine")=false∧fn.body.isSome=true:=by
  obtain ⟨nm,hn,hf⟩:=L.f53;exact ⟨_,hf,hn,rfl⟩
 unfold Oper.wp;rw [show (#[x]:Array Operand)=[x].toArray from rfl,Dz hf1 hf2 hf3,Oper.upon_enter]
 suffices key:Calls P (ρr.f 53) ([x].map act.eval).toArray w fun e w'=>e= .returned (.tuple #[])∧SR F ⟨s.n,s.env,hp'⟩ ρ act w' by
  refine key.mono fun e w' ⟨e1,hsr⟩=>?_;subst e1;exact ⟨ρ,hsr.put (KJ hd) (.d (.tup rfl fun i c v hc=>by cases hc)),fun _ _ _=>rfl⟩
 have r0:=hs.ev hx;have hg0:=ho;have h3:=hs.heap;have hset:=BH hh;obtain ⟨us,q1,q2,q3⟩:=h3.sim f 0 _ hg0;show Calls P (ρr.f 53) #[act.eval x] w _
 generalize act.eval x=V0 at r0
 cases r0 with
 | own hρ hle=>
  rename_i N cap a
  by_cases hx:xs=[]
  ·subst hx;refine (AnyG.slices_Sort_int_none L a cap w).mono fun e w' ⟨e1,e2⟩=>?_;subst e1 e2;refine ⟨rfl,hs.writeG f 0 _ _ ho hset Z Z Z (Nat.le_refl _) (Nat.le_refl _) (fun _ _ _=>rfl) (fun _ _ e=>by cases e) fun hrep=>?_⟩;have h0:CW []=[]:=by simp [CW]
   rw [h0];exact ⟨us,q1,⟨by simpa using q2.1,fun x hx=>(by cases hx),fun i x hx=>by simp at hx⟩,fun x hx=>(by cases hx)⟩
  ·have hn:0<xs.length:=List.length_pos_iff.2 hx;have hul:us.length=xs.length:=by have:=q2.1;rw [List.length_map] at this;omega
   have hblkeq:∃b cur,a=some ⟨b,0,none⟩∧w.heap[b]?=some (.cells cur E (0,0))∧cur.size=cap∧xs.length≤cap∧cap≤maxLen∧cur.toList.take xs.length=us∧N=xs.length:=by
    rcases q1.2 with ⟨_,h⟩ | ⟨b,cap',cur,e1,_,e2,e3,e4,e5,e6⟩
    ·rw [List.length_map] at h;omega
    ·rw [hρ] at e1;injection e1 with e1 e7 e8
     subst e1 e8;rw [List.length_map] at e3 e6 e7;exact ⟨b,cur,rfl,e2,by omega,e3,e4,by rw [Nat.mul_one] at e6;exact e6,e7⟩
   obtain ⟨b,cur,rfl,p1,p2,p3,p3',p4,rfl⟩:=hblkeq;have hb:CI (ρ f 0)=some b:=by rw [hρ];rfl
   have hlt:b<w.heap.size:=(Array.getElem?_eq_some_iff.1 p1).1
   have hus:∀i (hi:i<xs.length),us[i]?=some (.int .i64 xs[i]):=fun i hi=>by
    have hm:(xs.map zD)[i]?=some (zD xs[i]):=by rw [List.getElem?_map,List.getElem?_eq_getElem hi];rfl
    obtain ⟨u,hu,_,hr⟩:=q2.2.2 i _ hm 0 (zD xs[i]) rfl;rw [Nat.mul_one,Nat.add_zero] at hu
    cases hr with
    | raw _=>exact hu
   have hH:Holds (Value.int .i64) w b 0 xs.toArray:=by
    intro j hj;have hj:j<xs.length:=by simpa using hj
    refine ⟨?_,?_⟩
    ·have hju:us[j]?=cur.toList[j]?:=by rw [←p4,List.getElem?_take_of_lt hj]
     simp only [World.cell?,p1,Nat.zero_add];have h1:=hus j hj;rw [hju] at h1;rw [getElem!_pos _ j (by simpa using hj)];have hjc:j<cur.size:=by simpa using (List.getElem?_eq_some_iff.1 h1).1
     simp only [List.getElem_toArray]
     simp [hjc] at h1⊢
     exact h1
    ·simp only [World.frozen?,p1];simp
   have key:=AnyG.slices_Sort_int L b 0 cap xs w hH hlt hsz;refine key.mono fun e w' ⟨e1,nd,os,hw⟩=>?_;subst e1 hw
   obtain ⟨ys,hys⟩:∃ys,CW xs=ys:=⟨_,rfl⟩
   have hys':(xs.mergeSort fun x y=>decide (x≤y))=ys:=hys;have hyl:ys.length=xs.length:=by rw [←hys,Fl]
   rw [hys] at hset hh;rw [hys'];refine ⟨rfl,?_⟩;have hsz2:((putRow (Value.int .i64) (Go.Sort.ahead w nd) b 0 ys.toArray)).heap.size=w.heap.size:=by rw [Go.Sort.size_putRow];rfl
   have hoth:∀b',b'<w.heap.size ->b'≠b ->(Go.Sort.grow (putRow (Value.int .i64) (Go.Sort.ahead w nd) b 0 ys.toArray) os).heap[b']?=w.heap[b']?:=fun b' hl hne=>by
    rw [Go.Sort.heap_grow_old _ _ (by rw [hsz2];exact hl)];show (w.heap.modify b _)[b']?=_;rw [Array.getElem?_modify,if_neg (Ne.symm hne)]
   refine hs.writeG f 0 _ _ ho hset Z Z Z (by rw [Go.Sort.size_grow,hsz2];exact Nat.le_add_right _ _) (Nat.le_add_right _ _) (fun b' hl hno=>hoth b' hl (fun e=>hno (by rw [e];exact hb))) (fun _ _ e=>by cases e) fun hrep=>?_
   have hheap:(Go.Sort.grow (putRow (Value.int .i64) (Go.Sort.ahead w nd) b 0 ys.toArray) os).heap[b]?=some (.cells (putCells (Value.int .i64) 0 ys.toArray cur) E (0,0)):=by
    rw [Go.Sort.heap_grow_old _ _ (by rw [hsz2];exact hlt)];show (w.heap.modify b _)[b]?=_;rw [Array.getElem?_modify,if_pos rfl,p1];rfl
   have hcs:(putCells (Value.int .i64) 0 ys.toArray cur).size=cap:=by simp only [putCells,Array.size_mapIdx];exact p2
   have hyl2:(ys.map zD).length=xs.length:=by rw [List.length_map,hyl]
   refine ⟨ys.map (Value.int .i64),⟨by rw [List.length_map,hyl2,hyl,Nat.mul_one],.inr ⟨b,cap,_,by rw [hρ,hyl2],Nat.zero_le _,hheap,by rw [hyl2];exact p3,p3',by omega,?_⟩⟩,⟨by rw [List.length_map,hyl2,hyl,Nat.mul_one],fun x hx2=>?_,fun i x hx2 j c hc2=>?_⟩,fun x hx2 c hc2=>?_⟩
   ·rw [hyl2,Nat.mul_one]
    apply List.ext_getElem?
    intro i
    by_cases hi:i<xs.length
    ·rw [List.getElem?_take_of_lt hi,Array.getElem?_toList,List.getElem?_map,List.getElem?_eq_getElem (by omega),Array.getElem?_eq_getElem (by omega)];simp only [putCells,Array.getElem_mapIdx];rw [if_pos ⟨Nat.zero_le _,by simp;omega⟩];simp only [Nat.sub_zero,Option.map_some];rw [getElem!_pos _ i (by simp;omega)]
     simp
    ·rw [List.getElem?_eq_none (by rw [List.length_take];omega),List.getElem?_eq_none (by rw [List.length_map];omega)]
   ·obtain ⟨y,_,rfl⟩:=List.mem_map.1 hx2;rfl
   ·rw [List.getElem?_map] at hx2
    cases hyi:ys[i]? with
    | none=>rw [hyi] at hx2;cases hx2
    | some y=>
     rw [hyi] at hx2;injection hx2 with hx2;subst hx2
     have hj0:j=0:=by have:=(List.getElem?_eq_some_iff.1 hc2).1;simp [D.cells] at this;exact this
     subst hj0;simp only [D.cells,List.getElem?_cons_zero,Option.some.injEq] at hc2;subst hc2;exact ⟨.int .i64 y,by rw [Nat.mul_one,Nat.add_zero,List.getElem?_map,hyi];rfl,rfl,.raw rfl⟩
   ·obtain ⟨y,_,rfl⟩:=List.mem_map.1 hx2;simp only [D.cells,List.mem_singleton] at hc2;subst hc2;rfl
end Go.Proofs.YtnkkaeblokdifaaGreat
/- Layer 29: the analysis of a problem; sets of its items. -/
namespace Go.Proofs.YtnkkaeblokdifaaGreat
open Go.RowKit
set_option maxRecDepth 100000
section
variable {P:Program} {F:Fr} {s:AS} {α β:Type} [DecidableEq α] {eK:α ->D} {eV:β ->D} {K:TypeId} {kv:α ->Value} {d:Nat} {ty T E:TypeId} {pos:String} {aft:Array Edge} {g:Option (Nat×Bool)} {x y z:Operand} {bs:Option (List Nat×Nat)}
theorem JV (m:List (α×β)) (a:α) (b0 v:β) {x0:D} {f i:Nat} (hx:s.ev x=some (.map f i)) (ho:hget s.hp f i=some (.map bs (Bt eK eV m))) (hy:s.ev y=some (.d (eK a))) (hT:CN P T K E=true) (KT:Bl P K eK kv) (hz:Eo P E=some (.d x0)) (hw:∀w O v,AY w O x0 v ->AY w O (eV b0) v) (hv:Ai m a b0=v) (hd:Nat.blt d s.n=true):
  AA P F ⟨some d,.lookup T x y false,ty,pos,aft,g⟩ s d (.d (eV v)):=
 CR _ hd fun ρ act w hs=>by
  obtain ⟨mb,arr,c,e1,_,h1,h2,h3,_⟩:=hs.mapAt hx ho;have hk:act.eval y=kv a:=(hs.repD hy).val (KT.val a);obtain ⟨zv,hz1,hz2⟩:=FP hz w
  have hz3:∀w' O ρ,A1 w' O ρ (.d (eV b0)) zv:=fun w' O ρ=>by
   have:=hz2 w' O ρ
   cases this with
   | d h=>exact .d (hw _ _ _ h)
  subst hv;rcases hit_get KT h2 h3 a b0 with ⟨g1,_,g3,_⟩ | ⟨j,e,g1,g2,_,_,_,_,g7⟩
  ·refine ⟨zv,?_,by rw [g3];exact hz3 _ _ _⟩
   simp [execOp,Instr.lookup,run_underlying (YW hT),e1,hk,MapKept.run_getObj_map h1,KT.check,KT.find w a _ _ (Zc4 KT h2 h3),g1,hz1,Result.andThen]
  ·refine ⟨e.val,?_,.d g7⟩
   simp [execOp,Instr.lookup,run_underlying (YW hT),e1,hk,MapKept.run_getObj_map h1,KT.check,KT.find w a _ _ (Zc4 KT h2 h3),g1,Result.andThen]
theorem Lq (m:List (α×β)) (a:α) (b0:β) {x0:D} {f i:Nat} (hx:s.ev x=some (.map f i)) (ho:hget s.hp f i=some (.map bs (Bt eK eV m))) (hy:s.ev y=some (.d (eK a))) (hT:CN P T K E=true) (KT:Bl P K eK kv) (hz:Eo P E=some (.d x0)) (hw:∀w O v,AY w O x0 v ->AY w O (eV b0) v) (hd:Nat.blt d s.n=true):
  AA P F ⟨some d,.lookup T x y true,ty,pos,aft,g⟩ s d (.tup [.d (eV (Ai m a b0)),.d (.raw (.bool (PX m a)))]):=
 CR _ hd fun ρ act w hs=>by
  obtain ⟨mb,arr,c,e1,_,h1,h2,h3,_⟩:=hs.mapAt hx ho;have hk:act.eval y=kv a:=(hs.repD hy).val (KT.val a);obtain ⟨zv,hz1,hz2⟩:=FP hz w
  have hz3:∀w' O ρ,A1 w' O ρ (.d (eV b0)) zv:=fun w' O ρ=>by
   have:=hz2 w' O ρ
   cases this with
   | d h=>exact .d (hw _ _ _ h)
  have tup2:∀{v1 v2:Value} {a1 a2:AV},A1 w (F.O ρ s.hp) ρ a1 v1 ->A1 w (F.O ρ s.hp) ρ a2 v2 ->A1 w (F.O ρ s.hp) ρ (.tup [a1,a2]) (.tuple #[v1,v2]):=fun {v1 v2 a1 a2} h1 h2=>by
   refine .tup (vs:=[v1,v2]) rfl fun i a v ha hv=>?_;rcases i with _ | _ | i
   ·simp at ha hv;subst ha hv;exact h1
   ·simp at ha hv;subst ha hv;exact h2
   ·simp at ha
  rcases hit_get KT h2 h3 a b0 with ⟨g1,g2,g3,_⟩ | ⟨j,e,g1,g2,_,g4,_,_,g7⟩
  ·refine ⟨.tuple #[zv,.bool false],?_,tup2 (by rw [g3];exact hz3 _ _ _) (by rw [g2];exact .d (.raw rfl))⟩
   simp [execOp,Instr.lookup,run_underlying (YW hT),e1,hk,MapKept.run_getObj_map h1,KT.check,KT.find w a _ _ (Zc4 KT h2 h3),g1,hz1,Result.andThen]
  ·refine ⟨.tuple #[e.val,.bool true],?_,tup2 (.d g7) (by rw [g4];exact .d (.raw rfl))⟩
   simp [execOp,Instr.lookup,run_underlying (YW hT),e1,hk,MapKept.run_getObj_map h1,KT.check,KT.find w a _ _ (Zc4 KT h2 h3),g1,Result.andThen]
end
theorem D6:∀w O v,AY w O (.agg [AF 0,AF 0,AF 0,.sl (some true) [],.sl (some true) [],.sl (some true) []]) v ->AY w O (BC itm0) v:=fun w O v h=>h.aggMono rfl (by simp [D.one]) fun i c c' hc hc' v hv=>by
 match i,hc,hc' with
 | 0,hc,hc'=>injection hc with hc;injection hc' with hc';subst hc hc';exact hv
 | 1,hc,hc'=>injection hc with hc;injection hc' with hc';subst hc hc';exact hv
 | 2,hc,hc'=>injection hc with hc;injection hc' with hc';subst hc hc';exact hv
 | 3,hc,hc'=>injection hc with hc;injection hc' with hc';subst hc hc';exact hv.anyNil
 | 4,hc,hc'=>injection hc with hc;injection hc' with hc';subst hc hc';exact hv.anyNil
 | 5,hc,hc'=>injection hc with hc;injection hc' with hc';subst hc hc';exact hv.anyNil
def VO (l:List Roo):List Roo:=l.mergeSort fun a b=>decide (Bv a.r b.r≤0)
theorem DE (l:List Roo):(VO l).Perm l:=List.mergeSort_perm l _
theorem X2 (l:List Roo):(VO l).length=l.length:=(DE l).length_eq
theorem cmpR_le {a b c:A5} (h1:Bv a b≤0) (h2:Bv b c≤0):Bv a c≤0:=by
 by_cases e1:Bv a b=0
 ·rw [Db.1 e1];exact h2
 ·by_cases e2:Bv b c=0
  ·rw [←Db.1 e2];exact h1
  ·have:=N7.trans a b c (by omega) (by omega);omega
theorem LD (l:List Roo):(VO l).Pairwise fun a b=>¬Bv b.r a.r<0:=by
 have:=List.pairwise_mergeSort (le:=fun a b:Roo=>decide (Bv a.r b.r≤0)) (fun a b c h1 h2=>by simp only [decide_eq_true_eq] at*;exact cmpR_le h1 h2) (fun a b=>by simp only [Bool.or_eq_true,decide_eq_true_eq];have:=N7.anti a.r b.r;omega) l
 exact this.imp fun {a b} h=>by
  have h':Bv a.r b.r≤0:=by simpa using h
  have:=N7.anti a.r b.r;omega
theorem T9 {γ:Type} (f:γ ->A5) {l m ys:List γ} (hn:(l.map f).Nodup) (hm:m.Perm l) (hms:m.Pairwise fun a b=>¬Bv (f b) (f a)<0) (h1:ys.Perm l) (h2:ys.Pairwise fun a b=>¬Bv (f b) (f a)<0):ys=m:=by
 have st:∀{k:List γ},(k.map f).Nodup ->(k.Pairwise fun a b=>¬Bv (f b) (f a)<0) ->k.Pairwise fun a b=>Bv (f a) (f b)<0:=fun {k} hn h=>by
  rw [List.Nodup,List.pairwise_map] at hn;refine (h.and hn).imp fun {a b} ⟨g1,g2⟩=>?_;have h1:=N7.anti (f a) (f b);have h2:Bv (f a) (f b)≠0:=fun e=>g2 (Db.1 e);omega
 exact DY (R:=fun a b=>Bv (f a) (f b)<0) (fun x=>by rw [N7.refl];omega) (fun x y z=>N7.trans _ _ _) (st ((h1.map f).nodup_iff.2 hn) h2) (st ((hm.map f).nodup_iff.2 hn) hms) fun x=>by rw [h1.mem_iff,hm.mem_iff]
structure Lin where
 r:A5
 n:Int
 q:List Int
abbrev K7 (x:Lin):D:= .agg [AF x.r.k,Al x.r.acc.o,AF x.r.acc.k,Al x.r.acc.a,Al x.r.f,Al x.r.t,AF x.n,.sl none (x.q.map AF)]
theorem X4 (x:Lin):∃cs,K7 x= .agg cs:=⟨_,rfl⟩
def EP (p:Prb) (x:Roo):Lin:=⟨x.r,max x.n 0,qIds (ordP p) x.r⟩
def linL (p:Prb):List Lin:=(VO p.ro).map (EP p)
theorem FD (p:Prb):(linL p).length=p.ro.length:=by unfold linL;rw [List.length_map,X2]
theorem Ky {l:List Roo} (h:EH l=0):(l.map Roo.r).Nodup:=by
 have h0:=YU.1 h;rw [List.Nodup,List.pairwise_map,List.pairwise_iff_getElem];intro i j hi hj hij e;have:=h0 j (List.mem_range.2 hj);unfold NT at this;rw [Bh DH hj] at this
 split at this
 ·contradiction
 ·split at this
  ·cases this
  ·split at this
   ·cases this
   ·rename_i hn;exact hn (MY hj hij e)
theorem lin_one {p:Prb} (hp:Ab p=0) {ys:List Lin} (h1:ys.Perm (p.ro.map (EP p))) (h2:ys.Pairwise fun a b=>¬Bv b.r a.r<0):ys=linL p:=by
 refine T9 Lin.r (l:=p.ro.map (EP p)) ?_ ((DE p.ro).map _) ?_ h1 h2
 ·rw [List.map_map];exact Ky (N8 hp).1
 ·unfold linL;rw [List.pairwise_map];exact LD p.ro
theorem ana1_p (a b:Lin):AT Tryz.prog 117 [.d (K7 a),.d (K7 b)] (AF (Bv a.r b.r)):=by
 refine B6 Tryz.func117 Z Z Tryz.ntmps117 Z Z Z fun F hF=>(AG (AJ (G (CV 1 Z Z Z Z Z Z Z) (G (CV 2 Z Z Z Z Z Z Z) (AD Z Z (AI (AG (AJ ?_))))))))
 first | refine J (AO rfl GP Z Z Z) ?_ | refine J (AQ rfl GP Z Z Z) ?_ | refine J (AR rfl GP Z Z Z) ?_ | refine J (AP rfl GP Z Z Z) ?_ | refine J (AN rfl GP Z Z Z) ?_
 first | refine J (At Z Z Ah rfl) ?_ | refine J (Au Z Z Ah Z Z Z) ?_ | refine J (Av Z Z (rfl) rfl Ah rfl) ?_
 first | refine J (AO rfl GP Z Z Z) ?_ | refine J (AQ rfl GP Z Z Z) ?_ | refine J (AR rfl GP Z Z Z) ?_ | refine J (AP rfl GP Z Z Z) ?_ | refine J (AN rfl GP Z Z Z) ?_
 first | refine J (At Z Z Ah rfl) ?_ | refine J (Au Z Z Ah Z Z Z) ?_ | refine J (Av Z Z (rfl) rfl Ah rfl) ?_
 refine J (BO (Kl a.r b.r) Z Z) (AD Z Z (AI (Af ?_)));exact ⟨_,[],[],Ae rfl,rfl,rfl,rfl,rfl⟩
def Bu (l:List AU):List (Int×AU):=l.map fun i=>(i.id,i)
theorem Sk {l:List AU} {i:AU} (h:i.id∉l.map AU.id):BG (Bu l) i.id i=Bu (l++ [i]):=by
 induction l with
 | nil=>rfl
 | cons a l ih=>
  rw [List.map_cons,List.mem_cons] at h;show BG ((a.id,a)::Bu l) i.id i=(a.id,a)::Bu (l++ [i]);rw [←ih (fun h'=>h (.inr h'))];simp only [BG];rw [if_neg (fun e=>h (.inl e))]
def encZ (x:Int):List AV:=[.d (AF x)]
section
variable {β:Type}
theorem seqZ_c (its:List Int) (hits:its.length≤1000000) (l:Nat) (H:β ->Hp) (N:List Nat) (step:β ->Int ->β×Bool) (st0:β) (hN:∀st,hpN (H st)=N) (hI:∀st,DI N (H st)=true) (hP:∀st,Am (H st) N=some (H st))
  (hfe:C4 Tryz.prog l encZ H step st0 its):
  A6 Tryz.prog 164 [.d (.raw (CA l)),.d (.ptr (.sl none (its.map AF)))] (H st0) fun r H'=>r= .tup []∧H'=H (Bj step st0 its):=by
 refine B6 Tryz.func164 Z Z Tryz.ntmps164 Z Z Z fun F hF=>(AG (AJ ?_))
 first | refine J (A0 Z Z BD rfl) ?_ | refine J (AX Z Z Z BD rfl) ?_ | refine J (AZ Z Z (rfl) rfl BD rfl) ?_
 first | refine J (Co rfl Tryz.underlying33 rfl) ?_ | refine J (C1 Z Z Tryz.underlying33 rfl) ?_ | refine J (Cp rfl Tryz.underlying33 rfl) ?_ | refine J (Cn rfl Tryz.underlying33 rfl) ?_ | refine J (Ca rfl Tryz.underlying33 rfl) ?_ | refine J (Ck rfl Tryz.underlying33 rfl) ?_
 refine AC Z Z (AI (Aw (EK (α:=Nat×β) (fun p=>⟨16,[(0,.d (.raw (CA l))),(5,(.d (.sl none (its.map AF)))),(6,(.d (AF (its.length:Int)))),(7,(.d (AF (p.1:Int))))],H p.2⟩) (fun p=>p.1≤its.length∧C4 Tryz.prog l encZ H step p.2 (its.drop p.1)∧Bj step p.2 (its.drop p.1)=Bj step st0 its) (fun p=>its.length - p.1) ((0,st0)) (⟨Nat.zero_le _,hfe,rfl⟩) (UX ⟨rfl,rfl,rfl,rfl,trivial⟩) ?_)));rintro ⟨k,st⟩ ⟨hk0,hfd,hfin⟩;dsimp only at hk0 hfd hfin⊢;refine AG (AJ ?_)
 first | refine J (Cc Z Z Z) ?_ | refine J (Cb Z Z Z) ?_
 refine AI (AG ?_)
 first | refine BP rfl (fun h8=>?_) (fun h8=>?_) | refine BK rfl (fun h8=>?_) (fun h8=>?_)
 ·have hk1:k<its.length:=EF h8;refine An (AG (Aw (AG (AJ ?_))));have hA:its.drop k=its[k]::its.drop (k+1):=List.drop_eq_getElem_cons hk1;rw [hA] at hfd
  first | refine J (Ch (k) Z Z (rfl) (A3 hk1) Tryz.underlying33 rfl Et rfl) ?_ | refine J (Cj (k) Z Z (rfl) (A3 hk1) rfl Tryz.underlying33 Et rfl) ?_
  first | refine J (A0 Z Z Aa rfl) ?_ | refine J (AX Z Z Z Aa rfl) ?_ | refine J (AZ Z Z (rfl) rfl Aa rfl) ?_
  refine AD Z Z (AI (AG (AJ (AC Z Z (AC Z Z (S9 [0,5,6,7,11,12] rfl (Qc hfd.1 Z Z (by rw [hN,hN]) (by rw [hN];exact hI _) Z Z ?_)))))))
  first | refine J (G9 Z Z) ?_ | refine J (GJ Z Z) ?_
  refine AI ?_
  first | refine BP rfl (fun h14=>?_) (fun h14=>?_) | refine BK rfl (fun h14=>?_) (fun h14=>?_)
  ·have hgo:(step st its[k]).2=false:=by simpa using h14
   refine Af ?_;exact ⟨_,N,_,Ae rfl,hP _,by rw [←hN st0];exact YY _,rfl,by rw [←hfin,hA,Rm,if_neg (by rw [hgo];decide)]⟩
  ·have hgo:(step st its[k]).2=true:=by simpa using h14
   refine An (AJ (J (By Z Z (Ad (k+1) (by omega)) rfl) (AC Z Z (AI ?_))));exact ⟨(k+1,(step st its[k]).1),⟨by show k+1≤_;omega,hfd.2 hgo,by rw [←hfin,hA,Rm,if_pos hgo]⟩,by show its.length - (k+1)<its.length - k;omega,⟨rfl,rfl,fun _ _=>NK.get (l:=[(0,_),(5,_),(6,_),(7,_)]) ⟨rfl,rfl,rfl,rfl,trivial⟩⟩⟩
 ·refine Ct ?_;exact ⟨_,N,_,Ae rfl,hP _,by rw [←hN st0];exact YY _,rfl,by rw [←hfin,List.drop_of_length_le (by have h:=h8;omega)];rfl⟩
end
theorem U4 (its:List Int):A6 Tryz.prog 119 [.d (.sl none (its.map AF))] [] fun r H'=>r= .fn 164 [.d (.ptr (.sl none (its.map AF)))]∧H'=[]:=by
 refine B6 Tryz.func119 Z Z Tryz.ntmps119 Z Z Z fun F hF=>(AG (AJ (G (CV 1 Z Z Z Z Z Z Z) ?_)));refine AD Z Z (AI (AG (AJ (Hq 1 1 (.sl none (its.map AF)) [] hF Z Z Z (by intro c hc;simp [D.cells] at hc;subst hc;rfl) Z Z Z (J (DD Z Z) (AD Z Z (AI (Af ?_))))))));exact ⟨_,[],[],Ae rfl,rfl,rfl,rfl,rfl⟩
abbrev hZ (q:List Int):Hp:=[(920,[.rowD 3 1 (q.map AF)]),(1,[.blk 33 [.own 920 0 q.length]])]
def TX (q:List Int) (x:Int):List Int×Bool:=(q++ [x],true)
theorem O2:∀(l q:List Int),Bj TX q l=q++l
 | [],q=>by simp [Bj]
 | x::l,q=>by rw [Rm];show (if true=true then Bj TX (q++ [x]) l else _)=_;rw [if_pos rfl,O2 l];simp
theorem Mk {P:Program} {l:Nat} {H:List Int ->Hp} {n:Nat} (hY:∀q x,q.length<n ->Dh P l (encZ x) (H q) fun v H'=>v= .d (.raw (.bool true))∧H'=H (q++ [x])):∀(xs q:List Int),q.length+xs.length≤n ->C4 P l encZ H TX q xs
 | [],_,_=>trivial
 | x::xs,q,h=>⟨hY q x (by simp at h;omega),fun _=>Mk hY xs (q++ [x]) (by simp at h⊢;omega)⟩
theorem Vj (its:List Int) (hits:its.length≤1000000):A6 Tryz.prog 205 [.d (.sl (some true) []),.fn 164 [.d (.ptr (.sl none (its.map AF)))]] [] fun r H'=>r= .own 920 0 its.length∧H'=[(920,[.rowD 3 1 (its.map AF)])]:=by
 refine GE Tryz.func205 Z Z Tryz.ntmps205 Z Z Z fun F hF hFl=>(AG (AJ (G (CV 1 Z Z Z Z Z Z Z) ?_)));refine AD Z Z (AI (AG (AG (Cs 1 0 0 920 CS Z Z Z Z Z Z Z (AJ (AC Z Z (AI (Aw ?_))))))));refine NF [2,6] rfl ?_;refine KE (γ:=Unit) hFl 900 Z Z Z Z Z [1,920] (CHr:=hZ []) (fun _=>True) (fun _=>hZ its) (fun _=> .ready) (fun _=>none) ⟨rfl,rfl,trivial⟩ Z Z Z (fun _=>rfl) (fun _=>rfl) rfl (fun _ _=>by simp) (fun _ _=>⟨rfl,rfl⟩) [920,1] hF Z Z (fun _ _=>rfl) (fun l A B hA hB=>?_) (fun _ _=>?_)
 ·refine (seqZ_c its hits l (fun q:List Int=>(900,[.loop ⟨l,13,[(2,.ptr 1 0 0),(6,.fn 164 [.d (.ptr (.sl none (its.map AF)))])],.ready,none, #[7],A,B⟩])::hZ q) [900,920,1] TX [] (fun _=>rfl) (fun _=>rfl) (fun _=>rfl) ?_).mono (fun r H' ⟨e1,e2⟩=>⟨e1,(),trivial,by rw [e2,O2];rfl⟩);refine Mk (n:=its.length) (fun q x hq=>?_) its [] (by simp);refine Gv (lf:=900) Z Z Z Z fun F hF hr=>?_;show Bm _ _ A _ _;rw [hA];refine AJ (AD Z Z (AI (⟨rfl,_,_,rfl,rfl,rfl,rfl,?_⟩)));show Bm _ _ B _ _;rw [hB];refine Aw (AJ ?_)
  first | refine J (A0 Z Z BD rfl) ?_ | refine J (AX Z Z Z BD rfl) ?_ | refine J (AZ Z Z (rfl) rfl BD rfl) ?_
  refine AC Z Z (G (Fg 30 CS Z Z Z Z Z Z Z Z) ?_)
  first | refine G (IX (q) ([x]) Z Z Z Z Z Z Z Z CS (by simp only [List.length_singleton];omega) Z Z Z Z) ?_ | refine G (Kp (q) ([x]) Z Z Z Z Z Z (fun _=>rfl) CS (by simp only [List.length_singleton];omega) Z Z Z Z) ?_
  refine G (CC Z Z Z Z Z Z Z sz33) (AI ?_);exact ⟨none,_,_,[900,920,1],_,rfl,rfl,rfl,rfl,rfl,rfl,rfl,rfl⟩
 ·refine AG (AJ ?_)
  first | refine J (A0 Z Z BD rfl) ?_ | refine J (AX Z Z Z BD rfl) ?_ | refine J (AZ Z Z (rfl) rfl BD rfl) ?_
  refine AD Z Z (AI (Af ?_));exact ⟨_,[920],_,Ae rfl,rfl,rfl,rfl,rfl⟩
theorem Sw (its:List Int) (hits:its.length≤1000000):A6 Tryz.prog 162 [.fn 164 [.d (.ptr (.sl none (its.map AF)))]] [] fun r H'=>r= .own 920 0 its.length∧H'=[(920,[.rowD 3 1 (its.map AF)])]:=by
 refine B6 Tryz.func162 Z Z Tryz.ntmps162 Z Z Z fun F hF=>(AG (AJ ?_));refine AD Z Z (AI (AG (AJ (AC Z Z (G (IL (Vj its hits) rfl [920] ⟨rfl,trivial⟩ Z Z Z Z Z Z Z Z Z) (AD Z Z (AI (Af ?_))))))));exact ⟨_,[920],_,Ae rfl,rfl,rfl,rfl,rfl⟩
theorem Ue (its:List Int) (hits:its.length≤1000000):AT Tryz.prog 118 [.fn 164 [.d (.ptr (.sl none (its.map AF)))]] (.sl none ((CW its).map AF)):=by
 have hsl:=Fl its;refine B6 Tryz.func118 Z Z Tryz.ntmps118 Z Z Z fun F hF=>(AG (AJ (AD Z Z (AI ?_))));refine AG (AJ (AC Z Z (G (IL (Sw its hits) rfl [920] ⟨rfl,trivial⟩ Z Z Z Z Z Z Z Z Z) (AD Z Z (AI (AG (AJ (AC Z Z ?_))))))));refine G (QI laysS its (by omega) Z Z Z Z Z Z Z) (AI (AG (Vn (emb:=AF) 3 920 (CW its) Z Z Z hsl.symm Z Z Z (AJ (AC Z Z (AD Z Z (AI (Af ?_))))))));exact ⟨_,[],[],Ae rfl,rfl,rfl,rfl,rfl⟩
theorem less_p (a b:Int):AT Tryz.prog 165 [.d (AF a),.d (AF b)] (.raw (.bool (decide (a<b)))):=by
 refine B6 Tryz.func165 Z Z Tryz.ntmps165 Z Z Z fun F hF=>(AG (AJ ?_));refine AD Z Z (AI (AG (AJ (AC Z Z (J (BO (XS a) Z Z) (AC Z Z (HL 7 rfl (rfl) (Ac Z Z Z Z ?_))))))));refine Ac Z Z Z Z (Ac Z Z Z Z (J (EG Z Z Z Z) (AC Z Z (A9 Z Z Z (AC Z Z (A9 Z Z Z (AC Z Z (A9 Z Z Z ?_))))))))
 first | refine J (Cc Z Z Z) ?_ | refine J (Cb Z Z Z) ?_
 refine J (EG Z Z Z Z) (AD Z Z (AI (Af ?_)));exact ⟨_,[],[],Ae rfl,rfl,rfl,rfl,rfl⟩
def GF (p:Prb):List Int:=(ordP p).map AU.id
abbrev HA (p:Prb):Hp:=[(10,[.blk 215 [.map 11 0,.d (.sl none ((GF p).map AF)),.d (.sl none ((linL p).map K7))]]),(11,[CD AF BC (Bu p.it)])]
theorem maxI (a:Int):(if 0>a then 0 else a)=max a 0:=by rw [Int.max_def];split<;>split<;>omega
theorem Iy (p:Prb) (hb:Cu p) (hE:Ab p=0):A6 Tryz.prog 58 [.d (CT p)] [] fun r H'=>r= .tup [.ptr 3 0 0,.d (AF 0)]∧H'=[(3,[.blk 215 [.map 2 0,.d (.sl none ((GF p).map AF)),.d (.sl none ((linL p).map K7))]]),(2,[CD AF BC (Bu p.it)])]:=by
 have hck:=HH p hb;rw [hE] at hck;have hid:=YV (N8 hE).2.1;have hor:=LB p hb;have hb1:=hb.1;have hb2:=hb.2.1;refine B6 Tryz.func58 Z Z Tryz.ntmps58 Z Z Z fun F hF=>?_;refine AG (AJ (G (CV 1 Z Z Z Z Z Z Z) (AD Z Z (AD Z Z (AI (AG (AG (AJ ?_))))))))
 first | refine J (At Z Z A2 rfl) ?_ | refine J (Au Z Z A2 Z Z Z) ?_ | refine J (Av Z Z (rfl) rfl A2 rfl) ?_
 refine J (BO (hck) Z Z) (AD Z Z (AI (AG (AJ (AC Z Z ?_)))))
 first | refine J (Ec Z Z Z) ?_ | refine J (Eb Z Z Z) ?_ | refine J (EV Z Z Z) ?_ | refine J (E8 Tryz.underlying34 Z Z Z) ?_ | refine J (Ea Tryz.underlying34 Z Z Z) ?_ | refine J (st_neqN Tryz.underlying34 Z Z) ?_ | refine J (E9 Tryz.underlying34 Z Z Z) ?_ | refine J (st_neqFN Tryz.underlying34 Z Z) ?_
 refine AI (F4 rfl ((by decide)) (An (AG (AJ (G (YX 2 Z Z Z Z) ?_)))))
 first | refine J (At Z Z A2 rfl) ?_ | refine J (Au Z Z A2 Z Z Z) ?_ | refine J (Av Z Z (rfl) rfl A2 rfl) ?_
 refine J (BO (hor) Z Z) (J (DC zl215 pl215 Z Z Z) (G (CV 3 Z Z Z Z Z Z Z) (AD Z Z (AI (AG (AG (AJ ?_)))))))
 first | refine J (AO rfl DK Z Z Z) ?_ | refine J (AQ rfl DK Z Z Z) ?_ | refine J (AR rfl DK Z Z Z) ?_ | refine J (AP rfl DK Z Z Z) ?_ | refine J (AN rfl DK Z Z Z) ?_
 first | refine J (A0 Z Z CU rfl) ?_ | refine J (AX Z Z Z CU rfl) ?_ | refine J (AZ Z Z (rfl) rfl CU rfl) ?_
 first | refine J (Co rfl Tryz.underlying29 rfl) ?_ | refine J (C1 Z Z Tryz.underlying29 rfl) ?_ | refine J (Cp rfl Tryz.underlying29 rfl) ?_ | refine J (Cn rfl Tryz.underlying29 rfl) ?_ | refine J (Ca rfl Tryz.underlying29 rfl) ?_ | refine J (Ck rfl Tryz.underlying29 rfl) ?_
 refine AC Z Z (AI (Aw (EN (α:=Nat) (fun k=>⟨68,[(1,(.ptr 1 0 0)),(5,(.ptr 3 0 0)),(21,(.d (.sl none (p.it.map BC)))),(22,(.d (AF (p.it.length:Int)))),(23,(.d (AF (k:Int))))],[(1,[QV 31 p]),(3,[.blk 215 [.map 2 0,.d (.sl none ((GF p).map AF)),II]]),(2,[CD AF BC (Bu (p.it.take k))])]⟩) (fun k=>k≤p.it.length) (fun k=>p.it.length - k) (0) (Nat.zero_le _) (BS hF [1,3,2] Z Z ⟨rfl,rfl,rfl,rfl,rfl,trivial⟩) ?_)));rintro k hk0;refine AG (AJ ?_)
 first | refine J (Cc Z Z Z) ?_ | refine J (Cb Z Z Z) ?_
 refine AI (AG ?_)
 first | refine BP rfl (fun h24=>?_) (fun h24=>?_) | refine BK rfl (fun h24=>?_) (fun h24=>?_)
 ·have hk1:k<p.it.length:=EF h24;refine An (AG (Aw (AG (AJ ?_))));have hnk:p.it[k].id∉(p.it.take k).map AU.id:=fun h=>by have hn:=hid;rw [List.Nodup,List.pairwise_map,List.pairwise_iff_getElem] at hn;obtain ⟨x,hx,e⟩:=List.mem_map.1 h;obtain ⟨j,hj,rfl⟩:=List.mem_take_iff_getElem.1 hx;exact hn j k (by omega) hk1 (by omega) e
  first | refine J (Ch (k) Z Z (rfl) (A3 hk1) Tryz.underlying29 rfl Cq rfl) ?_ | refine J (Cj (k) Z Z (rfl) (A3 hk1) rfl Tryz.underlying29 Cq rfl) ?_
  first | refine J (At Z Z Ag rfl) ?_ | refine J (Au Z Z Ag Z Z Z) ?_ | refine J (Av Z Z (rfl) rfl Ag rfl) ?_
  refine G (DT 4 FI Z Z Z Z) (G (CC Z Z Z Z Z Z Z Cq) (AI (Gs [[],[0],[0,1],[0,1,2],[],[4],[],[0,1,2,3,4,5,6]] BF rfl (IK ?_))))
  first | refine AE [5] [] Z Z (fun _=>AB (Bb Z Z)) ?_ | refine AH [5] Z Z (fun _=>AB (Bb Z Z)) ?_
  first | refine AE [27] [] Z Z (fun _=>AB (B1 Z Z)) ?_ | refine AH [27] Z Z (fun _=>AB (B1 Z Z)) ?_ | refine AE [27] [] Z Z (fun _=>AB (BY Z Z)) ?_ | refine AH [27] Z Z (fun _=>AB (BY Z Z)) ?_ | refine AE [27] [] Z Z (fun _=>AB (B2 Z Z)) ?_ | refine AH [27] Z Z (fun _=>AB (B2 Z Z)) ?_ | refine AE [27] [] Z Z (fun _=>AB (BZ Z Z)) ?_ | refine AH [27] Z Z (fun _=>AB (BZ Z Z)) ?_
  first | refine AE [28] [] Z Z (fun _=>AB (AO rfl FM Z Z Z)) ?_ | refine AH [28] Z Z (fun _=>AB (AO rfl FM Z Z Z)) ?_ | refine AE [28] [] Z Z (fun _=>AB (AQ rfl FM Z Z Z)) ?_ | refine AH [28] Z Z (fun _=>AB (AQ rfl FM Z Z Z)) ?_ | refine AE [28] [] Z Z (fun _=>AB (AR rfl FM Z Z Z)) ?_ | refine AH [28] Z Z (fun _=>AB (AR rfl FM Z Z Z)) ?_ | refine AE [28] [] Z Z (fun _=>AB (AP rfl FM Z Z Z)) ?_ | refine AH [28] Z Z (fun _=>AB (AP rfl FM Z Z Z)) ?_ | refine AE [28] [] Z Z (fun _=>AB (AN rfl FM Z Z Z)) ?_ | refine AH [28] Z Z (fun _=>AB (AN rfl FM Z Z Z)) ?_
  first | refine AE [29] [] Z Z (fun _=>AB (A0 Z Z CQ rfl)) ?_ | refine AH [29] Z Z (fun _=>AB (A0 Z Z CQ rfl)) ?_ | refine AE [29] [] Z Z (fun _=>AB (AX Z Z Z CQ rfl)) ?_ | refine AH [29] Z Z (fun _=>AB (AX Z Z Z CQ rfl)) ?_ | refine AE [29] [] Z Z (fun _=>AB (AZ Z Z (rfl) rfl CQ rfl)) ?_ | refine AH [29] Z Z (fun _=>AB (AZ Z Z (rfl) rfl CQ rfl)) ?_
  first | refine AE [7] [] Z Z (fun _=>AB (AO rfl Bq Z Z Z)) ?_ | refine AH [7] Z Z (fun _=>AB (AO rfl Bq Z Z Z)) ?_ | refine AE [7] [] Z Z (fun _=>AB (AQ rfl Bq Z Z Z)) ?_ | refine AH [7] Z Z (fun _=>AB (AQ rfl Bq Z Z Z)) ?_ | refine AE [7] [] Z Z (fun _=>AB (AR rfl Bq Z Z Z)) ?_ | refine AH [7] Z Z (fun _=>AB (AR rfl Bq Z Z Z)) ?_ | refine AE [7] [] Z Z (fun _=>AB (AP rfl Bq Z Z Z)) ?_ | refine AH [7] Z Z (fun _=>AB (AP rfl Bq Z Z Z)) ?_ | refine AE [7] [] Z Z (fun _=>AB (AN rfl Bq Z Z Z)) ?_ | refine AH [7] Z Z (fun _=>AB (AN rfl Bq Z Z Z)) ?_
  first | refine AE [31] [] Z Z (fun _=>AB (A0 Z Z Aa rfl)) ?_ | refine AH [31] Z Z (fun _=>AB (A0 Z Z Aa rfl)) ?_ | refine AE [31] [] Z Z (fun _=>AB (AX Z Z Z Aa rfl)) ?_ | refine AH [31] Z Z (fun _=>AB (AX Z Z Z Aa rfl)) ?_ | refine AE [31] [] Z Z (fun _=>AB (AZ Z Z (rfl) rfl Aa rfl)) ?_ | refine AH [31] Z Z (fun _=>AB (AZ Z Z (rfl) rfl Aa rfl)) ?_
  first | refine AE [7] [] Z Z (fun _=>AB (At Z Z Ag rfl)) ?_ | refine AH [7] Z Z (fun _=>AB (At Z Z Ag rfl)) ?_ | refine AE [7] [] Z Z (fun _=>AB (Au Z Z Ag Z Z Z)) ?_ | refine AH [7] Z Z (fun _=>AB (Au Z Z Ag Z Z Z)) ?_ | refine AE [7] [] Z Z (fun _=>AB (Av Z Z (rfl) rfl Ag rfl)) ?_ | refine AH [7] Z Z (fun _=>AB (Av Z Z (rfl) rfl Ag rfl)) ?_
  refine Gf 7 Z Z Z (BE 8 Z Z ?_)
  first | refine G (FR (Bu (p.it.take k)) (p.it[k].id) (p.it[k]) Z Z Z LC KI Z Z) ?_ | refine G (Dv (Bu (p.it.take k)) (p.it[k].id) (p.it[k]) Z Z Z LC KI Z Z) ?_
  refine AI ⟨rfl,?_⟩;refine Ge (AJ (J (By Z Z (Ad (k+1) (by omega)) rfl) (AC Z Z (AI ?_))));exact ⟨k+1,by show k+1≤_;omega,by show p.it.length - (k+1)<p.it.length - k;omega,BS hF [1,3,2] rfl (by rw [List.take_succ_eq_append_getElem hk1,←Sk hnk];rfl) ⟨rfl,rfl,rfl,rfl,rfl,trivial⟩⟩
 ·refine Ct (AG (AG ?_));rw [List.take_of_length_le (show p.it.length≤k by have h:=h24;omega)];refine Cs 3 0 2 900 T3 Z Z Z Z Z Z Z (AJ ?_)
  first | refine J (AO rfl Hf Z Z Z) ?_ | refine J (AQ rfl Hf Z Z Z) ?_ | refine J (AR rfl Hf Z Z Z) ?_ | refine J (AP rfl Hf Z Z Z) ?_ | refine J (AN rfl Hf Z Z Z) ?_
  first | refine J (A0 Z Z Gp rfl) ?_ | refine J (AX Z Z Z Gp rfl) ?_ | refine J (AZ Z Z (rfl) rfl Gp rfl) ?_
  first | refine J (Co rfl Tryz.underlying28 rfl) ?_ | refine J (C1 Z Z Tryz.underlying28 rfl) ?_ | refine J (Cp rfl Tryz.underlying28 rfl) ?_ | refine J (Cn rfl Tryz.underlying28 rfl) ?_ | refine J (Ca rfl Tryz.underlying28 rfl) ?_ | refine J (Ck rfl Tryz.underlying28 rfl) ?_
  refine AC Z Z (AI (Aw (EN (α:=Nat×List Lin) (fun q=>⟨68,[(1,(.ptr 1 0 0)),(5,(.ptr 3 0 0)),(36,(.d (.sl none (p.ro.map F6)))),(37,(.d (AF (p.ro.length:Int)))),(38,(.d (AF (q.1:Int))))],[(900,[.rowD 218 8 (q.2.map K7)]),(1,[QV 31 p]),(3,[.blk 215 [.map 2 0,.d (.sl none ((GF p).map AF)),.own 900 0 q.2.length]]),(2,[CD AF BC (Bu p.it)])]⟩) (fun q=>q.1≤p.ro.length∧q.2=(p.ro.take q.1).map (EP p)) (fun q=>p.ro.length - q.1) ((0,[])) (⟨Nat.zero_le _,rfl⟩) (BS hF [900,1,3,2] Z Z ⟨rfl,rfl,rfl,rfl,rfl,trivial⟩) ?_)));rintro ⟨m,acc⟩ ⟨hm0,hA⟩;dsimp only at hm0 hA⊢;refine AG (AJ ?_)
  first | refine J (Cc Z Z Z) ?_ | refine J (Cb Z Z Z) ?_
  refine AI (AG ?_)
  first | refine BP rfl (fun h39=>?_) (fun h39=>?_) | refine BK rfl (fun h39=>?_) (fun h39=>?_)
  ·have hm1:m<p.ro.length:=EF h39;refine An (AG (Aw (AG (AJ ?_))));have hal:acc.length≤100000:=by rw [hA,List.length_map,List.length_take];omega
   first | refine J (Ch (m) Z Z (rfl) (A3 hm1) Tryz.underlying28 rfl Ot rfl) ?_ | refine J (Cj (m) Z Z (rfl) (A3 hm1) rfl Tryz.underlying28 Ot rfl) ?_
   first | refine J (At Z Z PE rfl) ?_ | refine J (Au Z Z PE Z Z Z) ?_ | refine J (Av Z Z (rfl) rfl PE rfl) ?_
   refine G (DT 5 Ol Z Z Z Z) (G (CC Z Z Z Z Z Z Z Ot) (AI (Gs [[],[],[1],[1,2],[1,2,3],[],[5],[],[7],[7,8],[],[],[11],[10,11,12],[5,6,7,8,9,10,11,12,13],[5,6,7,8,9,10,11,12,13,14],[1,2,3,4,5,6,7,8,9,10,11,12,13,14,15],[0,1,2,3,4,5,6,7,8,9,10,11,12,13,14,15,16],[0,1,2,3,4,5,6,7,8,9,10,11,12,13,14,15,16,17],[0,1,2,3,4,5,6,7,8,9,10,11,12,13,14,15,16,17,18]] BF rfl (IK ?_))))
   first | refine AE [5] [] Z Z (fun _=>AB (Bb Z Z)) ?_ | refine AH [5] Z Z (fun _=>AB (Bb Z Z)) ?_
   first | refine AE [5] [] Z Z (fun _=>AB (Bb Z Z)) ?_ | refine AH [5] Z Z (fun _=>AB (Bb Z Z)) ?_
   first | refine AE [43] [] Z Z (fun _=>AB (B1 Z Z)) ?_ | refine AH [43] Z Z (fun _=>AB (B1 Z Z)) ?_ | refine AE [43] [] Z Z (fun _=>AB (BY Z Z)) ?_ | refine AH [43] Z Z (fun _=>AB (BY Z Z)) ?_ | refine AE [43] [] Z Z (fun _=>AB (B2 Z Z)) ?_ | refine AH [43] Z Z (fun _=>AB (B2 Z Z)) ?_ | refine AE [43] [] Z Z (fun _=>AB (BZ Z Z)) ?_ | refine AH [43] Z Z (fun _=>AB (BZ Z Z)) ?_
   first | refine AE [44] [] Z Z (fun _=>AB (AO rfl Hc Z Z Z)) ?_ | refine AH [44] Z Z (fun _=>AB (AO rfl Hc Z Z Z)) ?_ | refine AE [44] [] Z Z (fun _=>AB (AQ rfl Hc Z Z Z)) ?_ | refine AH [44] Z Z (fun _=>AB (AQ rfl Hc Z Z Z)) ?_ | refine AE [44] [] Z Z (fun _=>AB (AR rfl Hc Z Z Z)) ?_ | refine AH [44] Z Z (fun _=>AB (AR rfl Hc Z Z Z)) ?_ | refine AE [44] [] Z Z (fun _=>AB (AP rfl Hc Z Z Z)) ?_ | refine AH [44] Z Z (fun _=>AB (AP rfl Hc Z Z Z)) ?_ | refine AE [44] [] Z Z (fun _=>AB (AN rfl Hc Z Z Z)) ?_ | refine AH [44] Z Z (fun _=>AB (AN rfl Hc Z Z Z)) ?_
   first | refine AE [45] [3] Z Z (fun _=>AB (A0 Z Z Ez rfl)) ?_ | refine AE [45] [3] Z Z (fun _=>AB (AX Z Z Z Ez rfl)) ?_ | refine AE [45] [3] Z Z (fun _=>AB (AZ Z Z (rfl) rfl Ez rfl)) ?_
   first | refine AE [9] [] Z Z (fun _=>AB (AO rfl Dg Z Z Z)) ?_ | refine AH [9] Z Z (fun _=>AB (AO rfl Dg Z Z Z)) ?_ | refine AE [9] [] Z Z (fun _=>AB (AQ rfl Dg Z Z Z)) ?_ | refine AH [9] Z Z (fun _=>AB (AQ rfl Dg Z Z Z)) ?_ | refine AE [9] [] Z Z (fun _=>AB (AR rfl Dg Z Z Z)) ?_ | refine AH [9] Z Z (fun _=>AB (AR rfl Dg Z Z Z)) ?_ | refine AE [9] [] Z Z (fun _=>AB (AP rfl Dg Z Z Z)) ?_ | refine AH [9] Z Z (fun _=>AB (AP rfl Dg Z Z Z)) ?_ | refine AE [9] [] Z Z (fun _=>AB (AN rfl Dg Z Z Z)) ?_ | refine AH [9] Z Z (fun _=>AB (AN rfl Dg Z Z Z)) ?_
   first | refine AE [47] [5] Z Z (fun _=>AB (At Z Z Ah rfl)) ?_ | refine AE [47] [5] Z Z (fun _=>AB (Au Z Z Ah Z Z Z)) ?_ | refine AE [47] [5] Z Z (fun _=>AB (Av Z Z (rfl) rfl Ah rfl)) ?_
   first | refine AE [9] [] Z Z (fun _=>AB (AO rfl Oi Z Z Z)) ?_ | refine AH [9] Z Z (fun _=>AB (AO rfl Oi Z Z Z)) ?_ | refine AE [9] [] Z Z (fun _=>AB (AQ rfl Oi Z Z Z)) ?_ | refine AH [9] Z Z (fun _=>AB (AQ rfl Oi Z Z Z)) ?_ | refine AE [9] [] Z Z (fun _=>AB (AR rfl Oi Z Z Z)) ?_ | refine AH [9] Z Z (fun _=>AB (AR rfl Oi Z Z Z)) ?_ | refine AE [9] [] Z Z (fun _=>AB (AP rfl Oi Z Z Z)) ?_ | refine AH [9] Z Z (fun _=>AB (AP rfl Oi Z Z Z)) ?_ | refine AE [9] [] Z Z (fun _=>AB (AN rfl Oi Z Z Z)) ?_ | refine AH [9] Z Z (fun _=>AB (AN rfl Oi Z Z Z)) ?_
   first | refine AE [49] [5] Z Z (fun _=>AB (A0 Z Z Be rfl)) ?_ | refine AE [49] [5] Z Z (fun _=>AB (AX Z Z Z Be rfl)) ?_ | refine AE [49] [5] Z Z (fun _=>AB (AZ Z Z (rfl) rfl Be rfl)) ?_
   first | refine AE [50] [] Z Z (fun _=>AB (Ox Z Z (maxI _) rfl)) ?_ | refine AH [50] Z Z (fun _=>AB (Ox Z Z (maxI _) rfl)) ?_
   first | refine AE [1] [1] Z Z (fun _=>AB (At Z Z A2 rfl)) ?_ | refine AE [1] [1] Z Z (fun _=>AB (Au Z Z A2 Z Z Z)) ?_ | refine AE [1] [1] Z Z (fun _=>AB (Av Z Z (rfl) rfl A2 rfl)) ?_
   first | refine AE [9] [] Z Z (fun _=>AB (AO rfl Dg Z Z Z)) ?_ | refine AH [9] Z Z (fun _=>AB (AO rfl Dg Z Z Z)) ?_ | refine AE [9] [] Z Z (fun _=>AB (AQ rfl Dg Z Z Z)) ?_ | refine AH [9] Z Z (fun _=>AB (AQ rfl Dg Z Z Z)) ?_ | refine AE [9] [] Z Z (fun _=>AB (AR rfl Dg Z Z Z)) ?_ | refine AH [9] Z Z (fun _=>AB (AR rfl Dg Z Z Z)) ?_ | refine AE [9] [] Z Z (fun _=>AB (AP rfl Dg Z Z Z)) ?_ | refine AH [9] Z Z (fun _=>AB (AP rfl Dg Z Z Z)) ?_ | refine AE [9] [] Z Z (fun _=>AB (AN rfl Dg Z Z Z)) ?_ | refine AH [9] Z Z (fun _=>AB (AN rfl Dg Z Z Z)) ?_
   first | refine AE [53] [5] Z Z (fun _=>AB (At Z Z Ah rfl)) ?_ | refine AE [53] [5] Z Z (fun _=>AB (Au Z Z Ah Z Z Z)) ?_ | refine AE [53] [5] Z Z (fun _=>AB (Av Z Z (rfl) rfl Ah rfl)) ?_
   first | refine AE [52,54] [] Z Z (fun _=>AB (BO (Tc p p.ro[m].r hb) Z Z)) ?_ | refine AH [52,54] Z Z (fun _=>AB (BO (Tc p p.ro[m].r hb) Z Z)) ?_
   first | refine AE [48,51,55] [] Z Z (fun _=>AB (DC Pw pl218 Z Z Z)) ?_ | refine AH [48,51,55] Z Z (fun _=>AB (DC Pw pl218 Z Z Z)) ?_
   refine G7 [56] [50] [(57,_)] Z Z (fun _=>G8 (Fg 50 T3 Z Z Z Z Z Z Z Z)) (.inr ⟨57,_,rfl,rfl,rfl,rfl,rfl⟩) Z Z Z Z Z ?_
   first | refine G7 [46,57] [900,50,3,2] [(58,_)] Z Z (fun _=>G8 (IX (acc) ([EP p p.ro[m]]) Z Z Z Z Z Z Z Z T3 (by simp only [List.length_singleton];omega) Z Z Z Z)) (.inr ⟨58,_,rfl,rfl,rfl,rfl,rfl⟩) Z Z Z Z Z ?_ | refine G7 [46,57] [900,50,3,2] [(58,_)] Z Z (fun _=>G8 (Kp (acc) ([EP p p.ro[m]]) Z Z Z Z Z Z (fun _=>rfl) T3 (by simp only [List.length_singleton];omega) Z Z Z Z)) (.inr ⟨58,_,rfl,rfl,rfl,rfl,rfl⟩) Z Z Z Z Z ?_
   refine Gf 17 Z Z Z (BE 18 Z Z ?_)
   first | refine J (B1 Z Z) ?_ | refine J (BY Z Z) ?_ | refine J (B2 Z Z) ?_ | refine J (BZ Z Z) ?_
   refine AI ⟨rfl,?_⟩;refine BE 19 Z Z ?_
   first | refine J (AO rfl Hc Z Z Z) ?_ | refine J (AQ rfl Hc Z Z Z) ?_ | refine J (AR rfl Hc Z Z Z) ?_ | refine J (AP rfl Hc Z Z Z) ?_ | refine J (AN rfl Hc Z Z Z) ?_
   refine AI ⟨rfl,?_⟩;refine BE 20 Z Z (G (CC Z Z Z Z Z Z Z sz213) (AI ⟨rfl,?_⟩));refine Ge (AJ (J (By Z Z (Ad (m+1) (by omega)) rfl) (AC Z Z (AI ?_))));exact ⟨(m+1,acc++ [EP p p.ro[m]]),⟨by show m+1≤_;omega,by show acc++ [EP p p.ro[m]]=(p.ro.take (m+1)).map (EP p);rw [Cd hm1,hA]⟩,by show p.ro.length - (m+1)<p.ro.length - m;omega,BS hF [900,1,3,2] rfl (rfl) ⟨rfl,rfl,rfl,rfl,rfl,trivial⟩⟩
  ·refine Ct (AG ?_);have hfa:acc=p.ro.map (EP p):=by rw [hA,List.take_of_length_le (by have h:=h39;omega)]
   refine AJ (AC Z Z ?_)
   first | refine J (B1 Z Z) ?_ | refine J (BY Z Z) ?_ | refine J (B2 Z Z) ?_ | refine J (BZ Z Z) ?_
   first | refine J (AO rfl Hc Z Z Z) ?_ | refine J (AQ rfl Hc Z Z Z) ?_ | refine J (AR rfl Hc Z Z Z) ?_ | refine J (AP rfl Hc Z Z Z) ?_ | refine J (AN rfl Hc Z Z Z) ?_
   first | refine J (A0 Z Z Ez rfl) ?_ | refine J (AX Z Z Z Ez rfl) ?_ | refine J (AZ Z Z (rfl) rfl Ez rfl) ?_
   refine G (Ov laysLn (k:=8) (by decide) Tryz.isAgg218 Tryz.sizeOf218 Tryz.func117 Z Z X4 (fun a b=>Bv a.r b.r) ((N7.comap Lin.r).swo) acc (linL p) (by rw [hfa,List.length_map];omega) (fun x _ y _=>ana1_p x y) (fun ys g1 g2=>lin_one hE (by rw [←hfa];exact g1) g2) Z Z Z P8 Z Z Z Z Z) ?_;refine AI (AG (YT (ys:=(linL p).map K7) 3 0 2 900 Z Z Z (by rw [List.length_map,FD,hfa,List.length_map];exact Nat.le_refl _) (List.take_of_length_le (by rw [List.length_map,FD,hfa,List.length_map];exact Nat.le_refl _)) Z Z Z Z Z Z (AJ (AC Z Z (AD Z Z (AD Z Z (AI (Af ?_))))))));exact ⟨_,[3,2],_,Ae rfl,rfl,rfl,rfl,rfl⟩
theorem LS (p:Prb) (hb:Cu p) (hE:Ab p≠0):AT Tryz.prog 58 [.d (CT p)] (.tup [.raw (.pointer none),AF (Ab p)]):=by
 have hck:=HH p hb;refine B6 Tryz.func58 Z Z Tryz.ntmps58 Z Z Z fun F hF=>?_;refine AG (AJ (G (CV 1 Z Z Z Z Z Z Z) (AD Z Z (AD Z Z (AI (AG (AG (AJ ?_))))))))
 first | refine J (At Z Z A2 rfl) ?_ | refine J (Au Z Z A2 Z Z Z) ?_ | refine J (Av Z Z (rfl) rfl A2 rfl) ?_
 refine J (BO (hck) Z Z) (AD Z Z (AI (AG (AJ (AC Z Z ?_)))))
 first | refine J (Ec Z Z Z) ?_ | refine J (Eb Z Z Z) ?_ | refine J (EV Z Z Z) ?_ | refine J (E8 Tryz.underlying34 Z Z Z) ?_ | refine J (Ea Tryz.underlying34 Z Z Z) ?_ | refine J (st_neqN Tryz.underlying34 Z Z) ?_ | refine J (E9 Tryz.underlying34 Z Z Z) ?_ | refine J (st_neqFN Tryz.underlying34 Z Z) ?_
 refine AI (EL rfl ((decide_eq_true hE)) (AG (AJ (AC Z Z (AD Z Z (AD Z Z (AI (Af ?_))))))));exact ⟨_,[],[],Ae rfl,rfl,rfl,rfl,rfl⟩
theorem Sl (l:List AU) (i:Int):Ai (Bu l) i itm0=l.getD ((l.map AU.id).idxOf i) itm0:=by
 induction l with
 | nil=>rfl
 | cons a l ih=>
  show (if i=a.id then a else Ai (Bu l) i itm0)=_;rw [List.map_cons,List.idxOf_cons]
  by_cases h:a.id=i
  ·rw [if_pos h.symm];simp [h]
  ·rw [if_neg (fun e=>h e.symm),ih];have hb:(a.id==i)=false:=by simp [h]
   rw [hb];simp
theorem Im (l:List AU) (i:Int):PX (Bu l) i=decide (i∈l.map AU.id):=by
 rw [Bool.eq_iff_iff,MW,decide_eq_true_eq];unfold Bu;rw [List.map_map];rfl
theorem Hw (p:Prb) (i:Int):Ai (Bu p.it) i itm0=Ap p i:=Sl p.it i
theorem Lg {p:Prb} (hb:Cu p) (i:Int):(Ap p i).po.length≤100000∧(Ap p i).pa.length≤100000∧(Ap p i).af.length≤100000:=by
 unfold Ap;rw [List.getD_eq_getElem?_getD]
 cases h:p.it[(p.it.map AU.id).idxOf i]? with
 | none=>exact ⟨by simp [itm0],by simp [itm0],by simp [itm0]⟩
 | some x=>exact hb.2.2 _ (List.mem_of_getElem? h)
theorem Id (p:Prb) (l:List Int) (hb:Cu p) (hl:l.length≤100000) (hE:E7 p l=0):A6 Tryz.prog 156 [.d (CT p),.d (.sl none (l.map AF))] [] fun r H'=>r= .tup [.ptr 10 0 0,.map 2 0,.d (AF 0)]∧H'=HA p++ [(2,[CD AF B5 (Aj l)])]:=by
 have h0:Ab p=0:=by
  unfold E7 at hE;split at hE
  ·exact hE
  ·rename_i h;simpa using h
 have han:=(Iy p hb h0).by [(3,10),(2,11)] rfl;have hC:E7 p l=W4 (p.it.map AU.id) l:=if_neg (fun h=>h h0);rw [hC] at hE;refine B6 Tryz.func156 Z Z Tryz.ntmps156 Z Z Z fun F hF=>?_;refine AG (AJ (G (CV 1 Z Z Z Z Z Z Z) (AD Z Z (AD Z Z (AD Z Z (AI (AG (AJ ?_))))))))
 first | refine J (At Z Z A2 rfl) ?_ | refine J (Au Z Z A2 Z Z Z) ?_ | refine J (Av Z Z (rfl) rfl A2 rfl) ?_
 refine G (IL han rfl [10,11] ⟨rfl,rfl,trivial⟩ Z Z Z Z Z Z Z Z Z) (AC Z Z ?_)
 first | refine J (BU Z Z Z) ?_ | refine J (BV Z Z Z) ?_
 first | refine J (BU Z Z Z) ?_ | refine J (BV Z Z Z) ?_
 refine AD Z Z (AD Z Z (AI (AG (AG (AJ (AC Z Z ?_))))))
 first | refine J (Ec Z Z Z) ?_ | refine J (Eb Z Z Z) ?_ | refine J (EV Z Z Z) ?_ | refine J (E8 Tryz.underlying34 Z Z Z) ?_ | refine J (Ea Tryz.underlying34 Z Z Z) ?_ | refine J (st_neqN Tryz.underlying34 Z Z) ?_ | refine J (E9 Tryz.underlying34 Z Z Z) ?_ | refine J (st_neqFN Tryz.underlying34 Z Z) ?_
 refine AI (F4 rfl ((by decide)) (An ?_));refine AG (AJ (G (YX 2 Z Z Z Z) (AD Z Z (AI (AG (AG (AJ (AC Z Z ?_))))))))
 first | refine J (Co rfl Tryz.underlying33 rfl) ?_ | refine J (C1 Z Z Tryz.underlying33 rfl) ?_ | refine J (Cp rfl Tryz.underlying33 rfl) ?_ | refine J (Cn rfl Tryz.underlying33 rfl) ?_ | refine J (Ca rfl Tryz.underlying33 rfl) ?_ | refine J (Ck rfl Tryz.underlying33 rfl) ?_
 refine AC Z Z (AI (Aw (EN (α:=Nat) (fun k=>⟨48,[(7,(.ptr 10 0 0)),(9,(.map 2 0)),(23,(.d (.sl none (l.map AF)))),(24,(.d (AF (l.length:Int)))),(25,(.d (AF (k:Int))))],HA p++ [(2,[CD AF B5 (Aj (l.take k))])]⟩) (fun k=>k≤l.length) (fun k=>l.length - k) (0) (Nat.zero_le _) (BS hF [10,11,2] Z Z ⟨rfl,rfl,rfl,rfl,rfl,trivial⟩) ?_)));rintro k hk0;refine AG (AJ ?_)
 first | refine J (Cc Z Z Z) ?_ | refine J (Cb Z Z Z) ?_
 refine AI (AG ?_)
 first | refine BP rfl (fun h26=>?_) (fun h26=>?_) | refine BK rfl (fun h26=>?_) (fun h26=>?_)
 ·have hk1:k<l.length:=EF h26;refine An (AG (Aw (AG (AJ ?_))));have hin:l[k]∈p.it.map AU.id:=(W2 hE).2 _ (List.getElem_mem hk1);have hnk:l[k]∉l.take k:=fun h=>by have hn2:=(W2 hE).1;rw [List.Nodup,List.pairwise_iff_getElem] at hn2;obtain ⟨j,hj,e⟩:=List.mem_take_iff_getElem.1 h;exact hn2 j k (by omega) hk1 (by omega) e
  first | refine J (Ch (k) Z Z (rfl) (A3 hk1) Tryz.underlying33 rfl Et rfl) ?_ | refine J (Cj (k) Z Z (rfl) (A3 hk1) rfl Tryz.underlying33 Et rfl) ?_
  first | refine J (A0 Z Z Aa rfl) ?_ | refine J (AX Z Z Z Aa rfl) ?_ | refine J (AZ Z Z (rfl) rfl Aa rfl) ?_
  refine AD Z Z (AI (AG (AG (AJ (AC Z Z ?_)))))
  first | refine J (B1 Z Z) ?_ | refine J (BY Z Z) ?_ | refine J (B2 Z Z) ?_ | refine J (BZ Z Z) ?_
  first | refine J (AO rfl FM Z Z Z) ?_ | refine J (AQ rfl FM Z Z Z) ?_ | refine J (AR rfl FM Z Z Z) ?_ | refine J (AP rfl FM Z Z Z) ?_ | refine J (AN rfl FM Z Z Z) ?_
  first | refine J (A0 Z Z CQ rfl) ?_ | refine J (AX Z Z Z CQ rfl) ?_ | refine J (AZ Z Z (rfl) rfl CQ rfl) ?_
  refine AC Z Z (J (Lq (Bu p.it) l[k] itm0 Z Z Z LC KI U1 D6 rfl) (AC Z Z ?_))
  first | refine J (BU Z Z Z) ?_ | refine J (BV Z Z Z) ?_
  first | refine J (BU Z Z Z) ?_ | refine J (BV Z Z Z) ?_
  refine G (DT 3 FI Z Z Z Z) (G (CC Z Z Z Z Z Z Z Cq) (AD Z Z (AI (AG (AJ (AC Z Z ?_))))))
  first | refine J (G9 Z Z) ?_ | refine J (GJ Z Z) ?_
  refine AI (F4 rfl ((by rw [Im,decide_eq_true hin];rfl)) (An (AG (AG (AJ ?_)))));refine AC Z Z (AC Z Z (J (LT (Aj (l.take k)) (l[k]) (false) _ Z Z Z IR KI za4 Z Z) (AI (F4 rfl ((by rw [Dx];exact decide_eq_false hnk)) (An (AJ (AC Z Z (AC Z Z ?_))))))))
  first | refine G (FR (Aj (l.take k)) (l[k]) (true) Z Z Z IR KI Z Z) ?_ | refine G (Dv (Aj (l.take k)) (l[k]) (true) Z Z Z IR KI Z Z) ?_
  refine AI (AJ (J (By Z Z (Ad (k+1) (by omega)) rfl) (AC Z Z (AI ?_))));exact ⟨k+1,by show k+1≤_;omega,by show l.length - (k+1)<l.length - k;omega,BS hF [10,11,2] rfl (by rw [List.take_succ_eq_append_getElem hk1,←HC hnk];rfl) ⟨rfl,rfl,rfl,rfl,rfl,trivial⟩⟩
 ·refine Ct ?_;refine AG (AJ (AC Z Z (AC Z Z (AD Z Z (AD Z Z (AD Z Z (AI (Af ?_))))))));exact ⟨_,[10,11,2],_,Ae rfl,rfl,rfl,rfl,by rw [List.take_of_length_le (show l.length≤k by have h:=h26;omega)];rfl⟩
theorem HG (p:Prb) (l:List Int) (hb:Cu p) (hl:l.length≤100000) (hE:E7 p l≠0):AT Tryz.prog 156 [.d (CT p),.d (.sl none (l.map AF))] (.tup [.raw (.pointer none),.raw (.map none),AF (E7 p l)]):=by
 by_cases h0:Ab p=0
 ·have han:=(Iy p hb h0).by [(3,10),(2,11)] rfl;have hC:E7 p l=W4 (p.it.map AU.id) l:=if_neg (fun h=>h h0);rw [hC] at hE⊢
  obtain ⟨E0,hE0⟩:∃e,W4 (p.it.map AU.id) l=e:=⟨_,rfl⟩
  rw [hE0] at hE⊢;refine B6 Tryz.func156 Z Z Tryz.ntmps156 Z Z Z fun F hF=>?_;refine AG (AJ (G (CV 1 Z Z Z Z Z Z Z) (AD Z Z (AD Z Z (AD Z Z (AI (AG (AJ ?_))))))))
  first | refine J (At Z Z A2 rfl) ?_ | refine J (Au Z Z A2 Z Z Z) ?_ | refine J (Av Z Z (rfl) rfl A2 rfl) ?_
  refine G (IL han rfl [10,11] ⟨rfl,rfl,trivial⟩ Z Z Z Z Z Z Z Z Z) (AC Z Z ?_)
  first | refine J (BU Z Z Z) ?_ | refine J (BV Z Z Z) ?_
  first | refine J (BU Z Z Z) ?_ | refine J (BV Z Z Z) ?_
  refine AD Z Z (AD Z Z (AI (AG (AG (AJ (AC Z Z ?_))))))
  first | refine J (Ec Z Z Z) ?_ | refine J (Eb Z Z Z) ?_ | refine J (EV Z Z Z) ?_ | refine J (E8 Tryz.underlying34 Z Z Z) ?_ | refine J (Ea Tryz.underlying34 Z Z Z) ?_ | refine J (st_neqN Tryz.underlying34 Z Z) ?_ | refine J (E9 Tryz.underlying34 Z Z Z) ?_ | refine J (st_neqFN Tryz.underlying34 Z Z) ?_
  refine AI (F4 rfl ((by decide)) (An ?_));refine AG (AJ (G (YX 2 Z Z Z Z) (AD Z Z (AI (AG (AG (AJ (AC Z Z ?_))))))))
  first | refine J (Co rfl Tryz.underlying33 rfl) ?_ | refine J (C1 Z Z Tryz.underlying33 rfl) ?_ | refine J (Cp rfl Tryz.underlying33 rfl) ?_ | refine J (Cn rfl Tryz.underlying33 rfl) ?_ | refine J (Ca rfl Tryz.underlying33 rfl) ?_ | refine J (Ck rfl Tryz.underlying33 rfl) ?_
  refine AC Z Z (AI (Aw (EN (α:=Nat) (fun k=>⟨48,[(7,(.ptr 10 0 0)),(9,(.map 2 0)),(23,(.d (.sl none (l.map AF)))),(24,(.d (AF (l.length:Int)))),(25,(.d (AF (k:Int))))],HA p++ [(2,[CD AF B5 (Aj (l.take k))])]⟩) (fun k=>k≤l.length∧E0=Bi (((List.range l.length).drop k).map (Mw (p.it.map AU.id) l))) (fun k=>l.length - k) (0) (⟨Nat.zero_le _,hE0.symm⟩) (BS hF [10,11,2] Z Z ⟨rfl,rfl,rfl,rfl,rfl,trivial⟩) ?_)));rintro k ⟨hk0,hk⟩;refine AG (AJ ?_)
  first | refine J (Cc Z Z Z) ?_ | refine J (Cb Z Z Z) ?_
  refine AI (AG ?_)
  first | refine BP rfl (fun h26=>?_) (fun h26=>?_) | refine BK rfl (fun h26=>?_) (fun h26=>?_)
  ·have hk1:k<l.length:=EF h26;refine An (AG (Aw (AG (AJ ?_))));have hEc:=FU hk1 hk;have hgd:=Bh 0 hk1
   first | refine J (Ch (k) Z Z (rfl) (A3 hk1) Tryz.underlying33 rfl Et rfl) ?_ | refine J (Cj (k) Z Z (rfl) (A3 hk1) rfl Tryz.underlying33 Et rfl) ?_
   first | refine J (A0 Z Z Aa rfl) ?_ | refine J (AX Z Z Z Aa rfl) ?_ | refine J (AZ Z Z (rfl) rfl Aa rfl) ?_
   refine AD Z Z (AI (AG (AG (AJ (AC Z Z ?_)))))
   first | refine J (B1 Z Z) ?_ | refine J (BY Z Z) ?_ | refine J (B2 Z Z) ?_ | refine J (BZ Z Z) ?_
   first | refine J (AO rfl FM Z Z Z) ?_ | refine J (AQ rfl FM Z Z Z) ?_ | refine J (AR rfl FM Z Z Z) ?_ | refine J (AP rfl FM Z Z Z) ?_ | refine J (AN rfl FM Z Z Z) ?_
   first | refine J (A0 Z Z CQ rfl) ?_ | refine J (AX Z Z Z CQ rfl) ?_ | refine J (AZ Z Z (rfl) rfl CQ rfl) ?_
   refine AC Z Z (J (Lq (Bu p.it) l[k] itm0 Z Z Z LC KI U1 D6 rfl) (AC Z Z ?_))
   first | refine J (BU Z Z Z) ?_ | refine J (BV Z Z Z) ?_
   first | refine J (BU Z Z Z) ?_ | refine J (BV Z Z Z) ?_
   refine G (DT 3 FI Z Z Z Z) (G (CC Z Z Z Z Z Z Z Cq) (AD Z Z (AI (AG (AJ (AC Z Z ?_))))))
   first | refine J (G9 Z Z) ?_ | refine J (GJ Z Z) ?_
   refine AI ?_
   first | refine BP rfl (fun h39=>?_) (fun h39=>?_) | refine BK rfl (fun h39=>?_) (fun h39=>?_)
   ·have hin:¬l[k]∈p.it.map AU.id:=by rw [Im] at h39;simpa using h39
    refine AG (AJ (AD Z Z (AD Z Z (AD Z Z (AI (Af ?_))))));exact ⟨_,[],[],Ae rfl,rfl,rfl,by rw [hEc.2 9 (by unfold Mw;rw [hgd,if_pos hin]) (by decide)],rfl⟩
   ·have hin:l[k]∈p.it.map AU.id:=by rw [Im] at h39;simpa using h39
    refine An (AG (AG (AJ (AC Z Z (AC Z Z (J (LT (Aj (l.take k)) (l[k]) (false) _ Z Z Z IR KI za4 Z Z) (AI ?_)))))))
    first | refine BP rfl (fun h42=>?_) (fun h42=>?_) | refine BK rfl (fun h42=>?_) (fun h42=>?_)
    ·have hnk:l[k]∈l.take k:=by rw [Dx] at h42;simpa using h42
     refine AG (AJ (AD Z Z (AD Z Z (AD Z Z (AI (Af ?_))))));exact ⟨_,[],[],Ae rfl,rfl,rfl,by rw [hEc.2 7 (by unfold Mw;rw [hgd,if_neg (fun h=>h hin),if_pos hnk]) (by decide)],rfl⟩
    ·have hnk:¬l[k]∈l.take k:=by rw [Dx] at h42;simpa using h42
     refine An (AJ (AC Z Z (AC Z Z ?_)))
     first | refine G (FR (Aj (l.take k)) (l[k]) (true) Z Z Z IR KI Z Z) ?_ | refine G (Dv (Aj (l.take k)) (l[k]) (true) Z Z Z IR KI Z Z) ?_
     refine AI (AJ (J (By Z Z (Ad (k+1) (by omega)) rfl) (AC Z Z (AI ?_))));exact ⟨k+1,⟨by show k+1≤_;omega,hEc.1 (by unfold Mw;rw [hgd,if_neg (fun h=>h hin),if_neg hnk])⟩,by show l.length - (k+1)<l.length - k;omega,BS hF [10,11,2] rfl (by rw [List.take_succ_eq_append_getElem hk1,←HC hnk];rfl) ⟨rfl,rfl,rfl,rfl,rfl,trivial⟩⟩
  ·refine Ct ?_;refine AG (AJ (AC Z Z (AC Z Z (AD Z Z (AD Z Z (AD Z Z (AI (Af ?_))))))));exact absurd (by rw [hk,List.drop_of_length_le (by have h:=h26;simp only [List.length_range];omega)];rfl) hE
 ·have hC:E7 p l=Ab p:=if_pos h0;have hab:=LS p hb h0;rw [hC];refine B6 Tryz.func156 Z Z Tryz.ntmps156 Z Z Z fun F hF=>?_;refine AG (AJ (G (CV 1 Z Z Z Z Z Z Z) (AD Z Z (AD Z Z (AD Z Z (AI (AG (AJ ?_))))))))
  first | refine J (At Z Z A2 rfl) ?_ | refine J (Au Z Z A2 Z Z Z) ?_ | refine J (Av Z Z (rfl) rfl A2 rfl) ?_
  refine J (BO (hab) Z Z) (AC Z Z ?_)
  first | refine J (BU Z Z Z) ?_ | refine J (BV Z Z Z) ?_
  first | refine J (BU Z Z Z) ?_ | refine J (BV Z Z Z) ?_
  refine AD Z Z (AD Z Z (AI (AG (AG (AJ (AC Z Z ?_))))))
  first | refine J (Ec Z Z Z) ?_ | refine J (Eb Z Z Z) ?_ | refine J (EV Z Z Z) ?_ | refine J (E8 Tryz.underlying34 Z Z Z) ?_ | refine J (Ea Tryz.underlying34 Z Z Z) ?_ | refine J (st_neqN Tryz.underlying34 Z Z) ?_ | refine J (E9 Tryz.underlying34 Z Z Z) ?_ | refine J (st_neqFN Tryz.underlying34 Z Z) ?_
  refine AI ?_;refine EL rfl ((decide_eq_true h0)) (AG (AJ (AC Z Z (AD Z Z (AD Z Z (AD Z Z (AI (Af ?_))))))));exact ⟨_,[],[],Ae rfl,rfl,rfl,rfl,rfl⟩
structure Bkd where
 i:Int
 m:Int
 r:A5
 deriving DecidableEq
abbrev LX:A5:=⟨0,Rb,[],[]⟩
abbrev NA (x:Bkd):D:= .agg [AF x.i,AF x.m,AF x.r.k,Al x.r.acc.o,AF x.r.acc.k,Al x.r.acc.a,Al x.r.f,Al x.r.t]
def prefN (i:Int) (q:List Int):Nat:=(max (Xa i q) 0).toNat
def prefQ (i:Int) (q:List Int):List Int:=q.take (prefN i q)
def ST (i:Int) (af:List Int):List Bkd:=(CW af).map fun x=>⟨i,x,LX⟩
def E2 (i:Int) (x:Lin):List Bkd:=(prefQ i x.q).map fun y=>⟨i,y,x.r⟩
def req (p:Prb) (i:Int):List Bkd:=ST i (Ap p i).af++(linL p).flatMap (E2 i)
def DV (inM:Int ->Bool) (l:List Bkd):List Bkd:=l.filter fun b=>!inM b.m
def inM (M:List (Int×Bool)) (x:Int):Bool:=Ai M x false
theorem Wi (i:Int) (q:List Int):prefN i q≤q.length:=by
 unfold prefN Xa
 split
 ·rename_i h
  have:=List.idxOf_lt_length_iff.2 h;omega
 ·omega
theorem Wj (i:Int) (q:List Int):max (Xa i q) 0=(prefN i q:Int):=by unfold prefN;omega
theorem R7 (f:Int ->Bool) (l m:List Bkd):DV f (l++m)=DV f l++DV f m:=List.filter_append _ _
theorem FF (f:Int ->Bool) (l:List Bkd):(DV f l).length≤l.length:=List.length_filter_le _ _
theorem IC {f:Int ->Bool} {l:List Bkd} {k:Nat} (hk:k<l.length):DV f (l.take (k+1))=DV f (l.take k)++(if !f l[k].m then [l[k]] else []):=Me hk
theorem Fz {α β:Type} {f:α ->List β} {l:List α} {k:Nat} (hk:k<l.length):(l.take (k+1)).flatMap f=(l.take k).flatMap f++f l[k]:=by
 rw [List.take_succ_eq_append_getElem hk,List.flatMap_append];simp
theorem Jo {α β:Type} {f:α ->List β} {n:Nat}:∀{l:List α},(∀x∈l,(f x).length≤n) ->(l.flatMap f).length≤l.length*n
 | [],_=>by simp
 | a::l,h=>by
  have h1:=h a (by simp);have h2:=Jo (l:=l) (fun x hx=>h x (by simp [hx]));rw [List.flatMap_cons,List.length_append,List.length_cons,Nat.add_mul];omega
theorem X3 {p:Prb} (x:Lin) (hx:x∈linL p):x.q.length≤p.it.length:=by
 unfold linL at hx;obtain ⟨y,_,rfl⟩:=List.mem_map.1 hx;show (qIds (ordP p) y.r).length≤_;unfold qIds;rw [List.length_map];exact Nat.le_trans (List.length_filter_le _ _) (Ey p)
theorem QR {p:Prb} (i:Int) (x:Lin) (hx:x∈linL p):(E2 i x).length≤p.it.length:=by
 unfold E2 prefQ;rw [List.length_map,List.length_take];have:=X3 x hx;omega
abbrev NW (mv:Nat):AV:= .d (.raw (.map (some mv)))
abbrev HM2 (p:Prb) (mv:Nat) (bs:Option (List Nat×Nat)) (M:List (Int×Bool)):Hp:=HA p++ [(12,[.map bs (Bt AF B5 M)]),(13,[.addr 12 0 (.map (some mv))])]
theorem Mz (p:Prb) (mv:Nat) (bs:Option (List Nat×Nat)) (M:List (Int×Bool)) (i:Int) (hb:Cu p) (h1:p.it.length≤1000) (h2:p.ro.length≤1000):A6 Tryz.prog 120 [.ptr 10 0 0,NW mv,.d (AF i)] (HM2 p mv bs M) fun r H'=>r= .d (.sl none ((DV (inM M) (req p i)).map NA))∧H'=HM2 p mv bs M:=by
 have hI:=Hw p i;have hIb:=Lg hb i;have hLl:=FD p;have hcl:=(YE (Ap p i).af (by omega)).by [(20,21)] rfl;have hRl:∀x∈linL p,(E2 i x).length≤1000:=fun x hx=>Nat.le_trans (QR i x hx) h1;have hsl:=Fl (Ap p i).af
 obtain ⟨S,hS⟩:∃S,CW (Ap p i).af=S:=⟨_,rfl⟩
 have hreq:req p i=(S.map fun x=>(⟨i,x,LX⟩:Bkd))++(linL p).flatMap (E2 i):=by unfold req ST;rw [hS]
 rw [hreq];rw [hS] at hsl;refine B6 Tryz.func120 Z Z Tryz.ntmps120 Z Z Z fun F hF=>(AG (AJ (AD Z Z ?_)));refine AI (AG (AJ (AD Z Z (AI (AG (Du 7 900 iOq Z Z Z Z (AJ (AC Z Z ?_))))))))
 first | refine J (B1 Z Z) ?_ | refine J (BY Z Z) ?_ | refine J (B2 Z Z) ?_ | refine J (BZ Z Z) ?_
 first | refine J (AO rfl FM Z Z Z) ?_ | refine J (AQ rfl FM Z Z Z) ?_ | refine J (AR rfl FM Z Z Z) ?_ | refine J (AP rfl FM Z Z Z) ?_ | refine J (AN rfl FM Z Z Z) ?_
 first | refine J (A0 Z Z CQ rfl) ?_ | refine J (AX Z Z Z CQ rfl) ?_ | refine J (AZ Z Z (rfl) rfl CQ rfl) ?_
 refine AC Z Z (J (JV (Bu p.it) i itm0 (Ap p i) Z Z Z LC KI U1 D6 hI rfl) ?_)
 first | refine J (SD rfl Ff Z Z) ?_ | refine J (SC rfl Ff (by simp) Z Z) ?_ | refine J (SE rfl Ff Z Z) ?_
 refine G (IL hcl rfl [21] ⟨rfl,trivial⟩ Z Z Z Z Z Z Z Z Z) ?_;refine AD Z Z (AI (AG (AJ (AC Z Z (G (QI laysS (Ap p i).af (by omega) Z Z Z Z Z Z Z) (AI (AG (AG ?_))))))));rw [hS];refine Vn (emb:=AF) 8 21 S Z Z Z hsl.symm Z Z Z (AJ (AC Z Z ?_))
 first | refine J (Co rfl Tryz.underlying33 rfl) ?_ | refine J (C1 Z Z Tryz.underlying33 rfl) ?_ | refine J (Cp rfl Tryz.underlying33 rfl) ?_ | refine J (Cn rfl Tryz.underlying33 rfl) ?_ | refine J (Ca rfl Tryz.underlying33 rfl) ?_ | refine J (Ck rfl Tryz.underlying33 rfl) ?_
 refine AC Z Z (AI (Aw (EN (α:=Nat×List Bkd) (fun q=>⟨81,[(0,.ptr 10 0 0),(1,NW mv),(2,.d (AF i)),(7,(.own 900 0 q.2.length)),(26,(.d (.sl none (S.map AF)))),(27,(.d (AF (S.length:Int)))),(28,(.d (AF (q.1:Int))))],HM2 p mv bs M++ [(900,[.rowD 229 8 (q.2.map NA)])]⟩) (fun q=>q.1≤S.length∧q.2=DV (inM M) ((S.map fun x=>(⟨i,x,LX⟩:Bkd)).take q.1)) (fun q=>S.length - q.1) ((0,[])) (⟨Nat.zero_le _,rfl⟩) (BS hF [10,11,12,13,900] Z Z ⟨rfl,rfl,rfl,rfl,rfl,rfl,rfl,trivial⟩) ?_)));rintro ⟨k,acc⟩ ⟨hk0,hA⟩;dsimp only at hk0 hA⊢;refine AG (AJ ?_)
 first | refine J (Cc Z Z Z) ?_ | refine J (Cb Z Z Z) ?_
 refine AI (AG ?_)
 first | refine BP rfl (fun h29=>?_) (fun h29=>?_) | refine BK rfl (fun h29=>?_) (fun h29=>?_)
 ·have hk1:k<S.length:=EF h29;refine An (AG (Aw (AG (AJ ?_))))
  first | refine J (Ch (k) Z Z (rfl) (A3 hk1) Tryz.underlying33 rfl Et rfl) ?_ | refine J (Cj (k) Z Z (rfl) (A3 hk1) rfl Tryz.underlying33 Et rfl) ?_
  first | refine J (A0 Z Z Aa rfl) ?_ | refine J (AX Z Z Z Aa rfl) ?_ | refine J (AZ Z Z (rfl) rfl Aa rfl) ?_
  refine AD Z Z (AI (AG (AJ (AC Z Z (Ft 32 13 0 Z Z (AC Z Z (J (LT M S[k] false (inM M S[k]) Z Z Z IR KI za4 Z Z) ?_)))))))
  first | refine J (G9 Z Z) ?_ | refine J (GJ Z Z) ?_
  refine AI ?_
  first | refine BP rfl (fun h35=>?_) (fun h35=>?_) | refine BK rfl (fun h35=>?_) (fun h35=>?_)
  ·refine AJ ?_;have hal:acc.length≤100000:=by rw [hA];refine Nat.le_trans (FF _ _) ?_;rw [List.length_take,List.length_map];omega
   refine AC Z Z (AC Z Z (AC Z Z (J (DC Vs pl229 Z Z Z) (G (Fg 1 iOq Z Z Z Z Z Z Z Z) ?_))))
   first | refine G (IX (acc) ([⟨i,S[k],LX⟩]) Z Z Z Z Z Z Z Z iOq (by simp only [List.length_singleton];omega) Z Z Z Z) ?_ | refine G (Kp (acc) ([⟨i,S[k],LX⟩]) Z Z Z Z Z Z (fun _=>rfl) iOq (by simp only [List.length_singleton];omega) Z Z Z Z) ?_
   refine AD Z Z (AI (AJ (J (By Z Z (Ad (k+1) (by omega)) rfl) (AC Z Z (AI ?_)))));exact ⟨(k+1,acc++ [⟨i,S[k],LX⟩]),⟨by show k+1≤_;omega,by show acc++ [⟨i,S[k],LX⟩]=DV (inM M) ((S.map fun x=>(⟨i,x,LX⟩:Bkd)).take (k+1));rw [IC (by simpa using hk1),List.getElem_map,if_pos (by show (!inM M S[k])=true;simpa using h35),hA]⟩,by show S.length - (k+1)<S.length - k;omega,BS hF [10,11,12,13,900] rfl (rfl) ⟨rfl,rfl,rfl,rfl,rfl,rfl,rfl,trivial⟩⟩
  ·refine An (AJ (J (By Z Z (Ad (k+1) (by omega)) rfl) (AC Z Z (AI ?_))));exact ⟨(k+1,acc),⟨by show k+1≤_;omega,by show acc=DV (inM M) ((S.map fun x=>(⟨i,x,LX⟩:Bkd)).take (k+1));rw [IC (by simpa using hk1),List.getElem_map,if_neg (by show ¬(!inM M S[k])=true;simpa using h35),List.append_nil,hA]⟩,by show S.length - (k+1)<S.length - k;omega,BS hF [10,11,12,13,900] rfl (rfl) ⟨rfl,rfl,rfl,rfl,rfl,rfl,rfl,trivial⟩⟩
 ·refine Ct (AG (AG ?_));have hA1:acc=DV (inM M) (S.map fun x=>(⟨i,x,LX⟩:Bkd)):=by rw [hA,List.take_of_length_le (by rw [List.length_map];have h:=h29;omega)]
  have hal1:acc.length≤100000:=by rw [hA1];refine Nat.le_trans (FF _ _) ?_;rw [List.length_map];omega
  refine AJ (AC Z Z ?_)
  first | refine J (B1 Z Z) ?_ | refine J (BY Z Z) ?_ | refine J (B2 Z Z) ?_ | refine J (BZ Z Z) ?_
  first | refine J (AO rfl Hc Z Z Z) ?_ | refine J (AQ rfl Hc Z Z Z) ?_ | refine J (AR rfl Hc Z Z Z) ?_ | refine J (AP rfl Hc Z Z Z) ?_ | refine J (AN rfl Hc Z Z Z) ?_
  first | refine J (A0 Z Z Ez rfl) ?_ | refine J (AX Z Z Z Ez rfl) ?_ | refine J (AZ Z Z (rfl) rfl Ez rfl) ?_
  first | refine J (Co rfl Tryz.underlying213 rfl) ?_ | refine J (C1 Z Z Tryz.underlying213 rfl) ?_ | refine J (Cp rfl Tryz.underlying213 rfl) ?_ | refine J (Cn rfl Tryz.underlying213 rfl) ?_ | refine J (Ca rfl Tryz.underlying213 rfl) ?_ | refine J (Ck rfl Tryz.underlying213 rfl) ?_
  refine AC Z Z (AI (Aw (EN (α:=Nat×List Bkd) (fun q=>⟨81,[(0,.ptr 10 0 0),(1,NW mv),(2,.d (AF i)),(7,(.own 900 0 q.2.length)),(46,(.d (.sl none ((linL p).map K7)))),(47,(.d (AF ((linL p).length:Int)))),(48,(.d (AF (q.1:Int))))],HM2 p mv bs M++ [(900,[.rowD 229 8 (q.2.map NA)])]⟩) (fun q=>q.1≤(linL p).length∧q.2=acc++DV (inM M) (((linL p).take q.1).flatMap (E2 i))) (fun q=>(linL p).length - q.1) ((0,acc)) (⟨Nat.zero_le _,by simp [DV]⟩) (BS hF [10,11,12,13,900] Z Z ⟨rfl,rfl,rfl,rfl,rfl,rfl,rfl,trivial⟩) ?_)));rintro ⟨m,acc2⟩ ⟨hm0,hB⟩;dsimp only at hm0 hB⊢;refine AG (AJ ?_)
  first | refine J (Cc Z Z Z) ?_ | refine J (Cb Z Z Z) ?_
  refine AI (AG ?_)
  first | refine BP rfl (fun h49=>?_) (fun h49=>?_) | refine BK rfl (fun h49=>?_) (fun h49=>?_)
  ·have hm1:m<(linL p).length:=EF h49;refine An (AG (Aw (AG (AJ ?_))));have hql:=X3 _ (List.getElem_mem hm1);have hfl:=Jo (f:=E2 i) (n:=1000) (l:=(linL p).take m) (fun x hx=>hRl x (List.mem_of_mem_take hx));have hbl:acc2.length≤1200000:=by rw [hB,List.length_append];have:=FF (inM M) (((linL p).take m).flatMap (E2 i));rw [List.length_take] at hfl;have h3:min m (linL p).length*1000≤1000*1000:=Nat.mul_le_mul_right _ (by omega);omega
   first | refine J (Ch (m) Z Z (rfl) (A3 hm1) Tryz.underlying213 rfl JP rfl) ?_ | refine J (Cj (m) Z Z (rfl) (A3 hm1) rfl Tryz.underlying213 JP rfl) ?_
   first | refine J (At Z Z J0 rfl) ?_ | refine J (Au Z Z J0 Z Z Z) ?_ | refine J (Av Z Z (rfl) rfl J0 rfl) ?_
   refine G (DT 2 Pw Z Z Z Z) (G (CC Z Z Z Z Z Z Z JP) (AI (AG (AJ ?_))))
   first | refine J (AO rfl Dn Z Z Z) ?_ | refine J (AQ rfl Dn Z Z Z) ?_ | refine J (AR rfl Dn Z Z Z) ?_ | refine J (AP rfl Dn Z Z Z) ?_ | refine J (AN rfl Dn Z Z Z) ?_
   first | refine J (A0 Z Z BD rfl) ?_ | refine J (AX Z Z Z BD rfl) ?_ | refine J (AZ Z Z (rfl) rfl BD rfl) ?_
   refine AC Z Z (J (BO (Ty (linL p)[m].q i (by omega)) Z Z) (AD Z Z (AI (AG (AJ ?_)))))
   first | refine J (AO rfl Dn Z Z Z) ?_ | refine J (AQ rfl Dn Z Z Z) ?_ | refine J (AR rfl Dn Z Z Z) ?_ | refine J (AP rfl Dn Z Z Z) ?_ | refine J (AN rfl Dn Z Z Z) ?_
   first | refine J (A0 Z Z BD rfl) ?_ | refine J (AX Z Z Z BD rfl) ?_ | refine J (AZ Z Z (rfl) rfl BD rfl) ?_
   refine AC Z Z (J (Ox Z Z (maxI _) rfl) (J (Ku ((linL p)[m].q) (prefN i (linL p)[m].q) Z Z Z (Wj _ _) (Wi _ _) Tryz.underlying33 Et (fun _=>rfl) rfl) ?_))
   first | refine J (Co rfl Tryz.underlying33 rfl) ?_ | refine J (C1 Z Z Tryz.underlying33 rfl) ?_ | refine J (Cp rfl Tryz.underlying33 rfl) ?_ | refine J (Cn rfl Tryz.underlying33 rfl) ?_ | refine J (Ca rfl Tryz.underlying33 rfl) ?_ | refine J (Ck rfl Tryz.underlying33 rfl) ?_
   refine AC Z Z (AI (Aw (EN (α:=Nat×List Bkd) (fun q=>⟨81,[(0,.ptr 10 0 0),(1,NW mv),(2,.d (AF i)),(7,(.own 900 0 q.2.length)),(12,(.ptr 2 0 0)),(46,(.d (.sl none ((linL p).map K7)))),(47,(.d (AF ((linL p).length:Int)))),(48,(.d (AF (m:Int)))),(60,(.d (.sl none ((prefQ i (linL p)[m].q).map AF)))),(61,(.d (AF ((prefQ i (linL p)[m].q).length:Int)))),(62,(.d (AF (q.1:Int))))],HM2 p mv bs M++ [(900,[.rowD 229 8 (q.2.map NA)]),(2,[.blk 218 [.d (AF (linL p)[m].r.k),.d (Al (linL p)[m].r.acc.o),.d (AF (linL p)[m].r.acc.k),.d (Al (linL p)[m].r.acc.a),.d (Al (linL p)[m].r.f),.d (Al (linL p)[m].r.t),.d (AF (linL p)[m].n),.d (.sl none ((linL p)[m].q.map AF))]])]⟩) (fun q=>q.1≤(prefQ i (linL p)[m].q).length∧q.2=acc2++DV (inM M) ((E2 i (linL p)[m]).take q.1)) (fun q=>(prefQ i (linL p)[m].q).length - q.1) ((0,acc2)) (⟨Nat.zero_le _,by simp [DV]⟩) (BS hF [10,11,12,13,900,2] Z Z ⟨rfl,rfl,rfl,rfl,rfl,rfl,rfl,rfl,rfl,rfl,rfl,trivial⟩) ?_)));rintro ⟨j,acc3⟩ ⟨hj0,hC⟩;dsimp only at hj0 hC⊢;refine AG (AJ ?_)
   first | refine J (Cc Z Z Z) ?_ | refine J (Cb Z Z Z) ?_
   refine AI (AG ?_)
   first | refine BP rfl (fun h63=>?_) (fun h63=>?_) | refine BK rfl (fun h63=>?_) (fun h63=>?_)
   ·have hj1:j<(prefQ i (linL p)[m].q).length:=EF h63;refine An (AG (Aw (AG (AJ ?_))))
    first | refine J (Ch (j) Z Z (rfl) (A3 hj1) Tryz.underlying33 rfl Et rfl) ?_ | refine J (Cj (j) Z Z (rfl) (A3 hj1) rfl Tryz.underlying33 Et rfl) ?_
    first | refine J (A0 Z Z Aa rfl) ?_ | refine J (AX Z Z Z Aa rfl) ?_ | refine J (AZ Z Z (rfl) rfl Aa rfl) ?_
    refine AD Z Z (AI (AG (AJ (AC Z Z (Ft 66 13 0 Z Z (AC Z Z (J (LT M (prefQ i (linL p)[m].q)[j] false (inM M (prefQ i (linL p)[m].q)[j]) Z Z Z IR KI za4 Z Z) ?_)))))))
    first | refine J (G9 Z Z) ?_ | refine J (GJ Z Z) ?_
    refine AI ?_
    first | refine BP rfl (fun h69=>?_) (fun h69=>?_) | refine BK rfl (fun h69=>?_) (fun h69=>?_)
    ·refine AJ ?_;have hcl3:acc3.length≤1300000:=by rw [hC,List.length_append];have h3:=FF (inM M) ((E2 i (linL p)[m]).take j);have h4:=hRl _ (List.getElem_mem hm1);rw [List.length_take] at h3;omega
     refine AC Z Z (AC Z Z (AC Z Z ?_))
     first | refine J (AO rfl GP Z Z Z) ?_ | refine J (AQ rfl GP Z Z Z) ?_ | refine J (AR rfl GP Z Z Z) ?_ | refine J (AP rfl GP Z Z Z) ?_ | refine J (AN rfl GP Z Z Z) ?_
     first | refine J (At Z Z Ah rfl) ?_ | refine J (Au Z Z Ah Z Z Z) ?_ | refine J (Av Z Z (rfl) rfl Ah rfl) ?_
     refine J (DC Vs pl229 Z Z Z) (G (Fg 3 iOq Z Z Z Z Z Z Z Z) ?_)
     first | refine G (IX (acc3) ([⟨i,(prefQ i (linL p)[m].q)[j],(linL p)[m].r⟩]) Z Z Z Z Z Z Z Z iOq (by simp only [List.length_singleton];omega) Z Z Z Z) ?_ | refine G (Kp (acc3) ([⟨i,(prefQ i (linL p)[m].q)[j],(linL p)[m].r⟩]) Z Z Z Z Z Z (fun _=>rfl) iOq (by simp only [List.length_singleton];omega) Z Z Z Z) ?_
     refine AD Z Z (AI (AJ (J (By Z Z (Ad (j+1) (by have h5:(prefQ i (linL p)[m].q).length≤1000:=by {unfold prefQ;rw [List.length_take];omega};omega)) rfl) (AC Z Z (AI ?_)))));exact ⟨(j+1,acc3++ [⟨i,(prefQ i (linL p)[m].q)[j],(linL p)[m].r⟩]),⟨by show j+1≤_;omega,by show acc3++ [⟨i,(prefQ i (linL p)[m].q)[j],(linL p)[m].r⟩]=acc2++DV (inM M) ((E2 i (linL p)[m]).take (j+1));rw [IC (by unfold E2;simpa using hj1),hC,List.append_assoc];congr 2;unfold E2;rw [List.getElem_map,if_pos (by show (!inM M (prefQ i (linL p)[m].q)[j])=true;simpa using h69)]⟩,by show (prefQ i (linL p)[m].q).length - (j+1)<(prefQ i (linL p)[m].q).length - j;omega,BS hF [10,11,12,13,900,2] rfl (rfl) ⟨rfl,rfl,rfl,rfl,rfl,rfl,rfl,rfl,rfl,rfl,rfl,trivial⟩⟩
    ·refine An (AJ (J (By Z Z (Ad (j+1) (by have h5:(prefQ i (linL p)[m].q).length≤1000:=by {unfold prefQ;rw [List.length_take];omega};omega)) rfl) (AC Z Z (AI ?_))));exact ⟨(j+1,acc3),⟨by show j+1≤_;omega,by show acc3=acc2++DV (inM M) ((E2 i (linL p)[m]).take (j+1));rw [IC (by unfold E2;simpa using hj1),hC];unfold E2;rw [List.getElem_map,if_neg (by show ¬(!inM M (prefQ i (linL p)[m].q)[j])=true;simpa using h69),List.append_nil]⟩,by show (prefQ i (linL p)[m].q).length - (j+1)<(prefQ i (linL p)[m].q).length - j;omega,BS hF [10,11,12,13,900,2] rfl (rfl) ⟨rfl,rfl,rfl,rfl,rfl,rfl,rfl,rfl,rfl,rfl,rfl,trivial⟩⟩
   ·have hfin:acc3=acc2++DV (inM M) (E2 i (linL p)[m]):=by rw [hC,List.take_of_length_le (by unfold E2;rw [List.length_map];have h:=h63;omega)]
    refine Ct (AJ (J (By Z Z (Ad (m+1) (by omega)) rfl) (AC Z Z (AI ?_))));exact ⟨(m+1,acc3),⟨by show m+1≤_;omega,by show acc3=acc++DV (inM M) (((linL p).take (m+1)).flatMap (E2 i));rw [Fz hm1,R7,←List.append_assoc,←hB];exact hfin⟩,by show (linL p).length - (m+1)<(linL p).length - m;omega,BS hF [10,11,12,13,900] rfl (rfl) ⟨rfl,rfl,rfl,rfl,rfl,rfl,rfl,trivial⟩⟩
  ·refine Ct (AG ?_);have hfa:acc2=DV (inM M) ((S.map fun x=>(⟨i,x,LX⟩:Bkd))++(linL p).flatMap (E2 i)):=by rw [hB,hA1,List.take_of_length_le (by have h:=h49;omega),R7]
   refine Vn (emb:=NA) 7 900 acc2 Z Z Z Z Z Z Z (AJ (AC Z Z (AD Z Z (AI (Af ?_)))));exact ⟨_,[10,11,12,13],_,Ae rfl,rfl,rfl,by rw [hfa],rfl⟩
def G6 (p:Prb) (f:Int ->Bool) (i:Int):List Bkd:=if f i then DV f (req p i) else []
def CE (p:Prb) (f:Int ->Bool):List Bkd:=(GF p).flatMap (G6 p f)
theorem Lb {p:Prb} (hb:Cu p) (h1:p.it.length≤1000) (h2:p.ro.length≤1000) (i:Int):(req p i).length≤1100000:=by
 unfold req ST;rw [List.length_append,List.length_map,Fl];have h3:=Lg hb i;have h4:=Jo (f:=E2 i) (n:=1000) (l:=linL p) (fun x hx=>Nat.le_trans (QR i x hx) h1);have h5:=FD p;have h6:(linL p).length*1000≤1000*1000:=Nat.mul_le_mul_right _ (by omega);omega
theorem YK {p:Prb} (hb:Cu p) (h1:p.it.length≤1000) (h2:p.ro.length≤1000) (f:Int ->Bool) (i:Int):(G6 p f i).length≤1100000:=by
 unfold G6;split
 ·exact Nat.le_trans (FF _ _) (Lb hb h1 h2 i)
 ·simp
theorem le_step {a k N:Nat} (h:a≤k*N):a≤(k+1)*N:=Nat.le_trans h (Nat.mul_le_mul_right _ (Nat.le_succ _))
theorem X5 {α:Type} {a b:List α} {k N:Nat} (h:a.length≤k*N) (h2:b.length≤N):(a++b).length≤(k+1)*N:=by rw [List.length_append,Nat.add_mul,Nat.one_mul];exact Nat.add_le_add h h2
theorem R5 (p:Prb) (mv:Nat) (bs:Option (List Nat×Nat)) (M:List (Int×Bool)) (hb:Cu p) (h1:p.it.length≤1000) (h2:p.ro.length≤1000):A6 Tryz.prog 157 [.ptr 10 0 0,NW mv] (HM2 p mv bs M) fun r H'=>r= .d (.sl none ((CE p (inM M)).map NA))∧H'=HM2 p mv bs M:=by
 have hbl:∀i,(G6 p (inM M) i).length≤1100000:=YK hb h1 h2 _;have hor:(GF p).length≤1000:=by unfold GF;rw [List.length_map];exact Nat.le_trans (Ey p) h1
 have hbs:CE p (inM M)=(GF p).flatMap (G6 p (inM M)):=rfl;rw [hbs];refine B6 Tryz.func157 Z Z Tryz.ntmps157 Z Z Z fun F hF=>(AG (AJ (AD Z Z (AI ?_))));refine AG (AJ (AD Z Z (AI (AG (AG (Du 5 900 iOq Z Z Z Z (AJ (AC Z Z ?_))))))))
 first | refine J (B1 Z Z) ?_ | refine J (BY Z Z) ?_ | refine J (B2 Z Z) ?_ | refine J (BZ Z Z) ?_
 first | refine J (AO rfl Do Z Z Z) ?_ | refine J (AQ rfl Do Z Z Z) ?_ | refine J (AR rfl Do Z Z Z) ?_ | refine J (AP rfl Do Z Z Z) ?_ | refine J (AN rfl Do Z Z Z) ?_
 first | refine J (A0 Z Z BD rfl) ?_ | refine J (AX Z Z Z BD rfl) ?_ | refine J (AZ Z Z (rfl) rfl BD rfl) ?_
 first | refine J (Co rfl Tryz.underlying33 rfl) ?_ | refine J (C1 Z Z Tryz.underlying33 rfl) ?_ | refine J (Cp rfl Tryz.underlying33 rfl) ?_ | refine J (Cn rfl Tryz.underlying33 rfl) ?_ | refine J (Ca rfl Tryz.underlying33 rfl) ?_ | refine J (Ck rfl Tryz.underlying33 rfl) ?_
 refine AC Z Z (AI (Aw (EN (α:=Nat×List Bkd) (fun q=>⟨28,[(0,.ptr 10 0 0),(1,NW mv),(5,(.own 900 0 q.2.length)),(11,(.d (.sl none ((GF p).map AF)))),(12,(.d (AF ((GF p).length:Int)))),(13,(.d (AF (q.1:Int))))],HM2 p mv bs M++ [(900,[.rowD 229 8 (q.2.map NA)])]⟩) (fun q=>q.1≤(GF p).length∧q.2=((GF p).take q.1).flatMap (G6 p (inM M))∧q.2.length≤q.1*1100000) (fun q=>(GF p).length - q.1) ((0,[])) (⟨Nat.zero_le _,rfl,Nat.le_refl _⟩) (BS hF [10,11,12,13,900] Z Z ⟨rfl,rfl,rfl,rfl,rfl,rfl,trivial⟩) ?_)));rintro ⟨k,acc⟩ ⟨hk0,hA,hL⟩;dsimp only at hk0 hA hL⊢;refine AG (AJ ?_)
 first | refine J (Cc Z Z Z) ?_ | refine J (Cb Z Z Z) ?_
 refine AI (AG ?_)
 first | refine BP rfl (fun h14=>?_) (fun h14=>?_) | refine BK rfl (fun h14=>?_) (fun h14=>?_)
 ·have hk1:k<(GF p).length:=EF h14;refine An (AG (Aw (AG (AJ ?_))))
  first | refine J (Ch (k) Z Z (rfl) (A3 hk1) Tryz.underlying33 rfl Et rfl) ?_ | refine J (Cj (k) Z Z (rfl) (A3 hk1) rfl Tryz.underlying33 Et rfl) ?_
  first | refine J (A0 Z Z Aa rfl) ?_ | refine J (AX Z Z Z Aa rfl) ?_ | refine J (AZ Z Z (rfl) rfl Aa rfl) ?_
  refine AD Z Z (AI (AG (AJ (AC Z Z (Ft 17 13 0 Z Z (AC Z Z (J (LT M (GF p)[k] false (inM M (GF p)[k]) Z Z Z IR KI za4 Z Z) (AI ?_))))))))
  first | refine BP rfl (fun h19=>?_) (fun h19=>?_) | refine BK rfl (fun h19=>?_) (fun h19=>?_)
  ·refine AJ (AC Z Z (AC Z Z (AC Z Z (AC Z Z (G (IL (Mz p mv bs M (GF p)[k] hb h1 h2) rfl [10,11,12,13] ⟨rfl,rfl,rfl,rfl,trivial⟩ Z Z Z Z Z Z Z Z Z) ?_)))));have hrl:=Nat.le_trans (FF (inM M) _) (Lb hb h1 h2 (GF p)[k])
   first | refine G (IX (acc) (DV (inM M) (req p (GF p)[k])) Z Z Z Z Z Z Z Z iOq (by omega) Z Z Z Z) ?_ | refine G (Kp (acc) (DV (inM M) (req p (GF p)[k])) Z Z Z Z Z Z (fun _=>rfl) iOq (by omega) Z Z Z Z) ?_
   refine AD Z Z (AI (AJ (J (By Z Z (Ad (k+1) (by have h:=hor;omega)) rfl) (AC Z Z (AI ?_)))));exact ⟨(k+1,acc++DV (inM M) (req p (GF p)[k])),⟨by show k+1≤_;omega,by show acc++DV (inM M) (req p (GF p)[k])=((GF p).take (k+1)).flatMap (G6 p (inM M));rw [Fz hk1,←hA];unfold G6;rw [if_pos (by simpa using h19)],X5 hL (Nat.le_trans (FF (inM M) _) (Lb hb h1 h2 (GF p)[k]))⟩,by show (GF p).length - (k+1)<(GF p).length - k;omega,BS hF [10,11,12,13,900] rfl (rfl) ⟨rfl,rfl,rfl,rfl,rfl,rfl,trivial⟩⟩
  ·refine An (AJ (J (By Z Z (Ad (k+1) (by have h:=hor;omega)) rfl) (AC Z Z (AI ?_))));exact ⟨(k+1,acc),⟨by show k+1≤_;omega,by show acc=((GF p).take (k+1)).flatMap (G6 p (inM M));rw [Fz hk1,←hA];unfold G6;rw [if_neg (by simpa using h19),List.append_nil],le_step hL⟩,by show (GF p).length - (k+1)<(GF p).length - k;omega,BS hF [10,11,12,13,900] rfl (rfl) ⟨rfl,rfl,rfl,rfl,rfl,rfl,trivial⟩⟩
 ·refine Ct (AG ?_);have hfa:acc=(GF p).flatMap (G6 p (inM M)):=by rw [hA,List.take_of_length_le (by have h:=h14;omega)]
  refine Vn (emb:=NA) 5 900 acc Z Z Z Z Z Z Z (AJ (AC Z Z (AD Z Z (AI (Af ?_)))));exact ⟨_,[10,11,12,13],_,Ae rfl,rfl,rfl,by rw [hfa],rfl⟩
def Bz (p:Prb) (r:A5) (l:List (Int×Bool)):Int:=(l.map fun e=>if e.2=true then CO (Ap p e.1) r else 0).sum
theorem Hj {p:Prb} {r:A5} {l m:List (Int×Bool)} (h:l.Perm m):Bz p r l=Bz p r m:=Q1 h _
theorem U3 (p:Prb) (r:A5) (e:Int×Bool) (l:List (Int×Bool)):Bz p r (e::l)=(if e.2=true then CO (Ap p e.1) r else 0)+Bz p r l:=by simp [Bz]
theorem I1 (p:Prb) (r:A5) (k:Int) (v:Bool) (l:List (Int×Bool)):Bz p r ((k,v)::l)=(if v=true then CO (Ap p k) r else 0)+Bz p r l:=U3 p r (k,v) l
theorem R2 {p:Prb} {l:List Int} (h:E7 p l=0):Ab p=0:=by
 unfold E7 at h;split at h
 ·exact h
 ·rename_i hn;simpa using hn
theorem Ta {a b:Bool} {x:D} (h:a=b):AV.d (.tup [.raw (.bool a),x])= .d (.tup [.raw (.bool b),x]):=by rw [h]
theorem Sr (i:AU) (r:A5): -1000000000000000≤CO i r∧CO i r≤1000000000000000:=by
 unfold CO
 split
 ·rename_i h;simpa [Mx] using UM h.1 r
 ·omega
theorem Rs (p:Prb) (r:A5) {l:List (Int×Bool)} (h:l.length≤1000): -1000000000000000000≤Bz p r l∧Bz p r l≤1000000000000000000:=by
 have:=U8 (l:=l) (f:=fun e=>if e.2=true then CO (Ap p e.1) r else 0) (B:=1000000000000000) (fun e _=>by
  show _≤(if e.2=true then _ else _)∧_;have:=Sr (Ap p e.1) r
  split<;>omega) 1000 h (by omega)
 unfold Bz;omega
def On (p:Prb) (M:List (Int×Bool)) (x:Lin):List Roo:=if x.n+Bz p x.r M<0 then [⟨x.r,0 - (x.n+Bz p x.r M)⟩] else []
def Eq (p:Prb) (M:List (Int×Bool)):List Roo:=(linL p).flatMap (On p M)
theorem Sd {p:Prb} (hp:Ab p=0) (x:Lin) (hx:x∈linL p):0≤x.n∧x.n≤4000000000000000:=by
 unfold linL at hx;obtain ⟨y,hy,rfl⟩:=List.mem_map.1 hx;have:=Ns (N8 hp).1 y ((DE p.ro).mem_iff.1 hy);show 0≤max y.n 0∧max y.n 0≤_;omega
abbrev HM3 (p:Prb) (mv:Nat) (M:List (Int×Bool)):Hp:=HA p++ [(12,[CD AF B5 M]),(13,[.addr 12 0 (.map (some mv))])]
theorem JN (p:Prb) (mv:Nat) (M:List (Int×Bool)) (hp:Ab p=0) (hb:Cu p) (hM:M.length≤1000):A6 Tryz.prog 159 [.ptr 10 0 0,NW mv] (HM3 p mv M) fun r H'=>r= .d (.sl none ((Eq p M).map F6))∧H'=HM3 p mv M:=by
 have hb1:=hb.1;have hLl:=FD p;refine B6 Tryz.func159 Z Z Tryz.ntmps159 Z Z Z fun F hF=>(AG (AJ (AD Z Z (AI ?_))));refine AG (AJ (AD Z Z (AI (AG (AG (Du 5 900 T4 Z Z Z Z (AJ (AC Z Z ?_))))))))
 first | refine J (B1 Z Z) ?_ | refine J (BY Z Z) ?_ | refine J (B2 Z Z) ?_ | refine J (BZ Z Z) ?_
 first | refine J (AO rfl Hc Z Z Z) ?_ | refine J (AQ rfl Hc Z Z Z) ?_ | refine J (AR rfl Hc Z Z Z) ?_ | refine J (AP rfl Hc Z Z Z) ?_ | refine J (AN rfl Hc Z Z Z) ?_
 first | refine J (A0 Z Z Ez rfl) ?_ | refine J (AX Z Z Z Ez rfl) ?_ | refine J (AZ Z Z (rfl) rfl Ez rfl) ?_
 first | refine J (Co rfl Tryz.underlying213 rfl) ?_ | refine J (C1 Z Z Tryz.underlying213 rfl) ?_ | refine J (Cp rfl Tryz.underlying213 rfl) ?_ | refine J (Cn rfl Tryz.underlying213 rfl) ?_ | refine J (Ca rfl Tryz.underlying213 rfl) ?_ | refine J (Ck rfl Tryz.underlying213 rfl) ?_
 refine AC Z Z (AI (Aw (EN (α:=Nat×List Roo) (fun q=>⟨53,[(0,.ptr 10 0 0),(1,NW mv),(5,(.own 900 0 q.2.length)),(14,(.d (.sl none ((linL p).map K7)))),(15,(.d (AF ((linL p).length:Int)))),(16,(.d (AF (q.1:Int))))],HM3 p mv M++ [(900,[.rowD 205 7 (q.2.map F6)])]⟩) (fun q=>q.1≤(linL p).length∧q.2=((linL p).take q.1).flatMap (On p M)∧q.2.length≤q.1) (fun q=>(linL p).length - q.1) ((0,[])) (⟨Nat.zero_le _,rfl,Nat.le_refl _⟩) (BS hF [10,11,12,13,900] Z Z ⟨rfl,rfl,rfl,rfl,rfl,rfl,trivial⟩) ?_)));rintro ⟨k,acc⟩ ⟨hk0,hA,hL⟩;dsimp only at hk0 hA hL⊢;refine AG (AJ ?_)
 first | refine J (Cc Z Z Z) ?_ | refine J (Cb Z Z Z) ?_
 refine AI (AG ?_)
 first | refine BP rfl (fun h17=>?_) (fun h17=>?_) | refine BK rfl (fun h17=>?_) (fun h17=>?_)
 ·have hk1:k<(linL p).length:=EF h17;refine An (AG (Aw (AG (AJ ?_))));have hxn:=Sd hp _ (List.getElem_mem hk1)
  first | refine J (Ch (k) Z Z (rfl) (A3 hk1) Tryz.underlying213 rfl JP rfl) ?_ | refine J (Cj (k) Z Z (rfl) (A3 hk1) rfl Tryz.underlying213 JP rfl) ?_
  first | refine J (At Z Z J0 rfl) ?_ | refine J (Au Z Z J0 Z Z Z) ?_ | refine J (Av Z Z (rfl) rfl J0 rfl) ?_
  refine G (DT 1 Pw Z Z Z Z) (G (CC Z Z Z Z Z Z Z JP) (AI (AG (AJ ?_))))
  first | refine J (AO rfl TH Z Z Z) ?_ | refine J (AQ rfl TH Z Z Z) ?_ | refine J (AR rfl TH Z Z Z) ?_ | refine J (AP rfl TH Z Z Z) ?_ | refine J (AN rfl TH Z Z Z) ?_
  first | refine J (A0 Z Z Be rfl) ?_ | refine J (AX Z Z Z Be rfl) ?_ | refine J (AZ Z Z (rfl) rfl Be rfl) ?_
  refine AD Z Z (AI ?_);refine AG (AG (AJ (AC Z Z (Ft 22 13 0 Z Z (G (JU 2 Z Z Z IR Z Z Z Z) (AI (Aw (EN (α:=List Nat×Int) (fun q=>⟨53,[(0,.ptr 10 0 0),(1,NW mv),(5,(.own 900 0 acc.length)),(7,(.ptr 1 0 0)),(8,(.d (AF q.2))),(14,(.d (.sl none ((linL p).map K7)))),(15,(.d (AF ((linL p).length:Int)))),(16,(.d (AF (k:Int)))),(23,(.ptr 2 0 0))],HM3 p mv M++ [(900,[.rowD 205 7 (acc.map F6)]),(1,[.blk 218 [.d (AF (linL p)[k].r.k),.d (Al (linL p)[k].r.acc.o),.d (AF (linL p)[k].r.acc.k),.d (Al (linL p)[k].r.acc.a),.d (Al (linL p)[k].r.f),.d (Al (linL p)[k].r.t),.d (AF (linL p)[k].n),.d (.sl none ((linL p)[k].q.map AF))]]),(2,[.iter 12 0 M.length q.1])]⟩) (fun q=>q.2+Bz p (linL p)[k].r (EJ M (List.range M.length) q.1)=(linL p)[k].n+Bz p (linL p)[k].r M) (fun q=>(EJ M (List.range M.length) q.1).length) (([],(linL p)[k].n)) (by show (linL p)[k].n+Bz p (linL p)[k].r (EJ M (List.range M.length) [])=_;rw [Hu (by simp)]) (BS hF [10,11,12,13,900,1,2] Z Z ⟨rfl,rfl,rfl,rfl,rfl,rfl,rfl,rfl,rfl,trivial⟩) ?_))))))));rintro ⟨seen,left⟩ hI;dsimp only at hI⊢;refine AG (AJ (PQ (M) Z Z Z Z (fun hl24=>?_) (fun j24 b24 k24 v24 hm24 hb24 hB24 hp24=>⟨_,rfl,?_⟩)))
  ·have hfin:left=(linL p)[k].n+Bz p (linL p)[k].r M:=by have h1:=hI;rw [hl24] at h1;have h2:Bz p (linL p)[k].r []=0:=rfl;omega
   first | refine J (BU Z Z Z) ?_ | refine J (BV Z Z Z) ?_
   refine AI (AG (F4 Z Z (Ct (AG (AJ (AC Z Z ?_))))))
   first | refine J (Cc Z Z Z) ?_ | refine J (Cb Z Z Z) ?_
   refine AI ?_
   first | refine BP rfl (fun h42=>?_) (fun h42=>?_) | refine BK rfl (fun h42=>?_) (fun h42=>?_)
   ·refine AJ ?_;have hv4:=Rs p (linL p)[k].r hM;refine AC Z Z ?_
    first | refine J (AO rfl GP Z Z Z) ?_ | refine J (AQ rfl GP Z Z Z) ?_ | refine J (AR rfl GP Z Z Z) ?_ | refine J (AP rfl GP Z Z Z) ?_ | refine J (AN rfl GP Z Z Z) ?_
    first | refine J (At Z Z Ah rfl) ?_ | refine J (Au Z Z Ah Z Z Z) ?_ | refine J (Av Z Z (rfl) rfl Ah rfl) ?_
    refine AC Z Z (J (WR rfl (IntWalk.i64_in _ (by omega)) rfl) (J (DC Vt Wp Z Z Z) (G (Fg 3 T4 Z Z Z Z Z Z Z Z) ?_)))
    first | refine G (IX (acc) ([⟨(linL p)[k].r,0 - left⟩]) Z Z Z Z Z Z Z Z T4 (by simp only [List.length_singleton];omega) Z Z Z Z) ?_ | refine G (Kp (acc) ([⟨(linL p)[k].r,0 - left⟩]) Z Z Z Z Z Z (fun _=>rfl) T4 (by simp only [List.length_singleton];omega) Z Z Z Z) ?_
    refine AD Z Z (AI (AJ (J (By Z Z (Ad (k+1) (by omega)) rfl) (AC Z Z (AI ?_)))));exact ⟨(k+1,acc++ [⟨(linL p)[k].r,0 - left⟩]),⟨by show k+1≤_;omega,by show acc++ [⟨(linL p)[k].r,0 - left⟩]=((linL p).take (k+1)).flatMap (On p M);rw [Fz hk1,←hA];unfold On;rw [←hfin,if_pos (by simpa using h42)],by show (acc++ [_]).length≤k+1;rw [List.length_append];simp;omega⟩,by show (linL p).length - (k+1)<(linL p).length - k;omega,BS hF [10,11,12,13,900] rfl (rfl) ⟨rfl,rfl,rfl,rfl,rfl,rfl,trivial⟩⟩
   ·refine An (AJ (J (By Z Z (Ad (k+1) (by omega)) rfl) (AC Z Z (AI ?_))));exact ⟨(k+1,acc),⟨by show k+1≤_;omega,by show acc=((linL p).take (k+1)).flatMap (On p M);rw [Fz hk1,←hA];unfold On;rw [←hfin,if_neg (by simpa using h42),List.append_nil],by show acc.length≤k+1;omega⟩,by show (linL p).length - (k+1)<(linL p).length - k;omega,BS hF [10,11,12,13,900] rfl (rfl) ⟨rfl,rfl,rfl,rfl,rfl,rfl,trivial⟩⟩
  ·first | refine J (BU Z Z Z) ?_ | refine J (BV Z Z Z) ?_
   refine AI (AG (EL Z Z (An (Aw (AG (AJ (J (JW (M) j24 b24 Z Z Z hm24 hb24 rfl) ?_)))))))
   first | refine J (BU Z Z Z) ?_ | refine J (BV Z Z Z) ?_
   first | refine J (BU Z Z Z) ?_ | refine J (BV Z Z Z) ?_
   refine AD Z Z (AD Z Z (AI (AG (AJ (AC Z Z (AI ?_))))))
   first | refine BP rfl (fun h29=>?_) (fun h29=>?_) | refine BK rfl (fun h29=>?_) (fun h29=>?_)
   ·refine Gs [[],[],[1],[1,2],[1,2,3],[],[1,2,3,4,5],[],[7],[1,2,3,4,5,6,7,8],[0,1,2,3,4,5,6,7,8,9],[0,1,2,3,4,5,6,7,8,9,10]] BF rfl (IK ?_);have hb3:=Lg hb k24;have hv1:=Rs p (linL p)[k].r hM;have hv2:=Rs p (linL p)[k].r (Nat.le_trans (lft_len (m:=M) (B:=List.range M.length) (seen:=seen)) hM);have hv3:=Sr (Ap p k24) (linL p)[k].r
    first | refine AE [8] [] Z Z (fun _=>AB (Bb Z Z)) ?_ | refine AH [8] Z Z (fun _=>AB (Bb Z Z)) ?_
    first | refine AE [0] [] Z Z (fun _=>AB (Bb Z Z)) ?_ | refine AH [0] Z Z (fun _=>AB (Bb Z Z)) ?_
    first | refine AE [31] [] Z Z (fun _=>AB (B1 Z Z)) ?_ | refine AH [31] Z Z (fun _=>AB (B1 Z Z)) ?_ | refine AE [31] [] Z Z (fun _=>AB (BY Z Z)) ?_ | refine AH [31] Z Z (fun _=>AB (BY Z Z)) ?_ | refine AE [31] [] Z Z (fun _=>AB (B2 Z Z)) ?_ | refine AH [31] Z Z (fun _=>AB (B2 Z Z)) ?_ | refine AE [31] [] Z Z (fun _=>AB (BZ Z Z)) ?_ | refine AH [31] Z Z (fun _=>AB (BZ Z Z)) ?_
    first | refine AE [32] [] Z Z (fun _=>AB (AO rfl FM Z Z Z)) ?_ | refine AH [32] Z Z (fun _=>AB (AO rfl FM Z Z Z)) ?_ | refine AE [32] [] Z Z (fun _=>AB (AQ rfl FM Z Z Z)) ?_ | refine AH [32] Z Z (fun _=>AB (AQ rfl FM Z Z Z)) ?_ | refine AE [32] [] Z Z (fun _=>AB (AR rfl FM Z Z Z)) ?_ | refine AH [32] Z Z (fun _=>AB (AR rfl FM Z Z Z)) ?_ | refine AE [32] [] Z Z (fun _=>AB (AP rfl FM Z Z Z)) ?_ | refine AH [32] Z Z (fun _=>AB (AP rfl FM Z Z Z)) ?_ | refine AE [32] [] Z Z (fun _=>AB (AN rfl FM Z Z Z)) ?_ | refine AH [32] Z Z (fun _=>AB (AN rfl FM Z Z Z)) ?_
    first | refine AE [33] [] Z Z (fun _=>AB (A0 Z Z CQ rfl)) ?_ | refine AH [33] Z Z (fun _=>AB (A0 Z Z CQ rfl)) ?_ | refine AE [33] [] Z Z (fun _=>AB (AX Z Z Z CQ rfl)) ?_ | refine AH [33] Z Z (fun _=>AB (AX Z Z Z CQ rfl)) ?_ | refine AE [33] [] Z Z (fun _=>AB (AZ Z Z (rfl) rfl CQ rfl)) ?_ | refine AH [33] Z Z (fun _=>AB (AZ Z Z (rfl) rfl CQ rfl)) ?_
    first | refine AE [9] [] Z Z (fun _=>AB (Bb Z Z)) ?_ | refine AH [9] Z Z (fun _=>AB (Bb Z Z)) ?_
    first | refine AE [34,35] [] Z Z (fun _=>AB (JV (Bu p.it) k24 itm0 (Ap p k24) Z Z Z LC KI U1 D6 (Hw p k24) rfl)) ?_ | refine AH [34,35] Z Z (fun _=>AB (JV (Bu p.it) k24 itm0 (Ap p k24) Z Z Z LC KI U1 D6 (Hw p k24) rfl)) ?_
    first | refine AE [7] [] Z Z (fun _=>AB (AO rfl GP Z Z Z)) ?_ | refine AH [7] Z Z (fun _=>AB (AO rfl GP Z Z Z)) ?_ | refine AE [7] [] Z Z (fun _=>AB (AQ rfl GP Z Z Z)) ?_ | refine AH [7] Z Z (fun _=>AB (AQ rfl GP Z Z Z)) ?_ | refine AE [7] [] Z Z (fun _=>AB (AR rfl GP Z Z Z)) ?_ | refine AH [7] Z Z (fun _=>AB (AR rfl GP Z Z Z)) ?_ | refine AE [7] [] Z Z (fun _=>AB (AP rfl GP Z Z Z)) ?_ | refine AH [7] Z Z (fun _=>AB (AP rfl GP Z Z Z)) ?_ | refine AE [7] [] Z Z (fun _=>AB (AN rfl GP Z Z Z)) ?_ | refine AH [7] Z Z (fun _=>AB (AN rfl GP Z Z Z)) ?_
    first | refine AE [37] [] Z Z (fun _=>AB (At Z Z Ah rfl)) ?_ | refine AH [37] Z Z (fun _=>AB (At Z Z Ah rfl)) ?_ | refine AE [37] [] Z Z (fun _=>AB (Au Z Z Ah Z Z Z)) ?_ | refine AH [37] Z Z (fun _=>AB (Au Z Z Ah Z Z Z)) ?_ | refine AE [37] [] Z Z (fun _=>AB (Av Z Z (rfl) rfl Ah rfl)) ?_ | refine AH [37] Z Z (fun _=>AB (Av Z Z (rfl) rfl Ah rfl)) ?_
    first | refine AE [36,38] [] Z Z (fun _=>AB (BO (Jv (Ap p k24) (linL p)[k].r (by omega) (by omega) (by omega)) Z Z)) ?_ | refine AH [36,38] Z Z (fun _=>AB (BO (Jv (Ap p k24) (linL p)[k].r (by omega) (by omega) (by omega)) Z Z)) ?_
    refine Gf 10 Z Z Z (BE 11 Z Z (J (By Z Z (IntWalk.i64_in _ (by omega)) rfl) (AI ⟨rfl,?_⟩)));refine BE 12 Z Z (AD Z Z (AI ⟨rfl,?_⟩));refine Ge ?_;exact ⟨(seen++ [b24],left+CO (Ap p k24) (linL p)[k].r),(by show left+CO (Ap p k24) (linL p)[k].r+Bz p (linL p)[k].r (EJ M (List.range M.length) (seen++ [b24]))=_;rw [←hI,Hj hp24,I1,if_pos (by simpa using h29)];omega),by show (EJ M (List.range M.length) (seen++ [b24])).length<(EJ M (List.range M.length) seen).length;rw [hp24.length_eq];exact Nat.lt_succ_self _,BS hF [10,11,12,13,900,1,2] rfl (rfl) ⟨rfl,rfl,rfl,rfl,rfl,rfl,rfl,rfl,rfl,trivial⟩⟩
   ·refine An ?_;exact ⟨(seen++ [b24],left),(by show left+Bz p (linL p)[k].r (EJ M (List.range M.length) (seen++ [b24]))=_;rw [←hI,Hj hp24,I1,if_neg (by simpa using h29)];omega),by show (EJ M (List.range M.length) (seen++ [b24])).length<(EJ M (List.range M.length) seen).length;rw [hp24.length_eq];exact Nat.lt_succ_self _,BS hF [10,11,12,13,900,1,2] rfl (rfl) ⟨rfl,rfl,rfl,rfl,rfl,rfl,rfl,rfl,rfl,trivial⟩⟩
 ·refine Ct (AG ?_);have hfa:acc=Eq p M:=by rw [hA,List.take_of_length_le (by have h:=h17;omega)];rfl
  refine Vn (emb:=F6) 5 900 acc Z Z Z Z Z Z Z (AJ (AC Z Z (AD Z Z (AI (Af ?_)))));exact ⟨_,[10,11,12,13],_,Ae rfl,rfl,rfl,by rw [hfa],rfl⟩
def DJ (l:List Int) (x:Int):Bool:=decide (x∈l)
theorem Tz (l:List Int):inM (Aj l)=DJ l:=funext fun x=>by unfold inM DJ;exact Dx l x
theorem Vd (p:Prb) (l:List Int) (hb:Cu p) (hl:l.length≤1000) (h1:p.it.length≤1000) (h2:p.ro.length≤1000):AT Tryz.prog 160 [.d (CT p),.d (.sl none (l.map AF))] (.tup [.sl none ((if E7 p l=0 then CE p (DJ l) else []).map NA),AF (E7 p l)]):=by
 by_cases hE:E7 p l=0
 ·have hpr:=(Id p l hb (by omega) hE).by [(2,12)] rfl;rw [if_pos hE,hE];have hbk:=fun mv=>R5 p mv (some (List.range (Aj l).length,(Aj l).length)) (Aj l) hb h1 h2;rw [Tz] at hbk;refine B6 Tryz.func160 Z Z Tryz.ntmps160 Z Z Z fun F hF=>(AG (AJ (G (CV 1 Z Z Z Z Z Z Z) (AD Z Z (AD Z Z (AI (AG (AJ ?_))))))))
  first | refine J (At Z Z A2 rfl) ?_ | refine J (Au Z Z A2 Z Z Z) ?_ | refine J (Av Z Z (rfl) rfl A2 rfl) ?_
  refine AC Z Z (G (IL hpr rfl [10,11,12] ⟨rfl,rfl,rfl,trivial⟩ Z Z Z Z Z Z Z Z Z) (AC Z Z ?_))
  first | refine J (BU Z Z Z) ?_ | refine J (BV Z Z Z) ?_
  first | refine J (BU Z Z Z) ?_ | refine J (BV Z Z Z) ?_
  first | refine J (BU Z Z Z) ?_ | refine J (BV Z Z Z) ?_
  refine AD Z Z (AD Z Z (AD Z Z (AI (AG (AG (AJ (AC Z Z ?_)))))))
  first | refine J (Ec Z Z Z) ?_ | refine J (Eb Z Z Z) ?_ | refine J (EV Z Z Z) ?_ | refine J (E8 Tryz.underlying34 Z Z Z) ?_ | refine J (Ea Tryz.underlying34 Z Z Z) ?_ | refine J (st_neqN Tryz.underlying34 Z Z) ?_ | refine J (E9 Tryz.underlying34 Z Z Z) ?_ | refine J (st_neqFN Tryz.underlying34 Z Z) ?_
  refine AI (F4 rfl ((by decide)) (An (AG (NG 13 12 0 Z Z Z Z Z fun mv=>?_))));refine Pk 7 13 0 (.inl rfl) rfl (AJ (AC Z Z (AC Z Z (G (IL (hbk mv) rfl [10,11,12,13] ⟨rfl,rfl,rfl,rfl,trivial⟩ Z Z Z Z Z Z Z Z Z) (AD Z Z (AD Z Z (AI (Af ?_))))))));exact ⟨_,[],[],Ae rfl,rfl,rfl,rfl,rfl⟩
 ·have hpr:=HG p l hb (by omega) hE;rw [if_neg hE];refine B6 Tryz.func160 Z Z Tryz.ntmps160 Z Z Z fun F hF=>?_;refine AG (AJ (G (CV 1 Z Z Z Z Z Z Z) (AD Z Z (Ro 4 rfl (AD Z Z (AI (AG (AJ ?_))))))))
  first | refine J (At Z Z A2 rfl) ?_ | refine J (Au Z Z A2 Z Z Z) ?_ | refine J (Av Z Z (rfl) rfl A2 rfl) ?_
  refine AC Z Z (J (BO (hpr) Z Z) (AC Z Z ?_))
  first | refine J (BU Z Z Z) ?_ | refine J (BV Z Z Z) ?_
  first | refine J (BU Z Z Z) ?_ | refine J (BV Z Z Z) ?_
  first | refine J (BU Z Z Z) ?_ | refine J (BV Z Z Z) ?_
  refine AD Z Z (AD Z Z (AD Z Z (AI (AG (AG (AJ (AC Z Z ?_)))))))
  first | refine J (Ec Z Z Z) ?_ | refine J (Eb Z Z Z) ?_ | refine J (EV Z Z Z) ?_ | refine J (E8 Tryz.underlying34 Z Z Z) ?_ | refine J (Ea Tryz.underlying34 Z Z Z) ?_ | refine J (st_neqN Tryz.underlying34 Z Z) ?_ | refine J (E9 Tryz.underlying34 Z Z Z) ?_ | refine J (st_neqFN Tryz.underlying34 Z Z) ?_
  refine AI ?_;refine EL rfl ((decide_eq_true hE)) (AG (AJ (AC Z Z (AD Z Z (Ro 4 rfl (AD Z Z (AI (Af ?_))))))));exact ⟨_,[],[],Ae rfl,rfl,rfl,rfl,rfl⟩
theorem admF_p (p:Prb) (l:List Int) (hb:Cu p) (hl:l.length≤1000) (h1:p.it.length≤1000) (h2:p.ro.length≤1000):AT Tryz.prog 114 [.d (CT p),.d (.sl none (l.map AF))] (.tup [B5 (decide (E7 p l=0∧CE p (DJ l)=[])),AF (E7 p l)]):=by
 have hbk:=Vd p l hb hl h1 h2;refine B6 Tryz.func114 Z Z Tryz.ntmps114 Z Z Z fun F hF=>(AG (AJ (G (CV 1 Z Z Z Z Z Z Z) (AD Z Z (AD Z Z (AI (AG (AJ ?_))))))))
 first | refine J (At Z Z A2 rfl) ?_ | refine J (Au Z Z A2 Z Z Z) ?_ | refine J (Av Z Z (rfl) rfl A2 rfl) ?_
 refine AC Z Z (J (BO (hbk) Z Z) (AC Z Z ?_))
 first | refine J (BU Z Z Z) ?_ | refine J (BV Z Z Z) ?_
 first | refine J (BU Z Z Z) ?_ | refine J (BV Z Z Z) ?_
 refine AD Z Z (AD Z Z (AI (AG (AJ (AC Z Z ?_)))))
 first | refine J (EX Z Z Z) ?_ | refine J (EY Z Z Z) ?_ | refine J (EO Z Z Z) ?_ | refine J (ER Tryz.underlying34 Z Z Z) ?_ | refine J (EU Tryz.underlying34 Z Z Z) ?_ | refine J (ET Tryz.underlying34 Z Z) ?_ | refine J (ES Tryz.underlying34 Z Z Z) ?_ | refine J (EW Tryz.underlying34 Z Z) ?_
 refine AC Z Z ?_
 first | refine JH 16 rfl (fun h16=>?_) (fun h16=>?_) | refine IW 16 rfl (fun h16=>?_) (fun h16=>?_)
 ·refine A9 Z Z Z (AC Z Z (A9 Z Z Z ?_))
  first | refine J (Co rfl Tryz.underlying225 rfl) ?_ | refine J (C1 Z Z Tryz.underlying225 rfl) ?_ | refine J (Cp rfl Tryz.underlying225 rfl) ?_ | refine J (Cn rfl Tryz.underlying225 rfl) ?_ | refine J (Ca rfl Tryz.underlying225 rfl) ?_ | refine J (Ck rfl Tryz.underlying225 rfl) ?_
  refine A9 Z Z Z ?_
  first | refine J (EX Z Z Z) ?_ | refine J (EY Z Z Z) ?_ | refine J (EO Z Z Z) ?_ | refine J (ER Tryz.underlying3 Z Z Z) ?_ | refine J (EU Tryz.underlying3 Z Z Z) ?_ | refine J (ET Tryz.underlying3 Z Z) ?_ | refine J (ES Tryz.underlying3 Z Z Z) ?_ | refine J (EW Tryz.underlying3 Z Z) ?_
  refine J (DX Z Z Z Z) (AC Z Z (AD Z Z (AD Z Z (AI (Af ?_)))));exact ⟨_,[],[],Ae rfl,rfl,rfl,Ta (by first | (rw [Bool.eq_iff_iff];simp [h16,List.length_eq_zero_iff];done) | (rw [Bool.eq_iff_iff];simp_all)),rfl⟩
 ·refine Ac Z Z Z Z (Ac Z Z Z Z (Ac Z Z Z Z (J (EG Z Z Z Z) (AC Z Z (AD Z Z (AD Z Z (AI (Af ?_))))))));exact ⟨_,[],[],Ae rfl,rfl,rfl,Ta (by first | (rw [Bool.eq_iff_iff];simp [h16,List.length_eq_zero_iff];done) | (rw [Bool.eq_iff_iff];simp_all)),rfl⟩
theorem violF_p (p:Prb) (l:List Int) (hb:Cu p) (hl:l.length≤1000):AT Tryz.prog 110 [.d (CT p),.d (.sl none (l.map AF))] (.tup [.sl none ((if E7 p l=0 then Eq p (Aj l) else []).map F6),AF (E7 p l)]):=by
 by_cases hE:E7 p l=0
 ·have hpr:=(Id p l hb (by omega) hE).by [(2,12)] rfl;have h0:=R2 hE;rw [if_pos hE,hE];have hbk:=fun mv=>JN p mv (Aj l) h0 hb (by unfold Aj;rw [List.length_map];exact hl);refine B6 Tryz.func110 Z Z Tryz.ntmps110 Z Z Z fun F hF=>(AG (AJ (G (CV 1 Z Z Z Z Z Z Z) (AD Z Z (AD Z Z (AI (AG (AJ ?_))))))))
  first | refine J (At Z Z A2 rfl) ?_ | refine J (Au Z Z A2 Z Z Z) ?_ | refine J (Av Z Z (rfl) rfl A2 rfl) ?_
  refine AC Z Z (G (IL hpr rfl [10,11,12] ⟨rfl,rfl,rfl,trivial⟩ Z Z Z Z Z Z Z Z Z) (AC Z Z ?_))
  first | refine J (BU Z Z Z) ?_ | refine J (BV Z Z Z) ?_
  first | refine J (BU Z Z Z) ?_ | refine J (BV Z Z Z) ?_
  first | refine J (BU Z Z Z) ?_ | refine J (BV Z Z Z) ?_
  refine AD Z Z (AD Z Z (AD Z Z (AI (AG (AG (AJ (AC Z Z ?_)))))))
  first | refine J (Ec Z Z Z) ?_ | refine J (Eb Z Z Z) ?_ | refine J (EV Z Z Z) ?_ | refine J (E8 Tryz.underlying34 Z Z Z) ?_ | refine J (Ea Tryz.underlying34 Z Z Z) ?_ | refine J (st_neqN Tryz.underlying34 Z Z) ?_ | refine J (E9 Tryz.underlying34 Z Z Z) ?_ | refine J (st_neqFN Tryz.underlying34 Z Z) ?_
  refine AI (F4 rfl ((by decide)) (An (AG (NG 13 12 0 Z Z Z Z Z fun mv=>?_))));refine Pk 7 13 0 (.inl rfl) rfl (AJ (AC Z Z (AC Z Z (G (IL (hbk mv) rfl [10,11,12,13] ⟨rfl,rfl,rfl,rfl,trivial⟩ Z Z Z Z Z Z Z Z Z) (AD Z Z (AD Z Z (AI (Af ?_))))))));exact ⟨_,[],[],Ae rfl,rfl,rfl,rfl,rfl⟩
 ·have hpr:=HG p l hb (by omega) hE;rw [if_neg hE];refine B6 Tryz.func110 Z Z Tryz.ntmps110 Z Z Z fun F hF=>?_;refine AG (AJ (G (CV 1 Z Z Z Z Z Z Z) (AD Z Z (Ro 4 rfl (AD Z Z (AI (AG (AJ ?_))))))))
  first | refine J (At Z Z A2 rfl) ?_ | refine J (Au Z Z A2 Z Z Z) ?_ | refine J (Av Z Z (rfl) rfl A2 rfl) ?_
  refine AC Z Z (J (BO (hpr) Z Z) (AC Z Z ?_))
  first | refine J (BU Z Z Z) ?_ | refine J (BV Z Z Z) ?_
  first | refine J (BU Z Z Z) ?_ | refine J (BV Z Z Z) ?_
  first | refine J (BU Z Z Z) ?_ | refine J (BV Z Z Z) ?_
  refine AD Z Z (AD Z Z (AD Z Z (AI (AG (AG (AJ (AC Z Z ?_)))))))
  first | refine J (Ec Z Z Z) ?_ | refine J (Eb Z Z Z) ?_ | refine J (EV Z Z Z) ?_ | refine J (E8 Tryz.underlying34 Z Z Z) ?_ | refine J (Ea Tryz.underlying34 Z Z Z) ?_ | refine J (st_neqN Tryz.underlying34 Z Z) ?_ | refine J (E9 Tryz.underlying34 Z Z Z) ?_ | refine J (st_neqFN Tryz.underlying34 Z Z) ?_
  refine AI ?_;refine EL rfl ((decide_eq_true hE)) (AG (AJ (AC Z Z (AD Z Z (Ro 4 rfl (AD Z Z (AI (Af ?_))))))));exact ⟨_,[],[],Ae rfl,rfl,rfl,rfl,rfl⟩
theorem UG (p:Prb) (l:List Int) (hb:Cu p) (hl:l.length≤1000) (h1:p.it.length≤1000) (h2:p.ro.length≤1000):AT Tryz.prog 113 [.d (CT p),.d (.sl none (l.map AF))] (.tup [B5 (decide (E7 p l=0∧CE p (DJ l)=[]∧Eq p (Aj l)=[])),AF (E7 p l)]):=by
 by_cases hE:E7 p l=0
 ·have hpr:=(Id p l hb (by omega) hE).by [(2,12)] rfl;have h0:=R2 hE;have hbk:=fun mv=>R5 p mv (some (List.range (Aj l).length,(Aj l).length)) (Aj l) hb h1 h2;rw [Tz] at hbk;have hvk:=fun mv=>JN p mv (Aj l) h0 hb (by unfold Aj;rw [List.length_map];exact hl);rw [hE];refine B6 Tryz.func113 Z Z Tryz.ntmps113 Z Z Z fun F hF=>(AG (AJ (G (CV 1 Z Z Z Z Z Z Z) (AD Z Z (AD Z Z (AI (AG (AJ ?_))))))))
  first | refine J (At Z Z A2 rfl) ?_ | refine J (Au Z Z A2 Z Z Z) ?_ | refine J (Av Z Z (rfl) rfl A2 rfl) ?_
  refine AC Z Z (G (IL hpr rfl [10,11,12] ⟨rfl,rfl,rfl,trivial⟩ Z Z Z Z Z Z Z Z Z) (AC Z Z ?_))
  first | refine J (BU Z Z Z) ?_ | refine J (BV Z Z Z) ?_
  first | refine J (BU Z Z Z) ?_ | refine J (BV Z Z Z) ?_
  first | refine J (BU Z Z Z) ?_ | refine J (BV Z Z Z) ?_
  refine AD Z Z (AD Z Z (AD Z Z (AI (AG (AG (AJ (AC Z Z ?_)))))))
  first | refine J (Ec Z Z Z) ?_ | refine J (Eb Z Z Z) ?_ | refine J (EV Z Z Z) ?_ | refine J (E8 Tryz.underlying34 Z Z Z) ?_ | refine J (Ea Tryz.underlying34 Z Z Z) ?_ | refine J (st_neqN Tryz.underlying34 Z Z) ?_ | refine J (E9 Tryz.underlying34 Z Z Z) ?_ | refine J (st_neqFN Tryz.underlying34 Z Z) ?_
  refine AI ?_;refine F4 rfl ((by decide)) (An (AG (NG 13 12 0 Z Z Z Z Z fun mv=>(Pk 7 13 0 (.inl rfl) rfl (AJ (AC Z Z (AC Z Z (G (IL (hbk mv) rfl [10,11,12,13] ⟨rfl,rfl,rfl,rfl,trivial⟩ Z Z Z Z Z Z Z Z Z) ?_))))))))
  first | refine J (Co rfl Tryz.underlying225 rfl) ?_ | refine J (C1 Z Z Tryz.underlying225 rfl) ?_ | refine J (Cp rfl Tryz.underlying225 rfl) ?_ | refine J (Cn rfl Tryz.underlying225 rfl) ?_ | refine J (Ca rfl Tryz.underlying225 rfl) ?_ | refine J (Ck rfl Tryz.underlying225 rfl) ?_
  first | refine J (EX Z Z Z) ?_ | refine J (EY Z Z Z) ?_ | refine J (EO Z Z Z) ?_ | refine J (ER Tryz.underlying3 Z Z Z) ?_ | refine J (EU Tryz.underlying3 Z Z Z) ?_ | refine J (ET Tryz.underlying3 Z Z) ?_ | refine J (ES Tryz.underlying3 Z Z Z) ?_ | refine J (EW Tryz.underlying3 Z Z) ?_
  refine AC Z Z ?_
  first | refine JH 24 rfl (fun h24=>?_) (fun h24=>?_) | refine IW 24 rfl (fun h24=>?_) (fun h24=>?_)
  ·refine A9 Z Z Z (AC Z Z (A9 Z Z Z (AC Z Z (A9 Z Z Z (G (IL (hvk mv) rfl [10,11,12,13] ⟨rfl,rfl,rfl,rfl,trivial⟩ Z Z Z Z Z Z Z Z Z) (A9 Z Z Z ?_))))))
   first | refine J (Co rfl Tryz.underlying201 rfl) ?_ | refine J (C1 Z Z Tryz.underlying201 rfl) ?_ | refine J (Cp rfl Tryz.underlying201 rfl) ?_ | refine J (Cn rfl Tryz.underlying201 rfl) ?_ | refine J (Ca rfl Tryz.underlying201 rfl) ?_ | refine J (Ck rfl Tryz.underlying201 rfl) ?_
   refine A9 Z Z Z ?_
   first | refine J (EX Z Z Z) ?_ | refine J (EY Z Z Z) ?_ | refine J (EO Z Z Z) ?_ | refine J (ER Tryz.underlying3 Z Z Z) ?_ | refine J (EU Tryz.underlying3 Z Z Z) ?_ | refine J (ET Tryz.underlying3 Z Z) ?_ | refine J (ES Tryz.underlying3 Z Z Z) ?_ | refine J (EW Tryz.underlying3 Z Z) ?_
   refine J (DX Z Z Z Z) (AD Z Z (AD Z Z (AI (Af ?_))));exact ⟨_,[],[],Ae rfl,rfl,rfl,Ta (by first | (rw [Bool.eq_iff_iff];simp_all [List.length_eq_zero_iff];done) | (rw [Bool.eq_iff_iff];simp_all)),rfl⟩
  ·refine Ac Z Z Z Z ?_;refine Ac Z Z Z Z (Ac Z Z Z Z (Ac Z Z Z Z (Ac Z Z Z Z (J (EG Z Z Z Z) (AD Z Z (AD Z Z (AI (Af ?_))))))));exact ⟨_,[],[],Ae rfl,rfl,rfl,Ta (by first | (rw [Bool.eq_iff_iff];simp_all [List.length_eq_zero_iff];done) | (rw [Bool.eq_iff_iff];simp_all)),rfl⟩
 ·have hpr:=HG p l hb (by omega) hE;refine B6 Tryz.func113 Z Z Tryz.ntmps113 Z Z Z fun F hF=>(AG (AJ (G (CV 1 Z Z Z Z Z Z Z) (AD Z Z (AD Z Z (AI (AG (AJ ?_))))))))
  first | refine J (At Z Z A2 rfl) ?_ | refine J (Au Z Z A2 Z Z Z) ?_ | refine J (Av Z Z (rfl) rfl A2 rfl) ?_
  refine AC Z Z (J (BO (hpr) Z Z) (AC Z Z ?_))
  first | refine J (BU Z Z Z) ?_ | refine J (BV Z Z Z) ?_
  first | refine J (BU Z Z Z) ?_ | refine J (BV Z Z Z) ?_
  first | refine J (BU Z Z Z) ?_ | refine J (BV Z Z Z) ?_
  refine AD Z Z (AD Z Z (AD Z Z (AI (AG (AG (AJ (AC Z Z ?_)))))))
  first | refine J (Ec Z Z Z) ?_ | refine J (Eb Z Z Z) ?_ | refine J (EV Z Z Z) ?_ | refine J (E8 Tryz.underlying34 Z Z Z) ?_ | refine J (Ea Tryz.underlying34 Z Z Z) ?_ | refine J (st_neqN Tryz.underlying34 Z Z) ?_ | refine J (E9 Tryz.underlying34 Z Z Z) ?_ | refine J (st_neqFN Tryz.underlying34 Z Z) ?_
  refine AI (EL rfl ((decide_eq_true hE)) (AG (AJ (AC Z Z (AD Z Z (AD Z Z (AI (Af ?_))))))));exact ⟨_,[],[],Ae rfl,rfl,rfl,by rw [decide_eq_false (fun h=>hE h.1)],rfl⟩
theorem PC.le {γ:Type} {c:γ ->γ ->Int} (h:PC c) {x y z:γ} (h1:c x y≤0) (h2:c y z≤0):c x z≤0:=by
 by_cases e1:c x y=0
 ·rw [h.eqv x y z e1];exact h2
 ·by_cases e2:c y z=0
  ·have a1:=h.anti y z;have e3:c z y=0:=by omega
   have a2:=h.eqv z y x e3;have a3:=h.anti z x;have a4:=h.anti y x;omega
  ·have:=h.trans x y z (by omega) (by omega);omega
theorem Pd {a b:Int}:¬Dc b a<0↔a≤b:=by unfold Dc;split<;>(try split)<;>omega
theorem Lu {l ys:List Int} (h1:ys.Perm l) (h2:ys.Pairwise fun a b=>¬Dc b a<0):ys=CW l:=
 List.Perm.eq_of_pairwise (le:=fun a b:Int=>a≤b) (fun a b _ _ g1 g2=>by omega) (h2.imp fun h=>Pd.1 h) (GT l) (h1.trans (Zdb l).symm)
theorem X1 {p:Prb} (hp:Ab p=0) {ys:List Roo} (h1:ys.Perm p.ro) (h2:ys.Pairwise fun a b=>¬Bv b.r a.r<0):ys=VO p.ro:=
 T9 Roo.r (Ky (N8 hp).1) (DE p.ro) (LD p.ro) h1 h2
theorem Sj {p:Prb} (hp:Ab p=0) {x:AU} (hx:x∈p.it):Ap p x.id=x:=by
 obtain ⟨hk,_,e,e2⟩:=Jk (p:=p) (List.mem_map.2 ⟨x,hx,rfl⟩);exact UA (YV (N8 hp).2.1) (by rw [e];exact List.getElem_mem hk) hx e2
theorem QU {i:Int} {q:List Int} (h:i∈q):prefN i q=q.idxOf i:=by unfold prefN Xa;rw [if_pos h];omega
structure PV (p:Prb):Prop where
 e:Ab p=0
 b:Cu p
 i:p.it.length≤1000
 r:p.ro.length≤1000
 q:∀i∈p.it,i.po.length≤1000∧i.pa.length≤1000∧i.af.length≤1000
end Go.Proofs.YtnkkaeblokdifaaGreat
