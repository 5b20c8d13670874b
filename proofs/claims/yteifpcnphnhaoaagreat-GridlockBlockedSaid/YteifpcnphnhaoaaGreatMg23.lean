import Derived.Test.YteifpcnphnhaoaaGreatMg22
import Derived.Shelf.SortG.Plain
import Derived.Shelf.SortG.SortNone
namespace Go.Proofs.YteifpcnphnhaoaaGreat
open Go.RowKit Go.Shelf
open Go.Sort (putRow Holds putCells)
def Cf (l:List Int):List Int:=l.mergeSort fun x y=>decide (x≤y)
theorem dM (l:List Int):(Cf l).Perm l:=List.mergeSort_perm l _
theorem Ed (l:List Int):(Cf l).length=l.length:=(dM l).length_eq
theorem JP (l:List Int):(Cf l).Pairwise (· ≤ ·):=by
 have:=List.pairwise_mergeSort (le:=fun x y:Int=>decide (x≤y)) (fun a b c h1 h2=>by simp only [ωs] at*;omega) (fun a b=>by simp only [Bool.or_eq_true,ωs];omega) l;exact this.imp fun h=>by simpa using h
abbrev zD (z:Int):D:= .raw (.int .i64 z)
variable {P:Program} {ρr:Ren}
theorem RJ (L:SlLaysN.n53 P ρr) {E:TypeId} {g53:FuncId} (xs:List Int) (hsz:xs.length<4611686018427387904) {F:Fr} {s:AS} {d:Nat} {x:Operand} {ty:TypeId} {pos:String} {aft:Array Edge} {gd:Option (Nat×Bool)} {at_:Array TypeId} {f n:Nat} {row:List D} {hp':Hp}
  (hg:ρr.f 53=g53) (hx:s.ev x=some (.own f 0 n)) (ho:hget s.hp f 0=some (.rowD E 1 row)) (hrow:row=xs.map zD) (hn:n=xs.length) (hh:BL s.hp f 0 (.rowD E 1 ((Cf xs).map zD))=some hp') (hd:Nat.blt d s.n=true):
  AI P F ⟨some d,.call {callee:= .value (.func g53),args:= #[x],argTypes:=at_},ty,pos,aft,gd⟩ s ⟨s.n,(d,.d (.tup []))::s.env,hp'⟩ (fun _ _=>true):=by
 subst hg hrow hn;intro ρ act w hs
 obtain ⟨fn6,hf1,hf2,hf3⟩:∃fn,P.funcs[ρr.f 53]? =some fn∧(fn.name== "runtime.NumGoroutine")=false∧fn.body.isSome=true:=by
  obtain ⟨nm,hn,hf⟩:=L.f53;exact ⟨_,hf,hn,Z⟩
 unfold Oper.wp;rw [show (#[x]:Array Operand)=[x].toArray from rfl,DI hf1 hf2 hf3,Oper.upon_enter]
 suffices key:Calls P (ρr.f 53) ([x].map act.eval).toArray w fun e w'=>e= .returned (.tuple #[])∧SR F ⟨s.n,s.env,hp'⟩ ρ act w' by
  refine key.mono fun e w' ⟨e1,hsr⟩=>?_;subst e1;exact ⟨ρ,hsr.put (I1 hd) (.d (.tup Z fun i c v hc=>by cases hc)),fun _ _ _=>rfl⟩
 have r0:=hs.ev hx;have hg0:=ho;have h3:=hs.heap;have hset:=Ak hh;obtain ⟨us,q1,q2,q3⟩:=h3.sim f 0 _ hg0;show Calls P (ρr.f 53) #[act.eval x] w _
 generalize act.eval x=V0 at r0
 cases r0 with
 | own hρ hle=>
  rename_i N cap a
  by_cases hx:xs=[]
  ·subst hx;refine (AnyG.slices_Sort_int_none L a cap w).mono fun e w' ⟨e1,e2⟩=>?_;subst e1 e2;refine ⟨Z,hs.writeG f 0 _ _ ho hset Z Z Z (ϖ _) (ϖ _) (fun _ _ _=>rfl) (fun _ _ e=>by cases e) fun hrep=>?_⟩;have h0:Cf []=[]:=by simp [Cf]
   rw [h0];exact ⟨us,q1,⟨by simpa using q2.1,fun x hx=>(by cases hx),fun i x hx=>by simp at hx⟩,fun x hx=>(by cases hx)⟩
  ·have hn:0<xs.length:=χh.2 hx;have hul:us.length=xs.length:=by have:=q2.1;rw [ψ] at this;omega
   have hblkeq:∃b cur,a=some ⟨b,0,none⟩∧w.heap[b]? =some (.cells cur E (0,0))∧cur.size=cap∧xs.length≤cap∧cap≤maxLen∧cur.toList.take xs.length=us∧N=xs.length:=by
    rcases q1.2 with ⟨_,h⟩ | ⟨b,cap',cur,e1,_,e2,e3,e4,e5,e6⟩
    ·rw [ψ] at h;omega
    ·rw [hρ] at e1;injection e1 with e1 e7 e8
     subst e1 e8;rw [ψ] at e3 e6 e7;exact ⟨b,cur,Z,e2,by omega,e3,e4,by rw [χu] at e6;exact e6,e7⟩
   obtain ⟨b,cur,rfl,p1,p2,p3,p3',p4,rfl⟩:=hblkeq;have hb:B7 (ρ f 0)=some b:=by rw [hρ];rfl
   have hlt:b<w.heap.size:=(ωu.1 p1).1
   have hus:∀i (hi:i<xs.length),us[i]? =some (.int .i64 xs[i]):=fun i hi=>by
    have hm:(xs.map zD)[i]? =some (zD xs[i]):=by rw [η,ω hi];rfl
    obtain ⟨u,hu,_,hr⟩:=q2.2.2 i _ hm 0 (zD xs[i]) rfl;rw [χu,χn] at hu
    cases hr with
    | raw _=>exact hu
   have hH:Holds (Value.int .i64) w b 0 xs.toArray:=by
    intro j hj;have hj:j<xs.length:=by simpa using hj
    refine ⟨?_,?_⟩
    ·have hju:us[j]? =cur.toList[j]?:=by rw [←p4,ψg hj]
     simp only [World.cell?,p1,ψs];have h1:=hus j hj;rw [hju] at h1;rw [getElem!_pos _ j (by simpa using hj)];have hjc:j<cur.size:=by simpa using (χ.1 h1).1
     simp only [List.getElem_toArray]
     simp [hjc] at h1⊢
     exact h1
    ·simp only [World.frozen?,p1];simp
   have key:=AnyG.slices_Sort_int L b 0 cap xs w hH hlt hsz;refine key.mono fun e w' ⟨e1,nd,os,hw⟩=>?_;subst e1 hw
   obtain ⟨ys,hys⟩:∃ys,Cf xs=ys:=⟨_,Z⟩
   have hys':(xs.mergeSort fun x y=>decide (x≤y))=ys:=hys;have hyl:ys.length=xs.length:=by rw [←hys,Ed]
   rw [hys] at hset hh;rw [hys'];refine ⟨Z,?_⟩;have hsz2:((putRow (Value.int .i64) (Go.Sort.ahead w nd) b 0 ys.toArray)).heap.size=w.heap.size:=by rw [Go.Sort.size_putRow];rfl
   have hoth:∀b',b'<w.heap.size ->b'≠b ->(Go.Sort.grow (putRow (Value.int .i64) (Go.Sort.ahead w nd) b 0 ys.toArray) os).heap[b']? =w.heap[b']?:=fun b' hl hne=>by
    rw [Go.Sort.heap_grow_old _ _ (by rw [hsz2];exact hl)];show (w.heap.modify b _)[b']? =_;rw [ψw,ϑ (Ne.symm hne)]
   refine hs.writeG f 0 _ _ ho hset Z Z Z (by rw [Go.Sort.size_grow,hsz2];exact Nat.le_add_right _ _) (Nat.le_add_right _ _) (fun b' hl hno=>hoth b' hl (fun e=>hno (by rw [e];exact hb))) (fun _ _ e=>by cases e) fun hrep=>?_
   have hheap:(Go.Sort.grow (putRow (Value.int .i64) (Go.Sort.ahead w nd) b 0 ys.toArray) os).heap[b]? =some (.cells (putCells (Value.int .i64) 0 ys.toArray cur) E (0,0)):=by
    rw [Go.Sort.heap_grow_old _ _ (by rw [hsz2];exact hlt)];show (w.heap.modify b _)[b]? =_;rw [ψw,θ Z,p1];rfl
   have hcs:(putCells (Value.int .i64) 0 ys.toArray cur).size=cap:=by simp only [putCells,Array.size_mapIdx];exact p2
   have hyl2:(ys.map zD).length=xs.length:=by rw [ψ,hyl]
   refine ⟨ys.map (Value.int .i64),⟨by rw [ψ,hyl2,hyl,χu],.inr ⟨b,cap,_,by rw [hρ,hyl2],Δ _,hheap,by rw [hyl2];exact p3,p3',by omega,?_⟩⟩,⟨by rw [ψ,hyl2,hyl,χu],fun x hx2=>?_,fun i x hx2 j c hc2=>?_⟩,fun x hx2 c hc2=>?_⟩
   ·rw [hyl2,χu]
    apply χs
    intro i
    by_cases hi:i<xs.length
    ·rw [ψg hi,ψn,η,ω (by omega),ωo (by omega)];simp only [putCells,Array.getElem_mapIdx];rw [θ ⟨Δ _,by simp;omega⟩];simp only [Nat.sub_zero,χb];rw [getElem!_pos _ i (by simp;omega)]
     simp
    ·rw [ωv (by rw [Υ];omega),ωv (by rw [ψ];omega)]
   ·obtain ⟨y,_,rfl⟩:=ν.1 hx2;rfl
   ·rw [η] at hx2
    cases hyi:ys[i]? with
    | none=>rw [hyi] at hx2;cases hx2
    | some y=>
     rw [hyi] at hx2;injection hx2 with hx2;subst hx2
     have hj0:j=0:=by have:=(χ.1 hc2).1;simp [D.cells] at this;exact this
     subst hj0;simp only [D.cells,List.getElem?_cons_zero,Option.some.injEq] at hc2;subst hc2;exact ⟨.int .i64 y,by rw [χu,χn,η,hyi];rfl,Z,.raw Z⟩
   ·obtain ⟨y,_,rfl⟩:=ν.1 hx2;simp only [D.cells,ξ] at hc2;subst hc2;rfl
end Go.Proofs.YteifpcnphnhaoaaGreat
namespace Go.Proofs.YteifpcnphnhaoaaGreat
open Go.RowKit
set_option maxRecDepth 100000
section
variable {P:Program} {F:Fr} {s:AS} {α β:Type} [DecidableEq α] {eK:α ->D} {eV:β ->D} {K:TypeId} {kv:α ->Value} {d:Nat} {ty T E:TypeId} {pos:String} {aft:Array Edge} {g:Option (Nat×Bool)} {x y z:Operand} {bs:Option (List Nat×Nat)}
theorem RO (m:List (α×β)) (a:α) (b0 v:β) {x0:D} {f i:Nat} (hx:s.ev x=some (.map f i)) (ho:hget s.hp f i=some (.map bs (BN eK eV m))) (hy:s.ev y=some (.d (eK a))) (hT:B3 P T K E=true) (KT:B8 P K eK kv) (hz:C8 P E=some (.d x0)) (hw:∀w O v,AQ w O x0 v ->AQ w O (eV b0) v) (hv:A2 m a b0=v) (hd:Nat.blt d s.n=true):
  AA P F ⟨some d,.lookup T x y false,ty,pos,aft,g⟩ s d (.d (eV v)):=
 C7 _ hd fun ρ act w hs=>by
  obtain ⟨mb,arr,c,e1,_,h1,h2,h3,_⟩:=hs.mapAt hx ho;have hk:act.eval y=kv a:=(hs.repD hy).val (KT.val a);obtain ⟨zv,hz1,hz2⟩:=Dv hz w
  have hz3:∀w' O ρ,AU w' O ρ (.d (eV b0)) zv:=fun w' O ρ=>by
   have:=hz2 w' O ρ
   cases this with
   | d h=>exact .d (hw _ _ _ h)
  subst hv;rcases hit_get KT h2 h3 a b0 with ⟨g1,_,g3,_⟩ | ⟨j,e,g1,g2,_,_,_,_,g7⟩
  ·refine ⟨zv,?_,by rw [g3];exact hz3 _ _ _⟩
   simp [execOp,Instr.lookup,run_underlying (VD hT),e1,hk,MapKept.run_getObj_map h1,KT.check,KT.find w a _ _ (Wn KT h2 h3),g1,hz1,Result.andThen]
  ·refine ⟨e.val,?_,.d g7⟩
   simp [execOp,Instr.lookup,run_underlying (VD hT),e1,hk,MapKept.run_getObj_map h1,KT.check,KT.find w a _ _ (Wn KT h2 h3),g1,Result.andThen]
theorem MY (m:List (α×β)) (a:α) (b0:β) {x0:D} {f i:Nat} (hx:s.ev x=some (.map f i)) (ho:hget s.hp f i=some (.map bs (BN eK eV m))) (hy:s.ev y=some (.d (eK a))) (hT:B3 P T K E=true) (KT:B8 P K eK kv) (hz:C8 P E=some (.d x0)) (hw:∀w O v,AQ w O x0 v ->AQ w O (eV b0) v) (hd:Nat.blt d s.n=true):
  AA P F ⟨some d,.lookup T x y true,ty,pos,aft,g⟩ s d (.tup [.d (eV (A2 m a b0)),.d (.raw (.bool (NA m a)))]):=
 C7 _ hd fun ρ act w hs=>by
  obtain ⟨mb,arr,c,e1,_,h1,h2,h3,_⟩:=hs.mapAt hx ho;have hk:act.eval y=kv a:=(hs.repD hy).val (KT.val a);obtain ⟨zv,hz1,hz2⟩:=Dv hz w
  have hz3:∀w' O ρ,AU w' O ρ (.d (eV b0)) zv:=fun w' O ρ=>by
   have:=hz2 w' O ρ
   cases this with
   | d h=>exact .d (hw _ _ _ h)
  have tup2:∀{v1 v2:Value} {a1 a2:AV},AU w (F.O ρ s.hp) ρ a1 v1 ->AU w (F.O ρ s.hp) ρ a2 v2 ->AU w (F.O ρ s.hp) ρ (.tup [a1,a2]) (.tuple #[v1,v2]):=fun {v1 v2 a1 a2} h1 h2=>by
   refine .tup (vs:=[v1,v2]) Z fun i a v ha hv=>?_;rcases i with _ | _ | i
   ·simp at ha hv;subst ha hv;exact h1
   ·simp at ha hv;subst ha hv;exact h2
   ·simp at ha
  rcases hit_get KT h2 h3 a b0 with ⟨g1,g2,g3,_⟩ | ⟨j,e,g1,g2,_,g4,_,_,g7⟩
  ·refine ⟨.tuple #[zv,.bool false],?_,tup2 (by rw [g3];exact hz3 _ _ _) (by rw [g2];exact .d (.raw Z))⟩
   simp [execOp,Instr.lookup,run_underlying (VD hT),e1,hk,MapKept.run_getObj_map h1,KT.check,KT.find w a _ _ (Wn KT h2 h3),g1,hz1,Result.andThen]
  ·refine ⟨.tuple #[e.val,.bool true],?_,tup2 (.d g7) (by rw [g4];exact .d (.raw Z))⟩
   simp [execOp,Instr.lookup,run_underlying (VD hT),e1,hk,MapKept.run_getObj_map h1,KT.check,KT.find w a _ _ (Wn KT h2 h3),g1,Result.andThen]
end
theorem G7:∀w O v,AQ w O (.agg [AF 0,AF 0,AF 0,.sl (some true) [],.sl (some true) [],.sl (some true) []]) v ->AQ w O (Ao itm0) v:=fun w O v h=>h.aggMono Z (by simp [D.one]) fun i c c' hc hc' v hv=>by
 match i,hc,hc' with
 | 0,hc,hc'=>injection hc with hc;injection hc' with hc';subst hc hc';exact hv
 | 1,hc,hc'=>injection hc with hc;injection hc' with hc';subst hc hc';exact hv
 | 2,hc,hc'=>injection hc with hc;injection hc' with hc';subst hc hc';exact hv
 | 3,hc,hc'=>injection hc with hc;injection hc' with hc';subst hc hc';exact hv.anyNil
 | 4,hc,hc'=>injection hc with hc;injection hc' with hc';subst hc hc';exact hv.anyNil
 | 5,hc,hc'=>injection hc with hc;injection hc' with hc';subst hc hc';exact hv.anyNil
def linR (l:List Roo):List Roo:=l.mergeSort fun a b=>decide (B9 a.r b.r≤0)
theorem De (l:List Roo):(linR l).Perm l:=List.mergeSort_perm l _
theorem bE (l:List Roo):(linR l).length=l.length:=(De l).length_eq
theorem cmpR_le {a b c:AP} (h1:B9 a b≤0) (h2:B9 b c≤0):B9 a c≤0:=by
 by_cases e1:B9 a b=0
 ·rw [DA.1 e1];exact h2
 ·by_cases e2:B9 b c=0
  ·rw [←DA.1 e2];exact h1
  ·have:=MI.trans a b c (by omega) (by omega);omega
theorem SL (l:List Roo):(linR l).Pairwise fun a b=>¬B9 b.r a.r<0:=by
 have:=List.pairwise_mergeSort (le:=fun a b:Roo=>decide (B9 a.r b.r≤0)) (fun a b c h1 h2=>by simp only [ωs] at*;exact cmpR_le h1 h2) (fun a b=>by simp only [Bool.or_eq_true,ωs];have:=MI.anti a.r b.r;omega) l
 exact this.imp fun {a b} h=>by
  have h':B9 a.r b.r≤0:=by simpa using h
  have:=MI.anti a.r b.r;omega
theorem rsc_one {γ:Type} (f:γ ->AP) {l m ys:List γ} (hn:(l.map f).Nodup) (hm:m.Perm l) (hms:m.Pairwise fun a b=>¬B9 (f b) (f a)<0) (h1:ys.Perm l) (h2:ys.Pairwise fun a b=>¬B9 (f b) (f a)<0):ys=m:=by
 have st:∀{k:List γ},(k.map f).Nodup ->(k.Pairwise fun a b=>¬B9 (f b) (f a)<0) ->k.Pairwise fun a b=>B9 (f a) (f b)<0:=fun {k} hn h=>by
  rw [List.Nodup,ψb] at hn;refine (h.and hn).imp fun {a b} ⟨g1,g2⟩=>?_;have h1:=MI.anti (f a) (f b);have h2:B9 (f a) (f b)≠0:=fun e=>g2 (DA.1 e);omega
 exact Zcw (R:=fun a b=>B9 (f a) (f b)<0) (fun x=>by rw [MI.refl];omega) (fun x y z=>MI.trans _ _ _) (st ((h1.map f).nodup_iff.2 hn) h2) (st ((hm.map f).nodup_iff.2 hn) hms) fun x=>by rw [h1.mem_iff,hm.mem_iff]
structure Lin where
 r:AP
 n:Int
 q:List Int
abbrev ND (x:Lin):D:= .agg [AF x.r.k,Am x.r.acc.o,AF x.r.acc.k,Am x.r.acc.a,Am x.r.f,Am x.r.t,AF x.n,.sl none (x.q.map AF)]
theorem bH (x:Lin):∃cs,ND x= .agg cs:=⟨_,Z⟩
def Dx (p:Prb) (x:Roo):Lin:=⟨x.r,max x.n 0,qIds (ordP p) x.r⟩
def linL (p:Prb):List Lin:=(linR p.ro).map (Dx p)
theorem H9 (p:Prb):(linL p).length=p.ro.length:=by unfold linL;rw [ψ,bE]
theorem R7 {l:List Roo} (h:EP l=0):(l.map Roo.r).Nodup:=by
 have h0:=Wo.1 h;rw [List.Nodup,ψb,ωz];intro i j hi hj hij e;have:=h0 j (Θ.2 hj);unfold OL at this;rw [Bp DB hj] at this
 split at this
 ·contradiction
 ·split at this
  ·cases this
  ·split at this
   ·cases this
   ·rename_i hn;exact hn (NB hj hij e)
theorem WJ {p:Prb} (hp:Ad p=0) {ys:List Lin} (h1:ys.Perm (p.ro.map (Dx p))) (h2:ys.Pairwise fun a b=>¬B9 b.r a.r<0):ys=linL p:=by
 refine rsc_one Lin.r (l:=p.ro.map (Dx p)) ?_ ((De p.ro).map _) ?_ h1 h2
 ·rw [ωr];exact R7 (Nv hp).1
 ·unfold linL;rw [ψb];exact SL p.ro
theorem ana1_p (a b:Lin):AO Tryz.prog 175 [.d (ND a),.d (ND b)] (AF (B9 a.r b.r)):=by
 refine Az Tryz.func175 Z Z Tryz.ntmps175 Z Z Z fun F hF=>(AC (AE (V (CC 1 Z Z Z Z Z Z Z) (V (CC 2 Z Z Z Z Z Z Z) (AB Z Z (AD (AC ?_)))))));refine AE (J (AZ Z Jf Z Z Z) (J (BM Z Z CU Z Z Z) (J (AZ Z Jf Z Z Z) (J (BM Z Z CU Z Z Z) (J (B4 (LA a.r b.r) Z Z) (AB Z Z (AD (A5 ?_))))))));exact ⟨_,[],[],A3 Z,Z,Z,Z,Z⟩
def CO (l:List AK):List (Int×AK):=l.map fun i=>(i.id,i)
theorem U6 {l:List AK} {i:AK} (h:i.id∉l.map AK.id):Au (CO l) i.id i=CO (l++ [i]):=by
 induction l with
 | nil=>rfl
 | cons a l ih=>
  rw [ωm,Φ] at h;show Au ((a.id,a)::CO l) i.id i=(a.id,a)::CO (l++ [i]);rw [←ih (fun h'=>h (.inr h'))];simp only [Au];rw [ϑ (fun e=>h (.inl e))]
section
variable {β:Type}
end
def Gx (p:Prb):List Int:=(ordP p).map AK.id
abbrev HA (p:Prb):Hp:=[(10,[.blk 229 [.map 11 0,.d (.sl none ((Gx p).map AF)),.d (.sl none ((linL p).map ND))]]),(11,[BH AF Ao (CO p.it)])]
theorem maxI (a:Int):(if 0>a then 0 else a)=max a 0:=by rw [Int.max_def];split<;>split<;>omega
theorem Nq (p:Prb) (hb:Eb p) (hE:Ad p=0):AM Tryz.prog 126 [.d (Bq p)] [] fun r H'=>r= .tup [.ptr 3 0 0,.d (AF 0)]∧H'=[(3,[.blk 229 [.map 2 0,.d (.sl none ((Gx p).map AF)),.d (.sl none ((linL p).map ND))]]),(2,[BH AF Ao (CO p.it)])]:=by
 have hck:=FB p hb;rw [hE] at hck;have hid:=dI (Nv hE).2.1;have hor:=HV p hb;have hb1:=hb.1;have hb2:=hb.2.1;refine Az Tryz.func126 Z Z Tryz.ntmps126 Z Z Z fun F hF=>(AC (AE (V (CC 1 Z Z Z Z Z Z Z) ?_)));refine AB Z Z (AB Z Z (AD (AC (AC (AE (J (BM Z Z B2 Z Z Z) (J (B4 (hck) Z Z) (AB Z Z ?_))))))));refine AD (AC (AE (goMv Z Z (J (DX Z Z Z) (AD (EN Z ((by decide)) (A1 (AC ?_))))))));refine AE (V (Pb 2 Z Z Z Z) (J (BM Z Z B2 Z Z Z) (J (B4 (hor) Z Z) (J (FV zl229 pl229 Z Z Z) (V (CC 3 Z Z Z Z Z Z Z) (AB Z Z (AD (AC ?_))))))));refine AC (AE (J (AZ Z ES Z Z Z) (J (A6 Z Z Z Kb Z) (J (CM Z Tryz.underlying37 Z) (goMv Z Z (AD (A4 (B5 (α:=Nat) (fun k=>⟨68,[(1,(.ptr 1 0 0)),(5,(.ptr 3 0 0)),(21,(.d (.sl none (p.it.map Ao)))),(22,(.d (AF (p.it.length:Int)))),(23,(.d (AF (k:Int))))],[(1,[Mj 39 p]),(3,[.blk 229 [.map 2 0,.d (.sl none ((Gx p).map AF)),I4]]),(2,[BH AF Ao (CO (p.it.take k))])]⟩) (fun k=>k≤p.it.length) (fun k=>p.it.length - k) (0) (Δ _) (A0 hF [1,3,2] Z Z ⟨Z,Z,Z,Z,Z,trivial⟩) ?_))))))));rintro k hk0;refine AC (AE (J (BV Z Z Z) (AD (AC (Ae Z (fun h24=>?_) (fun h24=>?_))))))
 ·have hk1:k<p.it.length:=Bf h24;refine A1 (AC (A4 (AC (AE ?_))));have hnk:p.it[k].id∉(p.it.take k).map AK.id:=fun h=>by have hn:=hid;rw [List.Nodup,ψb,ωz] at hn;obtain ⟨x,hx,e⟩:=ν.1 h;obtain ⟨j,hj,rfl⟩:=χt.1 hx;exact hn j k (by omega) hk1 (by omega) e
  refine J (Bk (k) Z Z (Z) (Ah hk1) Tryz.underlying37 Z Cd Z) (J (GN Z Z By Z) (V (CD 4 El Z Z Z Z) (V (Be Z Z Z Z Z Z Z Cd) (AD (Cb [[],[0],[0,1],[0,1,2],[],[4],[],[0,1,2,3,4,5,6]] mixed Z (Cr (AJ [5] [] Z Z (fun _=>AG (Aj Z Z)) (AJ [27] [] Z Z (fun _=>AG (KI Z Z)) ?_))))))));refine AJ [28] [] Z Z (fun _=>AG (AZ Z Jh Z Z Z)) (At [29] Z Z (fun _=>AG (A6 Z Z Z Rs Z)) (AJ [7] [] Z Z (fun _=>AG (AZ Z OC Z Z Z)) (At [31] Z Z (fun _=>AG (A6 Z Z Z Aq Z)) (At [7] Z Z (fun _=>AG (BM Z Z By Z Z Z)) (C3 7 Z Z Z (Aa 8 Z Z (V (Tk (CO (p.it.take k)) (p.it[k].id) (p.it[k]) Z Z Z SF HE Z Z) (AD ⟨Z,?_⟩))))))));refine C9 (AE (J (Ay Z Z (AT (k+1) (by omega)) Z) (goMv Z Z (AD ?_))));exact ⟨k+1,by show k+1≤_;omega,by show p.it.length - (k+1)<p.it.length - k;omega,A0 hF [1,3,2] Z (by rw [φ hk1,←U6 hnk];rfl) ⟨Z,Z,Z,Z,Z,trivial⟩⟩
 ·refine BC (AC (AC ?_));rw [Ξ (show p.it.length≤k by have h:=h24;omega)];refine EM 3 0 2 900 Z5 Z Z Z Z Z Z Z (AE (J (AZ Z Fk Z Z Z) (J (A6 Z Z Z Rq Z) (J (CM Z Tryz.underlying36 Z) (goMv Z Z (AD (A4 (B5 (α:=Nat×List Lin) (fun q=>⟨68,[(1,(.ptr 1 0 0)),(5,(.ptr 3 0 0)),(36,(.d (.sl none (p.ro.map CX)))),(37,(.d (AF (p.ro.length:Int)))),(38,(.d (AF (q.1:Int))))],[(900,[.rowD 233 8 (q.2.map ND)]),(1,[Mj 39 p]),(3,[.blk 229 [.map 2 0,.d (.sl none ((Gx p).map AF)),.own 900 0 q.2.length]]),(2,[BH AF Ao (CO p.it)])]⟩) (fun q=>q.1≤p.ro.length∧q.2=(p.ro.take q.1).map (Dx p)) (fun q=>p.ro.length - q.1) ((0,[])) (⟨Δ _,Z⟩) (A0 hF [900,1,3,2] Z Z ⟨Z,Z,Z,Z,Z,trivial⟩) ?_))))))));rintro ⟨m,acc⟩ ⟨hm0,hA⟩;dsimp only at hm0 hA⊢;refine AC (AE (J (BV Z Z Z) (AD (AC (Ae Z (fun h39=>?_) (fun h39=>?_))))))
  ·have hm1:m<p.ro.length:=Bf h39;refine A1 (AC (A4 (AC (AE ?_))));have hal:acc.length≤100000:=by rw [hA,ψ,Υ];omega
   refine J (Bk (m) Z Z (Z) (Ah hm1) Tryz.underlying36 Z OG Z) ?_;refine J (GN Z Z Zc Z) (V (CD 5 Qp Z Z Z Z) (V (Be Z Z Z Z Z Z Z OG) (AD (Cb [[],[],[1],[1,2],[1,2,3],[],[5],[],[7],[7,8],[],[],[11],[10,11,12],[5,6,7,8,9,10,11,12,13],[5,6,7,8,9,10,11,12,13,14],[1,2,3,4,5,6,7,8,9,10,11,12,13,14,15],[0,1,2,3,4,5,6,7,8,9,10,11,12,13,14,15,16],[0,1,2,3,4,5,6,7,8,9,10,11,12,13,14,15,16,17],[0,1,2,3,4,5,6,7,8,9,10,11,12,13,14,15,16,17,18]] mixed Z (Cr (AJ [5] [] Z Z (fun _=>AG (Aj Z Z)) (AJ [5] [] Z Z (fun _=>AG (Aj Z Z)) (AJ [43] [] Z Z (fun _=>AG (KI Z Z)) ?_))))))));refine AJ [44] [] Z Z (fun _=>AG (AZ Z Jg Z Z Z)) (AJ [45] [3] Z Z (fun _=>AG (A6 Z Z Z Vl Z)) (AJ [9] [] Z Z (fun _=>AG (AZ Z FG Z Z Z)) (AJ [47] [5] Z Z (fun _=>AG (BM Z Z CU Z Z Z)) (AJ [9] [] Z Z (fun _=>AG (AZ Z QP Z Z Z)) (AJ [49] [5] Z Z (fun _=>AG (A6 Z Z Z JG Z)) (AJ [50] [] Z Z (fun _=>AG (Pi Z Z (maxI _) Z)) (AJ [1] [1] Z Z (fun _=>AG (BM Z Z B2 Z Z Z)) (AJ [9] [] Z Z (fun _=>AG (AZ Z FG Z Z Z)) ?_))))))));refine AJ [53] [5] Z Z (fun _=>AG (BM Z Z CU Z Z Z)) (AJ [52,54] [] Z Z (fun _=>AG (B4 (queue_p p p.ro[m].r hb) Z Z)) (AJ [48,51,55] [] Z Z (fun _=>AG (FV Yg pl233 Z Z Z)) (Gn [56] [50] [(57,_)] Z Z (fun _=>Gp (D1 50 Z5 Z Z Z Z Z Z Z Z)) (.inr ⟨57,_,Z,Z,Z,Z,Z⟩) Z Z Z Z Z (Gn [46,57] [900,50,3,2] [(58,_)] Z Z (fun _=>Gp (I0 (acc) ([Dx p p.ro[m]]) Z Z Z Z Z Z Z Z Z5 (by simp only [Ψ];omega) Z Z Z Z)) (.inr ⟨58,_,Z,Z,Z,Z,Z⟩) Z Z Z Z Z (C3 17 Z Z Z (Aa 18 Z Z (J (KI Z Z) (AD ⟨Z,?_⟩))))))));refine Aa 19 Z Z (J (AZ Z Jg Z Z Z) (AD ⟨Z,?_⟩));refine Aa 20 Z Z (V (Be Z Z Z Z Z Z Z sz227) (AD ⟨Z,?_⟩));refine C9 (AE (J (Ay Z Z (AT (m+1) (by omega)) Z) (goMv Z Z (AD ?_))));exact ⟨(m+1,acc++ [Dx p p.ro[m]]),⟨by show m+1≤_;omega,by show acc++ [Dx p p.ro[m]]=(p.ro.take (m+1)).map (Dx p);rw [DF hm1,hA]⟩,by show p.ro.length - (m+1)<p.ro.length - m;omega,A0 hF [900,1,3,2] Z (Z) ⟨Z,Z,Z,Z,Z,trivial⟩⟩
  ·refine BC (AC ?_);have hfa:acc=p.ro.map (Dx p):=by rw [hA,Ξ (by have h:=h39;omega)]
   refine AE (goMv Z Z (J (KI Z Z) (J (AZ Z Jg Z Z Z) (J (A6 Z Z Z Vl Z) (V (Lk laysLn (k:=8) (by decide) Tryz.isAgg233 Tryz.sizeOf233 Tryz.func175 Z Z bH (fun a b=>B9 a.r b.r) ((MI.comap Lin.r).swo) acc (linL p) (by rw [hfa,ψ];omega) (fun x _ y _=>ana1_p x y) (fun ys g1 g2=>WJ hE (by rw [←hfa];exact g1) g2) Z Z Z Ku Z Z Z Z Z) ?_)))));refine AD (AC (Dm (ys:=(linL p).map ND) 3 0 2 900 Z Z Z (by rw [ψ,H9,hfa,ψ];exact ϖ _) (Ξ (by rw [ψ,H9,hfa,ψ];exact ϖ _)) Z Z Z Z Z Z (AE (goMv Z Z (AB Z Z (AB Z Z (AD (A5 ?_))))))));exact ⟨_,[3,2],_,A3 Z,Z,Z,Z,Z⟩
theorem TZ (p:Prb) (hb:Eb p) (hE:Ad p≠0):AO Tryz.prog 126 [.d (Bq p)] (.tup [.raw (.pointer none),AF (Ad p)]):=by
 have hck:=FB p hb;refine Az Tryz.func126 Z Z Tryz.ntmps126 Z Z Z fun F hF=>(AC (AE (V (CC 1 Z Z Z Z Z Z Z) (AB Z Z (AB Z Z (AD (AC (AC ?_))))))));refine AE (J (BM Z Z B2 Z Z Z) (J (B4 (hck) Z Z) (AB Z Z (AD (AC (AE (goMv Z Z (J (DX Z Z Z) ?_))))))));refine AD (DV Z ((ωc hE)) (AC (AE (goMv Z Z (AB Z Z (AB Z Z (AD (A5 ?_))))))));exact ⟨_,[],[],A3 Z,Z,Z,Z,Z⟩
theorem U7 (l:List AK) (i:Int):A2 (CO l) i itm0=l.getD ((l.map AK.id).idxOf i) itm0:=by
 induction l with
 | nil=>rfl
 | cons a l ih=>
  show (if i=a.id then a else A2 (CO l) i itm0)=_;rw [ωm,List.idxOf_cons]
  by_cases h:a.id=i
  ·rw [θ h.symm];simp [h]
  ·rw [ϑ (fun e=>h e.symm),ih];have hb:(a.id==i)=false:=by simp [h]
   rw [hb];simp
theorem Iv (l:List AK) (i:Int):NA (CO l) i=decide (i∈l.map AK.id):=by
 rw [Bool.eq_iff_iff,FF,ωs];unfold CO;rw [ωr];rfl
theorem PT (p:Prb) (i:Int):A2 (CO p.it) i itm0=BK p i:=U7 p.it i
theorem QF {p:Prb} (hb:Eb p) (i:Int):(BK p i).po.length≤100000∧(BK p i).pa.length≤100000∧(BK p i).af.length≤100000:=by
 unfold BK;rw [ϱ]
 cases h:p.it[(p.it.map AK.id).idxOf i]? with
 | none=>exact ⟨by simp [itm0],by simp [itm0],by simp [itm0]⟩
 | some x=>exact hb.2.2 _ (ζ h)
theorem Mh (p:Prb) (l:List Int) (hb:Eb p) (hl:l.length≤100000) (hE:DU p l=0):AM Tryz.prog 71 [.d (Bq p),.d (.sl none (l.map AF))] [] fun r H'=>r= .tup [.ptr 10 0 0,.map 2 0,.d (AF 0)]∧H'=HA p++ [(2,[BH AF Ag (As l)])]:=by
 have h0:Ad p=0:=by
  unfold DU at hE;split at hE
  ·exact hE
  ·rename_i h;simpa using h
 have han:=(Nq p hb h0).by [(3,10),(2,11)] rfl;have hC:DU p l=Pq (p.it.map AK.id) l:=ϑ (fun h=>h h0);rw [hC] at hE;refine Az Tryz.func71 Z Z Tryz.ntmps71 Z Z Z fun F hF=>(AC (AE (V (CC 1 Z Z Z Z Z Z Z) ?_)));refine AB Z Z (AB Z Z (AB Z Z (AD (AC (AE (J (BM Z Z B2 Z Z Z) (V (EW han Z [10,11] ⟨Z,Z,trivial⟩ Z Z Z Z Z Z Z Z Z) (goMv Z Z ?_))))))));refine J (Cc Z Z Z) (J (Cc Z Z Z) (AB Z Z (AB Z Z (AD (AC (AC (AE (goMv Z Z ?_))))))));refine J (DX Z Z Z) (AD (EN Z ((by decide)) (A1 (AC (AE (V (Pb 2 Z Z Z Z) (AB Z Z (AD ?_))))))));refine AC (AC (AE (goMv Z Z (J (CM Z Tryz.underlying28 Z) (goMv Z Z (AD (A4 (B5 (α:=Nat) (fun k=>⟨48,[(7,(.ptr 10 0 0)),(9,(.map 2 0)),(23,(.d (.sl none (l.map AF)))),(24,(.d (AF (l.length:Int)))),(25,(.d (AF (k:Int))))],HA p++ [(2,[BH AF Ag (As (l.take k))])]⟩) (fun k=>k≤l.length) (fun k=>l.length - k) (0) (Δ _) (A0 hF [10,11,2] Z Z ⟨Z,Z,Z,Z,Z,trivial⟩) ?_))))))));rintro k hk0;refine AC (AE (J (BV Z Z Z) (AD (AC (Ae Z (fun h26=>?_) (fun h26=>?_))))))
 ·have hk1:k<l.length:=Bf h26;refine A1 (AC (A4 (AC (AE ?_))));have hin:l[k]∈p.it.map AK.id:=(Pp hE).2 _ (κ hk1);have hnk:l[k]∉l.take k:=fun h=>by have hn2:=(Pp hE).1;rw [List.Nodup,ωz] at hn2;obtain ⟨j,hj,e⟩:=χt.1 h;exact hn2 j k (by omega) hk1 (by omega) e
  refine J (Bk (k) Z Z (Z) (Ah hk1) Tryz.underlying28 Z BA Z) (J (D0 Z Z Aq Z) (AB Z Z (AD (AC (AC (AE (goMv Z Z (J (KI Z Z) ?_))))))));refine J (AZ Z Jh Z Z Z) (J (A6 Z Z Z Rs Z) (goMv Z Z (J (MY (CO p.it) l[k] itm0 Z Z Z SF HE za55 G7 Z) (goMv Z Z (J (Cc Z Z Z) (J (Cc Z Z Z) (V (CD 3 El Z Z Z Z) (V (Be Z Z Z Z Z Z Z Cd) ?_))))))));refine AB Z Z (AD (AC (AE (goMv Z Z (J (O3 Z Z) (AD (EN Z ((by rw [Iv,ωc hin];rfl)) (A1 ?_))))))));refine AC (AC (AE (goMv Z Z (goMv Z Z (J (HF (As (l.take k)) (l[k]) (false) _ Z Z Z Ia HE Te Z Z) (AD (EN Z ((by rw [Wq];exact ωp hnk)) (A1 ?_))))))));refine AE (goMv Z Z (goMv Z Z (V (Tk (As (l.take k)) (l[k]) (true) Z Z Z Ia HE Z Z) (AD (AE (J (Ay Z Z (AT (k+1) (by omega)) Z) (goMv Z Z (AD ?_))))))));exact ⟨k+1,by show k+1≤_;omega,by show l.length - (k+1)<l.length - k;omega,A0 hF [10,11,2] Z (by rw [φ hk1,←dH hnk];rfl) ⟨Z,Z,Z,Z,Z,trivial⟩⟩
 ·refine BC ?_;refine AC (AE (goMv Z Z (goMv Z Z (AB Z Z (AB Z Z (AB Z Z (AD (A5 ?_))))))));exact ⟨_,[10,11,2],_,A3 Z,Z,Z,Z,by rw [Ξ (show l.length≤k by have h:=h26;omega)];rfl⟩
theorem Rb (p:Prb) (l:List Int) (hb:Eb p) (hl:l.length≤100000) (hE:DU p l≠0):AO Tryz.prog 71 [.d (Bq p),.d (.sl none (l.map AF))] (.tup [.raw (.pointer none),.raw (.map none),AF (DU p l)]):=by
 by_cases h0:Ad p=0
 ·have han:=(Nq p hb h0).by [(3,10),(2,11)] rfl;have hC:DU p l=Pq (p.it.map AK.id) l:=ϑ (fun h=>h h0);rw [hC] at hE⊢
  obtain ⟨E0,hE0⟩:∃e,Pq (p.it.map AK.id) l=e:=⟨_,Z⟩
  rw [hE0] at hE⊢;refine Az Tryz.func71 Z Z Tryz.ntmps71 Z Z Z fun F hF=>(AC (AE (V (CC 1 Z Z Z Z Z Z Z) ?_)));refine AB Z Z (AB Z Z (AB Z Z (AD (AC (AE (J (BM Z Z B2 Z Z Z) (V (EW han Z [10,11] ⟨Z,Z,trivial⟩ Z Z Z Z Z Z Z Z Z) (goMv Z Z ?_))))))));refine J (Cc Z Z Z) (J (Cc Z Z Z) (AB Z Z (AB Z Z (AD (AC (AC (AE (goMv Z Z ?_))))))));refine J (DX Z Z Z) (AD (EN Z ((by decide)) (A1 (AC (AE (V (Pb 2 Z Z Z Z) (AB Z Z (AD ?_))))))));refine AC (AC (AE (goMv Z Z (J (CM Z Tryz.underlying28 Z) (goMv Z Z (AD (A4 (B5 (α:=Nat) (fun k=>⟨48,[(7,(.ptr 10 0 0)),(9,(.map 2 0)),(23,(.d (.sl none (l.map AF)))),(24,(.d (AF (l.length:Int)))),(25,(.d (AF (k:Int))))],HA p++ [(2,[BH AF Ag (As (l.take k))])]⟩) (fun k=>k≤l.length∧E0=Bd (((List.range l.length).drop k).map (Gw (p.it.map AK.id) l))) (fun k=>l.length - k) (0) (⟨Δ _,hE0.symm⟩) (A0 hF [10,11,2] Z Z ⟨Z,Z,Z,Z,Z,trivial⟩) ?_))))))));rintro k ⟨hk0,hk⟩;refine AC (AE (J (BV Z Z Z) (AD (AC (Ae Z (fun h26=>?_) (fun h26=>?_))))))
  ·have hk1:k<l.length:=Bf h26;refine A1 (AC (A4 (AC (AE ?_))));have hEc:=ED hk1 hk;have hgd:=Bp 0 hk1;refine J (Bk (k) Z Z (Z) (Ah hk1) Tryz.underlying28 Z BA Z) (J (D0 Z Z Aq Z) (AB Z Z (AD (AC (AC (AE (goMv Z Z ?_)))))));refine J (KI Z Z) (J (AZ Z Jh Z Z Z) (J (A6 Z Z Z Rs Z) (goMv Z Z (J (MY (CO p.it) l[k] itm0 Z Z Z SF HE za55 G7 Z) (goMv Z Z (J (Cc Z Z Z) (J (Cc Z Z Z) (V (CD 3 El Z Z Z Z) ?_))))))));refine V (Be Z Z Z Z Z Z Z Cd) (AB Z Z (AD (AC (AE (goMv Z Z (J (O3 Z Z) (AD (KK Z (fun h39=>?_) (fun h39=>?_)))))))))
   ·have hin:¬l[k]∈p.it.map AK.id:=by rw [Iv] at h39;simpa using h39
    refine AC (AE (AB Z Z (AB Z Z (AB Z Z (AD (A5 ?_))))));exact ⟨_,[],[],A3 Z,Z,Z,by rw [hEc.2 9 (by unfold Gw;rw [hgd,θ hin]) (by decide)],Z⟩
   ·have hin:l[k]∈p.it.map AK.id:=by rw [Iv] at h39;simpa using h39
    refine A1 (AC (AC (AE (goMv Z Z (goMv Z Z (J (HF (As (l.take k)) (l[k]) (false) _ Z Z Z Ia HE Te Z Z) (AD (KK Z (fun h42=>?_) (fun h42=>?_)))))))))
    ·have hnk:l[k]∈l.take k:=by rw [Wq] at h42;simpa using h42
     refine AC (AE (AB Z Z (AB Z Z (AB Z Z (AD (A5 ?_))))));exact ⟨_,[],[],A3 Z,Z,Z,by rw [hEc.2 7 (by unfold Gw;rw [hgd,ϑ (fun h=>h hin),θ hnk]) (by decide)],Z⟩
    ·have hnk:¬l[k]∈l.take k:=by rw [Wq] at h42;simpa using h42
     refine A1 ?_;refine AE (goMv Z Z (goMv Z Z (V (Tk (As (l.take k)) (l[k]) (true) Z Z Z Ia HE Z Z) (AD (AE (J (Ay Z Z (AT (k+1) (by omega)) Z) (goMv Z Z (AD ?_))))))));exact ⟨k+1,⟨by show k+1≤_;omega,hEc.1 (by unfold Gw;rw [hgd,ϑ (fun h=>h hin),ϑ hnk])⟩,by show l.length - (k+1)<l.length - k;omega,A0 hF [10,11,2] Z (by rw [φ hk1,←dH hnk];rfl) ⟨Z,Z,Z,Z,Z,trivial⟩⟩
  ·refine BC ?_;refine AC (AE (goMv Z Z (goMv Z Z (AB Z Z (AB Z Z (AB Z Z (AD (A5 ?_))))))));exact absurd (by rw [hk,List.drop_of_length_le (by have h:=h26;simp only [ωh];omega)];rfl) hE
 ·have hC:DU p l=Ad p:=θ h0;have hab:=TZ p hb h0;rw [hC];refine Az Tryz.func71 Z Z Tryz.ntmps71 Z Z Z fun F hF=>(AC (AE (V (CC 1 Z Z Z Z Z Z Z) (AB Z Z (AB Z Z ?_)))));refine AB Z Z (AD (AC (AE (J (BM Z Z B2 Z Z Z) (J (B4 (hab) Z Z) (goMv Z Z (J (DD Z Z Z) (J (DD Z Z Z) ?_))))))));refine AB Z Z (AB Z Z (AD (AC (AC (AE (goMv Z Z (J (DX Z Z Z) (AD ?_))))))));refine DV Z ((ωc h0)) (AC (AE (goMv Z Z (AB Z Z (AB Z Z (AB Z Z (AD (A5 ?_))))))));exact ⟨_,[],[],A3 Z,Z,Z,Z,Z⟩
structure Bkd where
 i:Int
 m:Int
 r:AP
 deriving DecidableEq
abbrev Mc:AP:=⟨0,T3,[],[]⟩
abbrev OY (x:Bkd):D:= .agg [AF x.i,AF x.m,AF x.r.k,Am x.r.acc.o,AF x.r.acc.k,Am x.r.acc.a,Am x.r.f,Am x.r.t]
def prefN (i:Int) (q:List Int):Nat:=(max (bW i q) 0).toNat
def prefQ (i:Int) (q:List Int):List Int:=q.take (prefN i q)
def UK (i:Int) (af:List Int):List Bkd:=(Cf af).map fun x=>⟨i,x,Mc⟩
def EZ (i:Int) (x:Lin):List Bkd:=(prefQ i x.q).map fun y=>⟨i,y,x.r⟩
def req (p:Prb) (i:Int):List Bkd:=UK i (BK p i).af++(linL p).flatMap (EZ i)
def E8 (inM:Int ->Bool) (l:List Bkd):List Bkd:=l.filter fun b=>!inM b.m
def inM (M:List (Int×Bool)) (x:Int):Bool:=A2 M x false
theorem Zv (i:Int) (q:List Int):prefN i q≤q.length:=by
 unfold prefN bW
 split
 ·rename_i h
  have:=List.idxOf_lt_length_iff.2 h;omega
 ·omega
theorem Zx (i:Int) (q:List Int):max (bW i q) 0=(prefN i q:Int):=by unfold prefN;omega
theorem TW (f:Int ->Bool) (l m:List Bkd):E8 f (l++m)=E8 f l++E8 f m:=ψc _ _
theorem FK (f:Int ->Bool) (l:List Bkd):(E8 f l).length≤l.length:=ωj _ _
theorem IY {f:Int ->Bool} {l:List Bkd} {k:Nat} (hk:k<l.length):E8 f (l.take (k+1))=E8 f (l.take k)++(if !f l[k].m then [l[k]] else []):=GF hk
theorem GG {α β:Type} {f:α ->List β} {l:List α} {k:Nat} (hk:k<l.length):(l.take (k+1)).flatMap f=(l.take k).flatMap f++f l[k]:=by
 rw [φ hk,List.flatMap_append];simp
theorem Je {α β:Type} {f:α ->List β} {n:Nat}:∀{l:List α},(∀x∈l,(f x).length≤n) ->(l.flatMap f).length≤l.length*n
 | [],_=>by simp
 | a::l,h=>by
  have h1:=h a (by simp);have h2:=Je (l:=l) (fun x hx=>h x (by simp [hx]));rw [List.flatMap_cons,ς,ψl,φj];omega
theorem bF {p:Prb} (x:Lin) (hx:x∈linL p):x.q.length≤p.it.length:=by
 unfold linL at hx;obtain ⟨y,_,rfl⟩:=ν.1 hx;show (qIds (ordP p) y.r).length≤_;unfold qIds;rw [ψ];exact ωf (ωj _ _) (DK p)
theorem R9 {p:Prb} (i:Int) (x:Lin) (hx:x∈linL p):(EZ i x).length≤p.it.length:=by
 unfold EZ prefQ;rw [ψ,Υ];have:=bF x hx;omega
abbrev mapV (mv:Nat):AV:= .d (.raw (.map (some mv)))
abbrev HM2 (p:Prb) (mv:Nat) (bs:Option (List Nat×Nat)) (M:List (Int×Bool)):Hp:=HA p++ [(12,[.map bs (BN AF Ag M)]),(13,[.addr 12 0 (.map (some mv))])]
theorem Ut (p:Prb) (mv:Nat) (bs:Option (List Nat×Nat)) (M:List (Int×Bool)) (i:Int) (hb:Eb p) (h1:p.it.length≤1000) (h2:p.ro.length≤1000):AM Tryz.prog 127 [.ptr 10 0 0,mapV mv,.d (AF i)] (HM2 p mv bs M) fun r H'=>r= .d (.sl none ((E8 (inM M) (req p i)).map OY))∧H'=HM2 p mv bs M:=by
 have hI:=PT p i;have hIb:=QF hb i;have hLl:=H9 p;have hcl:=(c8 (BK p i).af (by omega)).by [(20,21)] rfl;have hRl:∀x∈linL p,(EZ i x).length≤1000:=fun x hx=>ωf (R9 i x hx) h1;have hsl:=Ed (BK p i).af
 obtain ⟨S,hS⟩:∃S,Cf (BK p i).af=S:=⟨_,Z⟩
 have hreq:req p i=(S.map fun x=>(⟨i,x,Mc⟩:Bkd))++(linL p).flatMap (EZ i):=by unfold req UK;rw [hS]
 rw [hreq];rw [hS] at hsl;refine Az Tryz.func127 Z Z Tryz.ntmps127 Z Z Z fun F hF=>(AC ?_);refine AE (AB Z Z (AD (AC (AE (AB Z Z (AD (AC (O4 7 900 M6 Z Z Z Z ?_))))))));refine AE (goMv Z Z (J (KI Z Z) (J (AZ Z Jh Z Z Z) (J (A6 Z Z Z Rs Z) (goMv Z Z (J (RO (CO p.it) i itm0 (BK p i) Z Z Z SF HE za55 G7 hI Z) (J (Tz Z FH Z Z) (V (EW hcl Z [21] ⟨Z,trivial⟩ Z Z Z Z Z Z Z Z Z) ?_))))))));refine AB Z Z (AD (AC (AE (goMv Z Z (V (RJ laysS (BK p i).af (by omega) Z Z Z Z Z Z Z) (AD (AC (AC ?_))))))));rw [hS];refine L3 (emb:=AF) 8 21 S Z Z Z hsl.symm Z Z Z (AE (goMv Z Z (J (CM Z Tryz.underlying28 Z) (goMv Z Z (AD (A4 (B5 (α:=Nat×List Bkd) (fun q=>⟨81,[(0,.ptr 10 0 0),(1,mapV mv),(2,.d (AF i)),(7,(.own 900 0 q.2.length)),(26,(.d (.sl none (S.map AF)))),(27,(.d (AF (S.length:Int)))),(28,(.d (AF (q.1:Int))))],HM2 p mv bs M++ [(900,[.rowD 144 8 (q.2.map OY)])]⟩) (fun q=>q.1≤S.length∧q.2=E8 (inM M) ((S.map fun x=>(⟨i,x,Mc⟩:Bkd)).take q.1)) (fun q=>S.length - q.1) ((0,[])) (⟨Δ _,Z⟩) (A0 hF [10,11,12,13,900] Z Z ⟨Z,Z,Z,Z,Z,Z,Z,trivial⟩) ?_)))))));rintro ⟨k,acc⟩ ⟨hk0,hA⟩;dsimp only at hk0 hA⊢;refine AC (AE (J (BV Z Z Z) (AD (AC (Ae Z (fun h29=>?_) (fun h29=>?_))))))
 ·have hk1:k<S.length:=Bf h29;refine A1 (AC (A4 (AC (AE (J (Bk (k) Z Z (Z) (Ah hk1) Tryz.underlying28 Z BA Z) (J (D0 Z Z Aq Z) (AB Z Z (AD ?_))))))));refine AC (AE (goMv Z Z (DM 32 13 0 Z Z (goMv Z Z (J (HF M S[k] false (inM M S[k]) Z Z Z Ia HE Te Z Z) (J (O3 Z Z) (AD (KK Z (fun h35=>?_) (fun h35=>?_)))))))))
  ·refine AE ?_;have hal:acc.length≤100000:=by rw [hA];refine ωf (FK _ _) ?_;rw [Υ,ψ];omega
   refine goMv Z Z (goMv Z Z (goMv Z Z ?_));refine J (FV Yj pl144 Z Z Z) (V (D1 1 M6 Z Z Z Z Z Z Z Z) (V (I0 (acc) ([⟨i,S[k],Mc⟩]) Z Z Z Z Z Z Z Z M6 (by simp only [Ψ];omega) Z Z Z Z) (AB Z Z (AD (AE (J (Ay Z Z (AT (k+1) (by omega)) Z) (goMv Z Z (AD ?_))))))));exact ⟨(k+1,acc++ [⟨i,S[k],Mc⟩]),⟨by show k+1≤_;omega,by show acc++ [⟨i,S[k],Mc⟩]=E8 (inM M) ((S.map fun x=>(⟨i,x,Mc⟩:Bkd)).take (k+1));rw [IY (by simpa using hk1),ωb,θ (by show (!inM M S[k])=true;simpa using h35),hA]⟩,by show S.length - (k+1)<S.length - k;omega,A0 hF [10,11,12,13,900] Z (Z) ⟨Z,Z,Z,Z,Z,Z,Z,trivial⟩⟩
  ·refine A1 (AE (J (Ay Z Z (AT (k+1) (by omega)) Z) (goMv Z Z (AD ?_))));exact ⟨(k+1,acc),⟨by show k+1≤_;omega,by show acc=E8 (inM M) ((S.map fun x=>(⟨i,x,Mc⟩:Bkd)).take (k+1));rw [IY (by simpa using hk1),ωb,ϑ (by show ¬(!inM M S[k])=true;simpa using h35),ωl,hA]⟩,by show S.length - (k+1)<S.length - k;omega,A0 hF [10,11,12,13,900] Z (Z) ⟨Z,Z,Z,Z,Z,Z,Z,trivial⟩⟩
 ·refine BC (AC (AC ?_));have hA1:acc=E8 (inM M) (S.map fun x=>(⟨i,x,Mc⟩:Bkd)):=by rw [hA,Ξ (by rw [ψ];have h:=h29;omega)]
  have hal1:acc.length≤100000:=by rw [hA1];refine ωf (FK _ _) ?_;rw [ψ];omega
  refine AE ?_;refine goMv Z Z (J (KI Z Z) (J (AZ Z Jg Z Z Z) (J (A6 Z Z Z Vl Z) (J (CM Z Tryz.underlying227 Z) (goMv Z Z (AD (A4 (B5 (α:=Nat×List Bkd) (fun q=>⟨81,[(0,.ptr 10 0 0),(1,mapV mv),(2,.d (AF i)),(7,(.own 900 0 q.2.length)),(46,(.d (.sl none ((linL p).map ND)))),(47,(.d (AF ((linL p).length:Int)))),(48,(.d (AF (q.1:Int))))],HM2 p mv bs M++ [(900,[.rowD 144 8 (q.2.map OY)])]⟩) (fun q=>q.1≤(linL p).length∧q.2=acc++E8 (inM M) (((linL p).take q.1).flatMap (EZ i))) (fun q=>(linL p).length - q.1) ((0,acc)) (⟨Δ _,by simp [E8]⟩) (A0 hF [10,11,12,13,900] Z Z ⟨Z,Z,Z,Z,Z,Z,Z,trivial⟩) ?_))))))));rintro ⟨m,acc2⟩ ⟨hm0,hB⟩;dsimp only at hm0 hB⊢;refine AC (AE (J (BV Z Z Z) (AD (AC (Ae Z (fun h49=>?_) (fun h49=>?_))))))
  ·have hm1:m<(linL p).length:=Bf h49;refine A1 (AC (A4 (AC (AE ?_))));have hql:=bF _ (κ hm1);have hfl:=Je (f:=EZ i) (n:=1000) (l:=(linL p).take m) (fun x hx=>hRl x (ψe hx));have hbl:acc2.length≤1200000:=by rw [hB,ς];have:=FK (inM M) (((linL p).take m).flatMap (EZ i));rw [Υ] at hfl;have h3:min m (linL p).length*1000≤1000*1000:=ψd _ (by omega);omega
   refine J (Bk (m) Z Z (Z) (Ah hm1) Tryz.underlying227 Z VV Z) (J (GN Z Z rw233 Z) (V (CD 2 Yg Z Z Z Z) (V (Be Z Z Z Z Z Z Z VV) (AD (AC (AE ?_))))));refine J (AZ Z WV Z Z Z) (J (A6 Z Z Z BI Z) (goMv Z Z (J (B4 (WQ (linL p)[m].q i (by omega)) Z Z) (AB Z Z (AD (AC (AE (J (AZ Z WV Z Z Z) ?_))))))));refine J (A6 Z Z Z BI Z) (goMv Z Z (J (Pi Z Z (maxI _) Z) (J (LJ ((linL p)[m].q) (prefN i (linL p)[m].q) Z Z Z (Zx _ _) (Zv _ _) Tryz.underlying28 BA (fun _=>rfl) Z) (J (CM Z Tryz.underlying28 Z) (goMv Z Z (AD (A4 (B5 (α:=Nat×List Bkd) (fun q=>⟨81,[(0,.ptr 10 0 0),(1,mapV mv),(2,.d (AF i)),(7,(.own 900 0 q.2.length)),(12,(.ptr 2 0 0)),(46,(.d (.sl none ((linL p).map ND)))),(47,(.d (AF ((linL p).length:Int)))),(48,(.d (AF (m:Int)))),(60,(.d (.sl none ((prefQ i (linL p)[m].q).map AF)))),(61,(.d (AF ((prefQ i (linL p)[m].q).length:Int)))),(62,(.d (AF (q.1:Int))))],HM2 p mv bs M++ [(900,[.rowD 144 8 (q.2.map OY)]),(2,[.blk 233 [.d (AF (linL p)[m].r.k),.d (Am (linL p)[m].r.acc.o),.d (AF (linL p)[m].r.acc.k),.d (Am (linL p)[m].r.acc.a),.d (Am (linL p)[m].r.f),.d (Am (linL p)[m].r.t),.d (AF (linL p)[m].n),.d (.sl none ((linL p)[m].q.map AF))]])]⟩) (fun q=>q.1≤(prefQ i (linL p)[m].q).length∧q.2=acc2++E8 (inM M) ((EZ i (linL p)[m]).take q.1)) (fun q=>(prefQ i (linL p)[m].q).length - q.1) ((0,acc2)) (⟨Δ _,by simp [E8]⟩) (A0 hF [10,11,12,13,900,2] Z Z ⟨Z,Z,Z,Z,Z,Z,Z,Z,Z,Z,Z,trivial⟩) ?_))))))));rintro ⟨j,acc3⟩ ⟨hj0,hC⟩;dsimp only at hj0 hC⊢;refine AC (AE (J (BV Z Z Z) (AD (AC (Ae Z (fun h63=>?_) (fun h63=>?_))))))
   ·have hj1:j<(prefQ i (linL p)[m].q).length:=Bf h63;refine A1 (AC (A4 (AC (AE (J (Bk (j) Z Z (Z) (Ah hj1) Tryz.underlying28 Z BA Z) (J (D0 Z Z Aq Z) (AB Z Z (AD ?_))))))));refine AC (AE (goMv Z Z (DM 66 13 0 Z Z (goMv Z Z (J (HF M (prefQ i (linL p)[m].q)[j] false (inM M (prefQ i (linL p)[m].q)[j]) Z Z Z Ia HE Te Z Z) (J (O3 Z Z) (AD (KK Z (fun h69=>?_) (fun h69=>?_)))))))))
    ·refine AE ?_;have hcl3:acc3.length≤1300000:=by rw [hC,ς];have h3:=FK (inM M) ((EZ i (linL p)[m]).take j);have h4:=hRl _ (κ hm1);rw [Υ] at h3;omega
     refine goMv Z Z (goMv Z Z (goMv Z Z (J (AZ Z Jf Z Z Z) (J (BM Z Z CU Z Z Z) ?_))));refine J (FV Yj pl144 Z Z Z) (V (D1 3 M6 Z Z Z Z Z Z Z Z) (V (I0 (acc3) ([⟨i,(prefQ i (linL p)[m].q)[j],(linL p)[m].r⟩]) Z Z Z Z Z Z Z Z M6 (by simp only [Ψ];omega) Z Z Z Z) (AB Z Z (AD (AE (J (Ay Z Z (AT (j+1) (by have h5:(prefQ i (linL p)[m].q).length≤1000:=by {unfold prefQ;rw [Υ];omega};omega)) Z) (goMv Z Z (AD ?_))))))));exact ⟨(j+1,acc3++ [⟨i,(prefQ i (linL p)[m].q)[j],(linL p)[m].r⟩]),⟨by show j+1≤_;omega,by show acc3++ [⟨i,(prefQ i (linL p)[m].q)[j],(linL p)[m].r⟩]=acc2++E8 (inM M) ((EZ i (linL p)[m]).take (j+1));rw [IY (by unfold EZ;simpa using hj1),hC,ψk];congr 2;unfold EZ;rw [ωb,θ (by show (!inM M (prefQ i (linL p)[m].q)[j])=true;simpa using h69)]⟩,by show (prefQ i (linL p)[m].q).length - (j+1)<(prefQ i (linL p)[m].q).length - j;omega,A0 hF [10,11,12,13,900,2] Z (Z) ⟨Z,Z,Z,Z,Z,Z,Z,Z,Z,Z,Z,trivial⟩⟩
    ·refine A1 (AE (J (Ay Z Z (AT (j+1) (by have h5:(prefQ i (linL p)[m].q).length≤1000:=by {unfold prefQ;rw [Υ];omega};omega)) Z) (goMv Z Z (AD ?_))));exact ⟨(j+1,acc3),⟨by show j+1≤_;omega,by show acc3=acc2++E8 (inM M) ((EZ i (linL p)[m]).take (j+1));rw [IY (by unfold EZ;simpa using hj1),hC];unfold EZ;rw [ωb,ϑ (by show ¬(!inM M (prefQ i (linL p)[m].q)[j])=true;simpa using h69),ωl]⟩,by show (prefQ i (linL p)[m].q).length - (j+1)<(prefQ i (linL p)[m].q).length - j;omega,A0 hF [10,11,12,13,900,2] Z (Z) ⟨Z,Z,Z,Z,Z,Z,Z,Z,Z,Z,Z,trivial⟩⟩
   ·have hfin:acc3=acc2++E8 (inM M) (EZ i (linL p)[m]):=by rw [hC,Ξ (by unfold EZ;rw [ψ];have h:=h63;omega)]
    refine BC (AE (J (Ay Z Z (AT (m+1) (by omega)) Z) (goMv Z Z (AD ?_))));exact ⟨(m+1,acc3),⟨by show m+1≤_;omega,by show acc3=acc++E8 (inM M) (((linL p).take (m+1)).flatMap (EZ i));rw [GG hm1,TW,←ψk,←hB];exact hfin⟩,by show (linL p).length - (m+1)<(linL p).length - m;omega,A0 hF [10,11,12,13,900] Z (Z) ⟨Z,Z,Z,Z,Z,Z,Z,trivial⟩⟩
  ·refine BC (AC ?_);have hfa:acc2=E8 (inM M) ((S.map fun x=>(⟨i,x,Mc⟩:Bkd))++(linL p).flatMap (EZ i)):=by rw [hB,hA1,Ξ (by have h:=h49;omega),TW]
   refine L3 (emb:=OY) 7 900 acc2 Z Z Z Z Z Z Z (AE (goMv Z Z (AB Z Z (AD (A5 ?_)))));exact ⟨_,[10,11,12,13],_,A3 Z,Z,Z,by rw [hfa],Z⟩
def HC (p:Prb) (f:Int ->Bool) (i:Int):List Bkd:=if f i then E8 f (req p i) else []
def blks (p:Prb) (f:Int ->Bool):List Bkd:=(Gx p).flatMap (HC p f)
theorem Pt {p:Prb} (hb:Eb p) (h1:p.it.length≤1000) (h2:p.ro.length≤1000) (i:Int):(req p i).length≤1100000:=by
 unfold req UK;rw [ς,ψ,Ed];have h3:=QF hb i;have h4:=Je (f:=EZ i) (n:=1000) (l:=linL p) (fun x hx=>ωf (R9 i x hx) h1);have h5:=H9 p;have h6:(linL p).length*1000≤1000*1000:=ψd _ (by omega);omega
theorem TX {p:Prb} (hb:Eb p) (h1:p.it.length≤1000) (h2:p.ro.length≤1000) (f:Int ->Bool) (i:Int):(HC p f i).length≤1100000:=by
 unfold HC;split
 ·exact ωf (FK _ _) (Pt hb h1 h2 i)
 ·simp
theorem le_step {a k N:Nat} (h:a≤k*N):a≤(k+1)*N:=ωf h (ψd _ (Nat.le_succ _))
theorem bK {α:Type} {a b:List α} {k N:Nat} (h:a.length≤k*N) (h2:b.length≤N):(a++b).length≤(k+1)*N:=by rw [ς,φj,Nat.one_mul];exact Nat.add_le_add h h2
theorem cg (p:Prb) (mv:Nat) (bs:Option (List Nat×Nat)) (M:List (Int×Bool)) (hb:Eb p) (h1:p.it.length≤1000) (h2:p.ro.length≤1000):AM Tryz.prog 72 [.ptr 10 0 0,mapV mv] (HM2 p mv bs M) fun r H'=>r= .d (.sl none ((blks p (inM M)).map OY))∧H'=HM2 p mv bs M:=by
 have hbl:∀i,(HC p (inM M) i).length≤1100000:=TX hb h1 h2 _;have hor:(Gx p).length≤1000:=by unfold Gx;rw [ψ];exact ωf (DK p) h1
 have hbs:blks p (inM M)=(Gx p).flatMap (HC p (inM M)):=rfl;rw [hbs];refine Az Tryz.func72 Z Z Tryz.ntmps72 Z Z Z fun F hF=>(AC (AE (AB Z Z ?_)));refine AD (AC (AE (AB Z Z (AD (AC (AC (O4 5 900 M6 Z Z Z Z (AE ?_))))))));refine goMv Z Z (J (KI Z Z) (J (AZ Z fi229_1 Z Z Z) (J (A6 Z Z Z BI Z) (J (CM Z Tryz.underlying28 Z) (goMv Z Z (AD (A4 (B5 (α:=Nat×List Bkd) (fun q=>⟨28,[(0,.ptr 10 0 0),(1,mapV mv),(5,(.own 900 0 q.2.length)),(11,(.d (.sl none ((Gx p).map AF)))),(12,(.d (AF ((Gx p).length:Int)))),(13,(.d (AF (q.1:Int))))],HM2 p mv bs M++ [(900,[.rowD 144 8 (q.2.map OY)])]⟩) (fun q=>q.1≤(Gx p).length∧q.2=((Gx p).take q.1).flatMap (HC p (inM M))∧q.2.length≤q.1*1100000) (fun q=>(Gx p).length - q.1) ((0,[])) (⟨Δ _,Z,ϖ _⟩) (A0 hF [10,11,12,13,900] Z Z ⟨Z,Z,Z,Z,Z,Z,trivial⟩) ?_))))))));rintro ⟨k,acc⟩ ⟨hk0,hA,hL⟩;dsimp only at hk0 hA hL⊢;refine AC (AE (J (BV Z Z Z) (AD (AC (Ae Z (fun h14=>?_) (fun h14=>?_))))))
 ·have hk1:k<(Gx p).length:=Bf h14;refine A1 (AC (A4 (AC (AE (J (Bk (k) Z Z (Z) (Ah hk1) Tryz.underlying28 Z BA Z) (J (D0 Z Z Aq Z) (AB Z Z ?_)))))));refine AD (AC (AE (goMv Z Z (DM 17 13 0 Z Z (goMv Z Z (J (HF M (Gx p)[k] false (inM M (Gx p)[k]) Z Z Z Ia HE Te Z Z) (AD (KK Z (fun h19=>?_) (fun h19=>?_)))))))))
  ·refine AE (goMv Z Z (goMv Z Z (goMv Z Z (goMv Z Z (V (EW (Ut p mv bs M (Gx p)[k] hb h1 h2) Z [10,11,12,13] ⟨Z,Z,Z,Z,trivial⟩ Z Z Z Z Z Z Z Z Z) ?_)))));have hrl:=ωf (FK (inM M) _) (Pt hb h1 h2 (Gx p)[k]);refine V (Ew (acc) (E8 (inM M) (req p (Gx p)[k])) Z Z Z Z Z Z (fun _=>rfl) M6 (by omega) Z Z Z Z) (AB Z Z (AD (AE (J (Ay Z Z (AT (k+1) (by have h:=hor;omega)) Z) (goMv Z Z (AD ?_))))));exact ⟨(k+1,acc++E8 (inM M) (req p (Gx p)[k])),⟨by show k+1≤_;omega,by show acc++E8 (inM M) (req p (Gx p)[k])=((Gx p).take (k+1)).flatMap (HC p (inM M));rw [GG hk1,←hA];unfold HC;rw [θ (by simpa using h19)],bK hL (ωf (FK (inM M) _) (Pt hb h1 h2 (Gx p)[k]))⟩,by show (Gx p).length - (k+1)<(Gx p).length - k;omega,A0 hF [10,11,12,13,900] Z (Z) ⟨Z,Z,Z,Z,Z,Z,trivial⟩⟩
  ·refine A1 (AE (J (Ay Z Z (AT (k+1) (by have h:=hor;omega)) Z) (goMv Z Z (AD ?_))));exact ⟨(k+1,acc),⟨by show k+1≤_;omega,by show acc=((Gx p).take (k+1)).flatMap (HC p (inM M));rw [GG hk1,←hA];unfold HC;rw [ϑ (by simpa using h19),ωl],le_step hL⟩,by show (Gx p).length - (k+1)<(Gx p).length - k;omega,A0 hF [10,11,12,13,900] Z (Z) ⟨Z,Z,Z,Z,Z,Z,trivial⟩⟩
 ·refine BC (AC ?_);have hfa:acc=(Gx p).flatMap (HC p (inM M)):=by rw [hA,Ξ (by have h:=h14;omega)]
  refine L3 (emb:=OY) 5 900 acc Z Z Z Z Z Z Z (AE (goMv Z Z (AB Z Z (AD (A5 ?_)))));exact ⟨_,[10,11,12,13],_,A3 Z,Z,Z,by rw [hfa],Z⟩
def DY (p:Prb) (r:AP) (l:List (Int×Bool)):Int:=(l.map fun e=>if e.2=true then Bg (BK p e.1) r else 0).sum
theorem KQ {p:Prb} {r:AP} {l m:List (Int×Bool)} (h:l.Perm m):DY p r l=DY p r m:=Rk h _
theorem Wx (p:Prb) (r:AP) (e:Int×Bool) (l:List (Int×Bool)):DY p r (e::l)=(if e.2=true then Bg (BK p e.1) r else 0)+DY p r l:=by simp [DY]
theorem MR (p:Prb) (r:AP) (k:Int) (v:Bool) (l:List (Int×Bool)):DY p r ((k,v)::l)=(if v=true then Bg (BK p k) r else 0)+DY p r l:=Wx p r (k,v) l
theorem TQ {p:Prb} {l:List Int} (h:DU p l=0):Ad p=0:=by
 unfold DU at h;split at h
 ·exact h
 ·rename_i hn;simpa using hn
theorem cP (i:AK) (r:AP): -1000000000000000≤Bg i r∧Bg i r≤1000000000000000:=by
 unfold Bg
 split
 ·rename_i h;simpa [Mx] using MH h.1 r
 ·omega
theorem Tp (p:Prb) (r:AP) {l:List (Int×Bool)} (h:l.length≤1000): -1000000000000000000≤DY p r l∧DY p r l≤1000000000000000000:=by
 have:=Oc (l:=l) (f:=fun e=>if e.2=true then Bg (BK p e.1) r else 0) (B:=1000000000000000) (fun e _=>by
  show _≤(if e.2=true then _ else _)∧_;have:=cP (BK p e.1) r
  split<;>omega) 1000 h (by omega)
 unfold DY;omega
def OF (p:Prb) (M:List (Int×Bool)) (x:Lin):List Roo:=if x.n+DY p x.r M<0 then [⟨x.r,0 - (x.n+DY p x.r M)⟩] else []
def Ig (p:Prb) (M:List (Int×Bool)):List Roo:=(linL p).flatMap (OF p M)
theorem bG {p:Prb} (hp:Ad p=0) (x:Lin) (hx:x∈linL p):0≤x.n∧x.n≤4000000000000000:=by
 unfold linL at hx;obtain ⟨y,hy,rfl⟩:=ν.1 hx;have:=K0 (Nv hp).1 y ((De p.ro).mem_iff.1 hy);show 0≤max y.n 0∧max y.n 0≤_;omega
abbrev HM3 (p:Prb) (mv:Nat) (M:List (Int×Bool)):Hp:=HA p++ [(12,[BH AF Ag M]),(13,[.addr 12 0 (.map (some mv))])]
theorem Pe (p:Prb) (mv:Nat) (M:List (Int×Bool)) (hp:Ad p=0) (hb:Eb p) (hM:M.length≤1000):AM Tryz.prog 74 [.ptr 10 0 0,mapV mv] (HM3 p mv M) fun r H'=>r= .d (.sl none ((Ig p M).map CX))∧H'=HM3 p mv M:=by
 have hb1:=hb.1;have hLl:=H9 p;refine Az Tryz.func74 Z Z Tryz.ntmps74 Z Z Z fun F hF=>(AC (AE (AB Z Z ?_)));refine AD (AC (AE (AB Z Z (AD (AC (AC (O4 5 900 sl69 Z Z Z Z (AE ?_))))))));refine goMv Z Z (J (KI Z Z) (J (AZ Z Jg Z Z Z) (J (A6 Z Z Z Vl Z) (J (CM Z Tryz.underlying227 Z) (goMv Z Z (AD (A4 (B5 (α:=Nat×List Roo) (fun q=>⟨53,[(0,.ptr 10 0 0),(1,mapV mv),(5,(.own 900 0 q.2.length)),(14,(.d (.sl none ((linL p).map ND)))),(15,(.d (AF ((linL p).length:Int)))),(16,(.d (AF (q.1:Int))))],HM3 p mv M++ [(900,[.rowD 73 7 (q.2.map CX)])]⟩) (fun q=>q.1≤(linL p).length∧q.2=((linL p).take q.1).flatMap (OF p M)∧q.2.length≤q.1) (fun q=>(linL p).length - q.1) ((0,[])) (⟨Δ _,Z,ϖ _⟩) (A0 hF [10,11,12,13,900] Z Z ⟨Z,Z,Z,Z,Z,Z,trivial⟩) ?_))))))));rintro ⟨k,acc⟩ ⟨hk0,hA,hL⟩;dsimp only at hk0 hA hL⊢;refine AC (AE (J (BV Z Z Z) (AD (AC (Ae Z (fun h17=>?_) (fun h17=>?_))))))
 ·have hk1:k<(linL p).length:=Bf h17;refine A1 (AC (A4 (AC (AE ?_))));have hxn:=bG hp _ (κ hk1);refine J (Bk (k) Z Z (Z) (Ah hk1) Tryz.underlying227 Z VV Z) (J (GN Z Z rw233 Z) ?_);refine V (CD 1 Yg Z Z Z Z) (V (Be Z Z Z Z Z Z Z VV) (AD (AC (AE (J (AZ Z fi233_1 Z Z Z) (J (A6 Z Z Z JG Z) (AB Z Z (AD ?_))))))));refine AC (AC (AE (goMv Z Z (DM 22 13 0 Z Z (V (Fs 2 Z Z Z Ia Z Z Z Z) (AD (A4 (B5 (α:=List Nat×Int) (fun q=>⟨53,[(0,.ptr 10 0 0),(1,mapV mv),(5,(.own 900 0 acc.length)),(7,(.ptr 1 0 0)),(8,(.d (AF q.2))),(14,(.d (.sl none ((linL p).map ND)))),(15,(.d (AF ((linL p).length:Int)))),(16,(.d (AF (k:Int)))),(23,(.ptr 2 0 0))],HM3 p mv M++ [(900,[.rowD 73 7 (acc.map CX)]),(1,[.blk 233 [.d (AF (linL p)[k].r.k),.d (Am (linL p)[k].r.acc.o),.d (AF (linL p)[k].r.acc.k),.d (Am (linL p)[k].r.acc.a),.d (Am (linL p)[k].r.f),.d (Am (linL p)[k].r.t),.d (AF (linL p)[k].n),.d (.sl none ((linL p)[k].q.map AF))]]),(2,[.iter 12 0 M.length q.1])]⟩) (fun q=>q.2+DY p (linL p)[k].r (Bo M (List.range M.length) q.1)=(linL p)[k].n+DY p (linL p)[k].r M) (fun q=>(Bo M (List.range M.length) q.1).length) (([],(linL p)[k].n)) (by show (linL p)[k].n+DY p (linL p)[k].r (Bo M (List.range M.length) [])=_;rw [Cy (by simp)]) (A0 hF [10,11,12,13,900,1,2] Z Z ⟨Z,Z,Z,Z,Z,Z,Z,Z,Z,trivial⟩) ?_))))))));rintro ⟨seen,left⟩ hI;dsimp only at hI⊢;refine AC (AE (Kc (M) Z Z Z Z (fun hl24=>?_) (fun j24 b24 k24 v24 hm24 hb24 hB24 hp24=>⟨_,Z,?_⟩)))
  ·have hfin:left=(linL p)[k].n+DY p (linL p)[k].r M:=by have h1:=hI;rw [hl24] at h1;have h2:DY p (linL p)[k].r []=0:=rfl;omega
   refine J (Cc Z Z Z) (AD ?_);refine AC (EN Z Z (BC (AC (AE (goMv Z Z (J (BV Z Z Z) (AD (Ae Z (fun h42=>?_) (fun h42=>?_)))))))))
   ·refine AE ?_;have hv4:=Tp p (linL p)[k].r hM;refine goMv Z Z (J (AZ Z Jf Z Z Z) (J (BM Z Z CU Z Z Z) (goMv Z Z (J (ZT Z (ωa _ (by omega)) Z) ?_))));refine J (FV zl73 pl73 Z Z Z) (V (D1 3 sl69 Z Z Z Z Z Z Z Z) (V (I0 (acc) ([⟨(linL p)[k].r,0 - left⟩]) Z Z Z Z Z Z Z Z sl69 (by simp only [Ψ];omega) Z Z Z Z) (AB Z Z (AD (AE (J (Ay Z Z (AT (k+1) (by omega)) Z) (goMv Z Z (AD ?_))))))));exact ⟨(k+1,acc++ [⟨(linL p)[k].r,0 - left⟩]),⟨by show k+1≤_;omega,by show acc++ [⟨(linL p)[k].r,0 - left⟩]=((linL p).take (k+1)).flatMap (OF p M);rw [GG hk1,←hA];unfold OF;rw [←hfin,θ (by simpa using h42)],by show (acc++ [_]).length≤k+1;rw [ς];simp;omega⟩,by show (linL p).length - (k+1)<(linL p).length - k;omega,A0 hF [10,11,12,13,900] Z (Z) ⟨Z,Z,Z,Z,Z,Z,trivial⟩⟩
   ·refine A1 (AE (J (Ay Z Z (AT (k+1) (by omega)) Z) (goMv Z Z (AD ?_))));exact ⟨(k+1,acc),⟨by show k+1≤_;omega,by show acc=((linL p).take (k+1)).flatMap (OF p M);rw [GG hk1,←hA];unfold OF;rw [←hfin,ϑ (by simpa using h42),ωl],by show acc.length≤k+1;omega⟩,by show (linL p).length - (k+1)<(linL p).length - k;omega,A0 hF [10,11,12,13,900] Z (Z) ⟨Z,Z,Z,Z,Z,Z,trivial⟩⟩
  ·refine J (Cc Z Z Z) ?_;refine AD (AC (DV Z Z (A1 (A4 (AC (AE (J (Ft (M) j24 b24 Z Z Z hm24 hb24 Z) (J (Cc Z Z Z) ?_))))))));refine J (Cc Z Z Z) (AB Z Z (AB Z Z (AD (AC (AE (goMv Z Z (AD (KK Z (fun h29=>?_) (fun h29=>?_)))))))))
   ·refine Cb [[],[],[1],[1,2],[1,2,3],[],[1,2,3,4,5],[],[7],[1,2,3,4,5,6,7,8],[0,1,2,3,4,5,6,7,8,9],[0,1,2,3,4,5,6,7,8,9,10]] mixed Z (Cr ?_);have hb3:=QF hb k24;have hv1:=Tp p (linL p)[k].r hM;have hv2:=Tp p (linL p)[k].r (ωf (WM (m:=M) (B:=List.range M.length) (seen:=seen)) hM);have hv3:=cP (BK p k24) (linL p)[k].r;refine AJ [8] [] Z Z (fun _=>AG (Aj Z Z)) (AJ [0] [] Z Z (fun _=>AG (Aj Z Z)) (AJ [31] [] Z Z (fun _=>AG (KI Z Z)) (AJ [32] [] Z Z (fun _=>AG (AZ Z Jh Z Z Z)) (At [33] Z Z (fun _=>AG (A6 Z Z Z Rs Z)) ?_))));refine AJ [9] [] Z Z (fun _=>AG (Aj Z Z)) (At [34,35] Z Z (fun _=>AG (RO (CO p.it) k24 itm0 (BK p k24) Z Z Z SF HE za55 G7 (PT p k24) Z)) (AJ [7] [] Z Z (fun _=>AG (AZ Z Jf Z Z Z)) (At [37] Z Z (fun _=>AG (BM Z Z CU Z Z Z)) (AJ [36,38] [] Z Z (fun _=>AG (B4 (W4 (BK p k24) (linL p)[k].r (by omega) (by omega) (by omega)) Z Z)) (C3 10 Z Z Z (Aa 11 Z Z (J (Ay Z Z (ωa _ (by omega)) Z) (AD ⟨Z,?_⟩))))))));refine Aa 12 Z Z (AB Z Z (AD ⟨Z,?_⟩));refine C9 ?_;exact ⟨(seen++ [b24],left+Bg (BK p k24) (linL p)[k].r),(by show left+Bg (BK p k24) (linL p)[k].r+DY p (linL p)[k].r (Bo M (List.range M.length) (seen++ [b24]))=_;rw [←hI,KQ hp24,MR,θ (by simpa using h29)];omega),by show (Bo M (List.range M.length) (seen++ [b24])).length<(Bo M (List.range M.length) seen).length;rw [hp24.length_eq];exact χl _,A0 hF [10,11,12,13,900,1,2] Z (Z) ⟨Z,Z,Z,Z,Z,Z,Z,Z,Z,trivial⟩⟩
   ·refine A1 ?_;exact ⟨(seen++ [b24],left),(by show left+DY p (linL p)[k].r (Bo M (List.range M.length) (seen++ [b24]))=_;rw [←hI,KQ hp24,MR,ϑ (by simpa using h29)];omega),by show (Bo M (List.range M.length) (seen++ [b24])).length<(Bo M (List.range M.length) seen).length;rw [hp24.length_eq];exact χl _,A0 hF [10,11,12,13,900,1,2] Z (Z) ⟨Z,Z,Z,Z,Z,Z,Z,Z,Z,trivial⟩⟩
 ·refine BC (AC ?_);have hfa:acc=Ig p M:=by rw [hA,Ξ (by have h:=h17;omega)];rfl
  refine L3 (emb:=CX) 5 900 acc Z Z Z Z Z Z Z (AE (goMv Z Z (AB Z Z (AD (A5 ?_)))));exact ⟨_,[10,11,12,13],_,A3 Z,Z,Z,by rw [hfa],Z⟩
def GM (l:List Int) (x:Int):Bool:=decide (x∈l)
theorem VK (p:Prb) (l:List Int) (hb:Eb p) (hl:l.length≤1000):AO Tryz.prog 28 [.d (Bq p),.d (.sl none (l.map AF))] (.tup [.sl none ((if DU p l=0 then Ig p (As l) else []).map CX),AF (DU p l)]):=by
 by_cases hE:DU p l=0
 ·have hpr:=(Mh p l hb (by omega) hE).by [(2,12)] rfl;have h0:=TQ hE;rw [θ hE,hE];have hbk:=fun mv=>Pe p mv (As l) h0 hb (by unfold As;rw [ψ];exact hl);refine Az Tryz.func28 Z Z Tryz.ntmps28 Z Z Z fun F hF=>(AC (AE ?_));refine V (CC 1 Z Z Z Z Z Z Z) (AB Z Z (AB Z Z (AD (AC (AE (J (BM Z Z B2 Z Z Z) (goMv Z Z (V (EW hpr Z [10,11,12] ⟨Z,Z,Z,trivial⟩ Z Z Z Z Z Z Z Z Z) ?_))))))));refine goMv Z Z (J (Cc Z Z Z) (J (Cc Z Z Z) (J (Cc Z Z Z) (AB Z Z (AB Z Z (AB Z Z (AD (AC ?_))))))));refine AC (AE (goMv Z Z (J (DX Z Z Z) (AD (EN Z ((by decide)) (A1 (AC (T7 13 12 0 Z Z Z Z Z fun mv=>?_))))))));refine Wh 7 13 0 (.inl Z) Z (AE (goMv Z Z (goMv Z Z (V (EW (hbk mv) Z [10,11,12,13] ⟨Z,Z,Z,Z,trivial⟩ Z Z Z Z Z Z Z Z Z) (AB Z Z (AB Z Z (AD (A5 ?_))))))));exact ⟨_,[],[],A3 Z,Z,Z,Z,Z⟩
 ·have hpr:=Rb p l hb (by omega) hE;rw [ϑ hE];refine Az Tryz.func28 Z Z Tryz.ntmps28 Z Z Z fun F hF=>(AC (AE (V (CC 1 Z Z Z Z Z Z Z) (AB Z Z (Wp 4 Z (AB Z Z (AD (AC ?_))))))));refine AE (J (BM Z Z B2 Z Z Z) (goMv Z Z (J (B4 (hpr) Z Z) (goMv Z Z (J (DD Z Z Z) (J (DD Z Z Z) (J (DD Z Z Z) (AB Z Z ?_))))))));refine AB Z Z (AB Z Z (AD (AC (AC (AE (goMv Z Z (J (DX Z Z Z) (AD ?_))))))));refine DV Z ((ωc hE)) (AC (AE (goMv Z Z (AB Z Z (Wp 4 Z (AB Z Z (AD (A5 ?_))))))));exact ⟨_,[],[],A3 Z,Z,Z,Z,Z⟩
theorem PC.le {γ:Type} {c:γ ->γ ->Int} (h:PC c) {x y z:γ} (h1:c x y≤0) (h2:c y z≤0):c x z≤0:=by
 by_cases e1:c x y=0
 ·rw [h.eqv x y z e1];exact h2
 ·by_cases e2:c y z=0
  ·have a1:=h.anti y z;have e3:c z y=0:=by omega
   have a2:=h.eqv z y x e3;have a3:=h.anti z x;have a4:=h.anti y x;omega
  ·have:=h.trans x y z (by omega) (by omega);omega
theorem W7 {a b:Int}:¬Dk b a<0↔a≤b:=by unfold Dk;split<;>(try split)<;>omega
theorem RU {l ys:List Int} (h1:ys.Perm l) (h2:ys.Pairwise fun a b=>¬Dk b a<0):ys=Cf l:=
 List.Perm.eq_of_pairwise (le:=fun a b:Int=>a≤b) (fun a b _ _ g1 g2=>by omega) (h2.imp fun h=>W7.1 h) (JP l) (h1.trans (dM l).symm)
theorem U5 {p:Prb} (hp:Ad p=0) {x:AK} (hx:x∈p.it):BK p x.id=x:=by
 obtain ⟨hk,_,e,e2⟩:=NK (p:=p) (ν.2 ⟨x,hx,Z⟩);exact WS (dI (Nv hp).2.1) (by rw [e];exact κ hk) hx e2
theorem Zw {i:Int} {q:List Int} (h:i∈q):prefN i q=q.idxOf i:=by unfold prefN bW;rw [θ h];omega
structure PV (p:Prb):Prop where
 e:Ad p=0
 b:Eb p
 i:p.it.length≤1000
 r:p.ro.length≤1000
 q:∀i∈p.it,i.po.length≤1000∧i.pa.length≤1000∧i.af.length≤1000
structure Sma where
 ids:List Int
 bl:List Nat
 de:List (List Int)
 rm:List Int
def badS (s:Sma) (x:Nat) (i:Nat):Bool:=x.testBit i && decide (anU (s.bl.getD i 0) x≠0)
def admS (s:Sma) (x:Nat):Bool:=!(List.range s.bl.length).any (badS s x)
def listS (s:Sma) (x:Nat):List Int:=((List.range s.ids.length).filter fun i=>x.testBit i).map fun i=>s.ids.getD i 0
def enumX (n:Nat):Nat ->Nat ->Nat ->List Nat
 | 0,_,x=> [x]
 | l+1,frm,x=>((List.range (n+1 - (l+1) - frm)).map (frm+ ·)).flatMap fun i=>enumX n l (i+1) (x ||| 1<<<i)
section
variable {β:Type} (step:β ->Nat ->β×Bool)
end
section
variable {β:Type}
def cw (s:Sma):List Nat:=(List.range (s.ids.length+1)).flatMap fun k=>(enumX s.ids.length k 0 0).filter (admS s)
end
def smI (p:Prb):List Int:=Cf (Gx p)
theorem IF {p:Prb} (hp:Ad p=0):(Gx p).Perm (p.it.map AK.id):=by
 unfold Gx ordP;rw [θ hp];exact (Qd p.it).map _
theorem Z3 {p:Prb} (hp:Ad p=0):(smI p).Perm (p.it.map AK.id):=(dM _).trans (IF hp)
theorem V6 {p:Prb} (hp:Ad p=0) (x:Int):x∈smI p↔x∈p.it.map AK.id:=(Z3 hp).mem_iff
theorem req_in {p:Prb} (hp:Ad p=0) {i:Int} (hi:i∈p.it.map AK.id) {b:Bkd} (hb:b∈req p i):b.m∈smI p:=by
 rw [V6 hp];unfold req at hb;rcases υ.1 hb with h | h
 ·unfold UK at h;obtain ⟨x,hx,rfl⟩:=ν.1 h;have hx':=(dM _).mem_iff.1 hx;obtain ⟨hk,_,he,_⟩:=NK hi;rw [he] at hx';have hf:=Jc (Nv hp).2.2 _ (ν.2 ⟨_,κ hk,Z⟩);unfold Ug at hf
  split at hf
  ·cases hf
  ·rename_i hn
   show x∈_;have hn2:¬J1 (p.it.map AK.id) x=true:=fun h=>hn (List.any_eq_true.2 ⟨x,hx',h⟩)
   simpa [J1] using hn2
 ·obtain ⟨y,hy,h⟩:=χk.1 h;unfold EZ at h;obtain ⟨z,hz,rfl⟩:=ν.1 h;have hz':z∈y.q:=ψe hz;unfold linL at hy;obtain ⟨r,_,rfl⟩:=ν.1 hy;have hz2:z∈qIds (ordP p) r.r:=hz';unfold qIds at hz2;obtain ⟨o,ho,rfl⟩:=ν.1 hz2;exact (IF hp).mem_iff.1 (ν.2 ⟨o,(Ω.1 ho).1,Z⟩)
structure SmaB (s:Sma):Prop where
 n:s.ids.length≤20
 b:s.bl.length≤20
 u:∀b∈s.bl,b<4294967296
 r:s.rm.length≤1000
 d:s.de.length=s.rm.length
 v:∀r∈s.de,r.length≤32∧∀v∈r,-1000000000000000≤v∧v≤1000000000000000
 m:∀v∈s.rm,0≤v∧v≤4000000000000000
deriving instance DecidableEq for Lin
theorem XL:Cf []=[]:=ωx (Ed [])
inductive Tl (p:Prb) (S:List Int):Int ->Prop
 | base {x:Int} (h:x∈S):Tl p S x
 | step {i:Int} {b:Bkd} (h:Tl p S i) (hb:b∈req p i):Tl p S b.m
theorem Tl.ids {p:Prb} {S:List Int} (hp:Ad p=0) (hS:∀x∈S,x∈p.it.map AK.id) {x:Int} (h:Tl p S x):x∈p.it.map AK.id:=by
 induction h with
 | base h=>exact hS _ h
 | step _ hb ih=>exact (V6 hp _).1 (req_in hp ih hb)
theorem Nl {p:Prb} {f:Int ->Bool} {b:Bkd} (h:b∈blks p f):∃i,i∈Gx p∧f i=true∧b∈req p i∧f b.m=false:=by
 unfold blks at h;obtain ⟨i,hi,h⟩:=χk.1 h;unfold HC at h
 split at h
 ·rename_i hf
  obtain ⟨h1,h2⟩:=Ω.1 h;exact ⟨i,hi,hf,h1,by simpa using h2⟩
 ·cases h
theorem LD {p:Prb} {f:Int ->Bool} (hp:Ad p=0) (h:blks p f=[]) {i:Int} (hi:i∈p.it.map AK.id) (hf:f i=true) {b:Bkd} (hb:b∈req p i):f b.m=true:=by
 cases hm:f b.m with
 | true=>rfl
 | false=>
  have:b∈blks p f:=χk.2 ⟨i,(IF hp).mem_iff.2 hi,by unfold HC;rw [θ hf];exact Ω.2 ⟨hb,by rw [hm];rfl⟩⟩;rw [h] at this;cases this
noncomputable def cloS (p:Prb) (S:List Int):List Int:=Cf ((p.it.map AK.id).filter fun x=> @decide (Tl p S x) (Classical.propDecidable _))
theorem M0 {l m:List Int} (h:l.Perm m):Cf l=Cf m:=RU ((dM l).trans h) ((JP l).imp fun h=>W7.2 h)
theorem W9 {p:Prb} {S C:List Int} (hp:Ad p=0) (hS:∀x∈S,x∈p.it.map AK.id) (hn:C.Nodup) (h:∀x,x∈C↔Tl p S x):Cf C=cloS p S:=by
 unfold cloS;have hi:=dI (Nv hp).2.1;refine M0 ((χz hn (List.Nodup.sublist ψq hi)).2 fun x=>?_);rw [h x,Ω]
 constructor
 ·intro hr;exact ⟨hr.ids hp hS,by simpa using hr⟩
 ·intro hr;simpa using hr.2
theorem PZ {α:Type} {q r:α ->Bool}:∀{l:List α},(∀x∈l,q x=true ->r x=true) ->(∃x,x∈l∧r x=true∧q x=false) ->(l.filter q).length<(l.filter r).length
 | [],_,⟨x,hx,_⟩=>by cases hx
 | a::l,h,⟨x,hx,h1,h2⟩=>by
  have hle:∀{l:List α},(∀x∈l,q x=true ->r x=true) ->(l.filter q).length≤(l.filter r).length:=by
   intro l
   induction l with
   | nil=>intro _;exact ϖ _
   | cons c l ih=>
    intro h;have h3:=ih fun x hx=>h x (ωn _ hx);have h4:=h c ωk;rw [ψv,ψv]
    cases hq:q c with
    | false=>cases r c<;>simp<;>omega
    | true=>rw [h4 hq];simp;exact h3
  have ht:=hle (l:=l) fun x hx=>h x (ωn _ hx);rw [ψv,ψv];rcases Φ.1 hx with rfl | hx
  ·rw [h1,h2];simp;omega
  ·have ih:=PZ (l:=l) (fun x hx=>h x (ωn _ hx)) ⟨x,hx,h1,h2⟩;have h4:=h a ωk
   cases hq:q a with
   | false=>cases r a<;>simp<;>omega
   | true=>rw [h4 hq];simp;exact ih
structure Cl (p:Prb) (S C:List Int):Prop where
 n:C.Nodup
 s:∀x∈S,x∈C
 r:∀x∈C,Tl p S x
theorem Cl.len {p:Prb} {S C:List Int} (h:Cl p S C) (hp:Ad p=0) (hS:∀x∈S,x∈p.it.map AK.id):C.length≤p.it.length:=by
 have hi:=dI (Nv hp).2.1
 have h1:=((χz h.n (List.Nodup.sublist (ψq (p:=fun x=>decide (x∈C))) hi)).2 fun x=>by
  rw [Ω]
  exact ⟨fun hx=>⟨(h.r x hx).ids hp hS,by simpa using hx⟩,fun hx=>by simpa using hx.2⟩).length_eq
 have h2:=ωj (fun x=>decide (x∈C)) (p.it.map AK.id);rw [ψ] at h2;omega
theorem Cl.done {p:Prb} {S C:List Int} (h:Cl p S C) (hp:Ad p=0) (hS:∀x∈S,x∈p.it.map AK.id) (h0:blks p (GM C)=[]):Cf C=cloS p S:=by
 refine W9 hp hS h.n fun x=>⟨h.r x,fun hr=>?_⟩
 induction hr with
 | base hx=>exact h.s _ hx
 | @step i b hr hb ih=>
  have h1:=LD hp h0 (hr.ids hp hS) (ωc ih) hb
  simpa [GM] using h1
theorem Cl.add {p:Prb} {S C:List Int} (h:Cl p S C) {b:Bkd} (hb:b∈blks p (GM C)):Cl p S (C++ [b.m])∧b.m∉C:=by
 obtain ⟨i,_,h2,h3,h4⟩:=Nl hb;have hi:i∈C:=by simpa [GM] using h2
 have hn:b.m∉C:=by simpa [GM] using h4
 refine ⟨⟨?_,fun x hx=>υ.2 (.inl (h.s x hx)),fun x hx=>?_⟩,hn⟩
 ·rw [χo];refine ⟨h.n,by simp,fun x hx y hy e=>?_⟩;rw [ξ] at hy;subst hy;subst e;exact hn hx
 ·rcases υ.1 hx with hx | hx
  ·exact h.r x hx
  ·rw [ξ.1 hx];exact .step (h.r i hi) h3
theorem Cl.dec {p:Prb} {C D:List Int} {m:Int} (hm:m∈p.it.map AK.id) (h1:m∉C) (h2:m∈D) (h:∀x∈C,x∈D):((p.it.map AK.id).filter fun x=>!GM D x).length<((p.it.map AK.id).filter fun x=>!GM C x).length:=
 PZ (fun x _ hx=>by
  have:x∉D:=by simpa [GM] using hx
  have:x∉C:=fun hc=>this (h x hc)
  simpa [GM] using this) ⟨m,hm,by simpa [GM] using h1,by simpa [GM] using h2⟩
theorem YW {p:Prb} (hb:Eb p) (h1:p.it.length≤1000) (h2:p.ro.length≤1000) (f:Int ->Bool):(blks p f).length≤1100000000:=by
 unfold blks;have h5:=Je (f:=HC p f) (n:=1100000) (l:=Gx p) (fun x _=>TX hb h1 h2 f x);have h6:(Gx p).length≤1000:=by unfold Gx;rw [ψ];exact ωf (DK p) h1
 have h7:(Gx p).length*1100000≤1000*1100000:=ψd _ h6;omega
def Cs (M:List (Int×Bool)):List Int:=(M.filter fun e=>e.2).map Prod.fst
theorem MT (k:Int) (v:Bool) (M:List (Int×Bool)):Cs ((k,v)::M)=(if v=true then [k] else [])++Cs M:=by
 unfold Cs;cases v<;>simp
theorem MS {l m:List (Int×Bool)} (h:l.Perm m):(Cs l).Perm (Cs m):=(h.filter _).map _
theorem Wz (M:List (Int×Bool)):(Cs M).length≤M.length:=by unfold Cs;rw [ψ];exact ωj _ _
abbrev HM4 (mv:Nat) (B:List Nat) (c:Nat) (M:List (Int×Bool)):Hp:=[(12,[.map (some (B,c)) (BN AF Ag M)]),(13,[.addr 12 0 (.map (some mv))])]
theorem ZY (mv:Nat) (B:List Nat) (c:Nat) (M:List (Int×Bool)) (hB:B.length=M.length) (hM:M.length≤100000):AM Tryz.prog 73 [mapV mv] (HM4 mv B c M) fun r H'=>r= .own 900 0 (Cs M).length∧H'=HM4 mv B c M++ [(900,[.rowD 3 1 ((Cf (Cs M)).map AF)])]:=by
 have hT:=Wz M;refine Az Tryz.func73 Z Z Tryz.ntmps73 Z Z Z fun F hF=>?_;refine AC (AE (AB Z Z (AD (AC (AE (AB Z Z (AD (AC ?_))))))));refine AC (O4 3 900 BW Z Z Z Z (AE (goMv Z Z (DM 6 13 0 Z Z (V (Fs 1 Z Z Z Ia Z Z Z Z) (AD (A4 (B5 (α:=List Nat×List Int) (fun q=>⟨21,[(3,(.own 900 0 q.2.length)),(7,(.ptr 1 0 0))],HM4 mv B c M++ [(900,[.rowD 3 1 (q.2.map AF)]),(1,[.iter 12 0 c q.1])]⟩) (fun q=>(q.2++Cs (Bo M B q.1)).Perm (Cs M)) (fun q=>(Bo M B q.1).length) (([],[])) (by show ([]++Cs (Bo M B [])).Perm _;rw [Cy hB];exact List.Perm.refl _) (A0 hF [12,13,900,1] Z Z ⟨Z,Z,trivial⟩) ?_))))))));rintro ⟨seen,acc⟩ hI;dsimp only at hI⊢;refine AC (AE (Kc (M) Z Z Z Z (fun hl8=>?_) (fun j8 b8 k8 v8 hm8 hb8 hB8 hp8=>⟨_,Z,?_⟩)))
 ·have hfin:acc.Perm (Cs M):=by have h1:=hI;rw [hl8] at h1;simpa [Cs] using h1
  refine J (Cc Z Z Z) (AD (AC (EN Z Z (BC (AC (AE ?_))))));have hal2:=hfin.length_eq;refine goMv Z Z (V (RJ laysS acc (by omega) Z Z Z Z Z Z Z) (AD (AC (AE (goMv Z Z (AB Z Z (AD (A5 ?_))))))));exact ⟨_,[12,13,900],_,A3 Z,Z,Z,by rw [hfin.length_eq],by rw [M0 hfin];rfl⟩
 ·refine J (Cc Z Z Z) ?_;refine AD (AC (DV Z Z (A1 (A4 (AC (AE (J (Ft (M) j8 b8 Z Z Z hm8 hb8 Z) (J (Cc Z Z Z) ?_))))))));refine J (Cc Z Z Z) (AB Z Z (AB Z Z (AD (AC (AE (goMv Z Z (AD (KK Z (fun h13=>?_) (fun h13=>?_)))))))))
  ·refine AE (goMv Z Z ?_);have hal:acc.length≤100000:=by have h1:=hI.length_eq;rw [ς] at h1;omega
   refine goMv Z Z (V (D1 30 BW Z Z Z Z Z Z Z Z) (V (I0 (acc) ([k8]) Z Z Z Z Z Z Z Z BW (by simp only [Ψ];omega) Z Z Z Z) (AB Z Z (AD ?_))));exact ⟨(seen++ [b8],acc++ [k8]),(by show ((acc++ [k8])++Cs (Bo M B (seen++ [b8]))).Perm _;refine List.Perm.trans (List.Perm.trans ?_ (List.Perm.append_left acc (MS hp8)).symm) hI;rw [MT,θ (by simpa using h13),ψk]),by show (Bo M B (seen++ [b8])).length<(Bo M B seen).length;rw [hp8.length_eq];exact χl _,A0 hF [12,13,900,1] Z (Z) ⟨Z,Z,trivial⟩⟩
  ·refine A1 ?_;exact ⟨(seen++ [b8],acc),(by show (acc++Cs (Bo M B (seen++ [b8]))).Perm _;refine List.Perm.trans (List.Perm.trans ?_ (List.Perm.append_left acc (MS hp8)).symm) hI;rw [MT,ϑ (by simpa using h13),List.nil_append]),by show (Bo M B (seen++ [b8])).length<(Bo M B seen).length;rw [hp8.length_eq];exact χl _,A0 hF [12,13,900,1] Z (Z) ⟨Z,Z,trivial⟩⟩
def Uy (M:List (Int×Bool)):Prop:=∀e∈M,e.2=true
def keysM (M:List (Int×Bool)):List Int:=M.map Prod.fst
theorem XA {M:List (Int×Bool)} (h:Uy M):Cs M=keysM M:=by
 unfold Cs keysM;rw [List.filter_eq_self.2 h]
theorem WR {M:List (Int×Bool)} (h:Uy M):inM M=GM (keysM M):=funext fun x=>by
 unfold inM GM
 by_cases hx:x∈keysM M
 ·rw [ωc hx];exact h _ (H8 (z:=false) hx)
 ·rw [ωp hx];exact II hx
theorem cy {M:List (Int×Bool)} (h:Uy M) (x:Int):Uy (Au M x true):=fun e he=>by
 obtain ⟨j,hj,rfl⟩:=χp.1 he;have h1:=Lv (m:=M) (a:=x) (b:=true)
 by_cases e:j=mix M x
 ·subst e;have:=h1.1;rw [ω hj] at this;injection this with this;rw [this]
 ·have h2:=h1.2 j e;rw [ω hj] at h2;exact h _ (ζ h2.symm)
theorem NH (M:List (Int×Bool)) (x:Int) (b:Bool):keysM (Au M x b)=if x∈keysM M then keysM M else keysM M++ [x]:=Kg
theorem Cl.put {p:Prb} {S:List Int} {M:List (Int×Bool)} (h:Cl p S (keysM M)) {x:Int} (hx:Tl p S x):Cl p S (keysM (Au M x true)):=by
 rw [NH]
 split
 ·exact h
 ·rename_i hn
  refine ⟨?_,fun y hy=>υ.2 (.inl (h.s y hy)),fun y hy=>?_⟩
  ·rw [χo];exact ⟨h.n,by simp,fun a ha b hb e=>by rw [ξ] at hb;subst hb;subst e;exact hn ha⟩
  ·rcases υ.1 hy with hy | hy
   ·exact h.r y hy
   ·rw [ξ.1 hy];exact hx
theorem Z9 (l:List Int):Uy (As l):=fun e he=>by
 unfold As at he;obtain ⟨x,_,rfl⟩:=ν.1 he;rfl
theorem XO (l:List Int):keysM (As l)=l:=by unfold keysM As;rw [ωr];exact List.map_id' l
theorem W8 (p:Prb) (l:List Int) (hb:Eb p) (hl:l.length≤1000) (h1:p.it.length≤1000) (h2:p.ro.length≤1000) (hE:DU p l=0) (hn:l.Nodup) (hS:∀x∈l,x∈p.it.map AK.id):AM Tryz.prog 27 [.d (Bq p),.d (.sl none (l.map AF))] [] fun r H'=>r= .tup [.own 900 0 (cloS p l).length,.d (AF 0)]∧H'=[(900,[.rowD 3 1 ((cloS p l).map AF)])]:=by
 have hpr:=(Mh p l hb (by omega) hE).by [(2,12)] rfl;have h0:=TQ hE;have hbk:=fun mv M=>cg p mv (some (List.range M.length,M.length)) M hb h1 h2;refine Az Tryz.func27 Z Z Tryz.ntmps27 Z Z Z fun F hF=>(AC (AE (V (CC 1 Z Z Z Z Z Z Z) ?_)));refine AB Z Z (AB Z Z (AD (AC (AE (J (BM Z Z B2 Z Z Z) (goMv Z Z (V (EW hpr Z [10,11,12] ⟨Z,Z,Z,trivial⟩ Z Z Z Z Z Z Z Z Z) (goMv Z Z ?_))))))));refine J (Cc Z Z Z) (J (Cc Z Z Z) (J (Cc Z Z Z) (AB Z Z (AB Z Z (AB Z Z (AD (AC (AC ?_))))))));refine AE (goMv Z Z (J (DX Z Z Z) (AD (EN Z ((by decide)) (A1 (AC (AC (T7 13 12 0 Z Z Z Z Z fun mv=>?_))))))));refine Wh 7 13 0 (.inl Z) Z (AE (goMv Z Z (goMv Z Z (V (EW (hbk mv (As l)) Z [10,11,12,13] ⟨Z,Z,Z,Z,trivial⟩ Z Z Z Z Z Z Z Z Z) (AB Z Z (AD (A4 (B5 (α:=List (Int×Bool)) (fun M=>⟨43,[(6,(.ptr 10 0 0)),(7,(mapV mv)),(9,(.d (.sl none ((blks p (inM M)).map OY))))],HM2 p mv (some (List.range M.length,M.length)) M⟩) (fun M=>Uy M∧Cl p l (keysM M)) (fun M=>((p.it.map AK.id).filter fun x=>!GM (keysM M) x).length) (As l) (⟨Z9 l,by rw [XO];exact ⟨hn,fun _ h=>h,fun _ h=> .base h⟩⟩) (A0 hF [10,11,12,13] Z Z ⟨Z,Z,Z,trivial⟩) ?_))))))));rintro M ⟨hT,hC⟩;refine AC (AC (AE (goMv Z Z ?_)));have hWl:(blks p (inM M)).length≤1100000000:=YW hb h1 h2 _;refine J (CM Z Tryz.underlying141 Z) (J (ML Z Z Z) (AD (Ae Z (fun h27=>?_) (fun h27=>?_))))
 ·refine A1 (AC (A4 (AC ?_)));have hw0:0<(blks p (inM M)).length:=by have h:=h27;omega
  have hmem:∀b∈blks p (inM M),Tl p l b.m∧b.m∉keysM M:=fun b hb=>by rw [WR hT] at hb;exact ⟨(hC.add hb).1.r _ (by simp),(hC.add hb).2⟩
  refine AE (goMv Z Z (J (CM Z Tryz.underlying141 Z) (goMv Z Z (AD (A4 (B5 (α:=Nat×List (Int×Bool)) (fun q=>⟨43,[(6,(.ptr 10 0 0)),(7,(mapV mv)),(31,(.d (.sl none ((blks p (inM M)).map OY)))),(32,(.d (AF ((blks p (inM M)).length:Int)))),(33,(.d (AF (q.1:Int))))],HM2 p mv (some (List.range q.2.length,q.2.length)) q.2⟩) (fun q=>q.1≤(blks p (inM M)).length∧Uy q.2∧Cl p l (keysM q.2)∧(∀x∈keysM M,x∈keysM q.2)∧(0<q.1 ->(blks p (inM M))[0].m∈keysM q.2)) (fun q=>(blks p (inM M)).length - q.1) ((0,M)) (⟨Δ _,hT,hC,fun _ h=>h,fun h=>absurd h (φg 0)⟩) (A0 hF [10,11,12,13] Z Z ⟨Z,Z,Z,Z,Z,trivial⟩) ?_))))));rintro ⟨k,M2⟩ ⟨hk0,hT2,hC2,hsub,hfst⟩;dsimp only at hk0 hT2 hC2 hsub hfst⊢;refine AC (AE (J (BV Z Z Z) (AD (AC (Ae Z (fun h34=>?_) (fun h34=>?_))))))
  ·have hk1:k<(blks p (inM M)).length:=Bf h34;refine A1 (AC (A4 ?_));refine AC (AE (J (Bk (k) Z Z (Z) (Ah hk1) Tryz.underlying141 Z sz144 Z) (J (GN Z Z rw144 Z) (V (CD 2 Yj Z Z Z Z) (V (Be Z Z Z Z Z Z Z sz144) (AD (AE (goMv Z Z ?_))))))));refine DM 37 13 0 Z Z (J (AZ Z fi144_1 Z Z Z) (J (A6 Z Z Z Aq Z) (V (Tk (M2) ((blks p (inM M))[k].m) (true) Z Z Z Ia HE Z Z) (AD (AE (J (Ay Z Z (AT (k+1) (by omega)) Z) (goMv Z Z (AD ?_))))))));exact ⟨(k+1,Au M2 (blks p (inM M))[k].m true),⟨by show k+1≤_;omega,cy hT2 _,hC2.put (hmem _ (κ hk1)).1,fun x hx=>by show x∈keysM (Au M2 _ true);rw [NH];split;exact hsub x hx;exact υ.2 (.inl (hsub x hx)),fun _=>by show _∈keysM (Au M2 _ true);rw [NH];rcases φm k with hk | hk;subst hk;split;assumption;simp;split;exact hfst hk;exact υ.2 (.inl (hfst hk))⟩,by show (blks p (inM M)).length - (k+1)<(blks p (inM M)).length - k;omega,A0 hF [10,11,12,13] Z (Z) ⟨Z,Z,Z,Z,Z,trivial⟩⟩
  ·have hdec:((p.it.map AK.id).filter fun x=>!GM (keysM M2) x).length<((p.it.map AK.id).filter fun x=>!GM (keysM M) x).length:=Cl.dec ((hmem _ (κ hw0)).1.ids h0 hS) (hmem _ (κ hw0)).2 (hfst (by have h:=h34;omega)) hsub;refine BC (AE (goMv Z Z (goMv Z Z (V (EW (hbk mv M2) Z [10,11,12,13] ⟨Z,Z,Z,Z,trivial⟩ Z Z Z Z Z Z Z Z Z) (AB Z Z (AD ?_))))));exact ⟨M2,⟨hT2,hC2⟩,hdec,A0 hF [10,11,12,13] Z (Z) ⟨Z,Z,Z,trivial⟩⟩
 ·refine BC (AC ?_);have hb0:blks p (GM (keysM M))=[]:=by rw [←WR hT];exact ωx (by have h:=h27;omega)
  have hML:M.length≤100000:=by have h3:=hC.len h0 hS;unfold keysM at h3;rw [ψ] at h3;omega
  have hfin:Cf (Cs M)=cloS p l:=by rw [XA hT];exact hC.done h0 hS hb0
  have hfl:(Cs M).length=(cloS p l).length:=by rw [←hfin,Ed]
  refine AE (goMv Z Z (V (EW (ZY mv (List.range M.length) M.length M (by simp) hML) Z [12,13,900] ⟨Z,Z,Z,trivial⟩ Z Z Z Z Z Z Z Z Z) (AB Z Z (AB Z Z (AD (A5 ?_))))));exact ⟨_,[900],_,A3 Z,Z,Z,by rw [hfl],by rw [hfin]⟩
inductive Drp (p:Prb) (S:List Int):Int ->Prop
 | base {i:Int} {b:Bkd} (hb:b∈req p i) (h:b.m∉S):Drp p S i
 | step {i:Int} {b:Bkd} (hb:b∈req p i) (h:Drp p S b.m):Drp p S i
theorem req_i {p:Prb} {i:Int} {b:Bkd} (hb:b∈req p i):b.i=i:=by
 unfold req at hb;rcases υ.1 hb with h | h
 ·unfold UK at h;obtain ⟨x,_,rfl⟩:=ν.1 h;rfl
 ·obtain ⟨y,_,h⟩:=χk.1 h;unfold EZ at h;obtain ⟨z,_,rfl⟩:=ν.1 h;rfl
noncomputable def intS (p:Prb) (S:List Int):List Int:=Cf (S.filter fun x=> @decide (¬Drp p S x) (Classical.propDecidable _))
structure Ci (p:Prb) (S C:List Int):Prop where
 n:C.Nodup
 s:∀x∈C,x∈S
 r:∀x∈S,x∉C ->Drp p S x
theorem Ci.done {p:Prb} {S C:List Int} (h:Ci p S C) (hp:Ad p=0) (hn:S.Nodup) (hS:∀x∈S,x∈p.it.map AK.id) (h0:blks p (GM C)=[]):Cf C=intS p S:=by
 have key:∀x,Drp p S x ->x∉C:=fun x hx=>by
  induction hx with
  | @base i b hb hm=>
   intro hi;have h1:=LD hp h0 (hS _ (h.s _ hi)) (ωc hi) hb;exact hm (h.s _ (by simpa [GM] using h1))
  | @step i b hb _ ih=>
   intro hi;have h1:=LD hp h0 (hS _ (h.s _ hi)) (ωc hi) hb;exact ih (by simpa [GM] using h1)
 unfold intS;refine M0 ((χz h.n (List.Nodup.sublist ψq hn)).2 fun x=>?_);rw [Ω]
 constructor
 ·intro hx;exact ⟨h.s x hx,by simpa using fun hd=>key x hd hx⟩
 ·intro hx;have h2:¬Drp p S x:=by simpa using hx.2
  exact Classical.byContradiction fun hc=>h2 (h.r x hx.1 hc)
theorem Ci.drop {p:Prb} {S C:List Int} (h:Ci p S C) {b:Bkd} (hb:b∈blks p (GM C)):Drp p S b.i∧b.i∈C:=by
 obtain ⟨i,_,h2,h3,h4⟩:=Nl hb;have hi:i∈C:=by simpa [GM] using h2
 have hm:b.m∉C:=by simpa [GM] using h4
 rw [req_i h3];refine ⟨?_,hi⟩
 by_cases hs:b.m∈S
 ·exact .step h3 (h.r _ hs hm)
 ·exact .base h3 hs
theorem Ci.rest {p:Prb} {S C:List Int} (h:Ci p S C) {x:Int} (hx:Drp p S x):Ci p S (C.filter fun y=>decide (y≠x)):=by
 refine ⟨List.Nodup.sublist ψq h.n,fun y hy=>h.s y (Ω.1 hy).1,fun y hy hn=>?_⟩
 by_cases hc:y∈C
 ·by_cases e:y=x
  ·subst e;exact hx
  ·exact absurd (Ω.2 ⟨hc,by simpa using e⟩) hn
 ·exact h.r y hy hc
theorem ay (M:List (Int×Bool)) (x:Int):mix M x=(keysM M).idxOf x:=by
 induction M with
 | nil=>rfl
 | cons e r ih=>
  obtain ⟨k,v⟩:=e;show (if x=k then 0 else mix r x+1)=(k::keysM r).idxOf x;rw [ih,List.idxOf_cons]
  by_cases e:x=k
  ·subst e;simp
  ·have:(k==x)=false:=by simpa using fun h=>e h.symm
   rw [ϑ e,this];rfl
theorem bQ {M:List (Int×Bool)} (hn:(keysM M).Nodup) (x:Int):keysM (mdel M x)=(keysM M).filter fun y=>decide (y≠x):=by
 unfold mdel;rw [ay];show ((M.eraseIdx _).map Prod.fst)=_;rw [WI];show (keysM M).eraseIdx _=_;rw [←List.erase_eq_eraseIdx_of_idxOf Z,List.Nodup.erase_eq_filter hn]
 apply χq
 intro y _
 by_cases e:y=x
 ·subst e;simp
 ·simp [e]
theorem Ci.del {p:Prb} {S:List Int} {M:List (Int×Bool)} (h:Ci p S (keysM M)) {x:Int} (hx:Drp p S x):Ci p S (keysM (mdel M x)):=by
 rw [bQ h.n];exact h.rest hx
theorem TN {p:Prb} {l:List Int}:(cloS p l).length≤p.it.length:=by
 unfold cloS;rw [Ed];exact ωf (ωj _ _) (by rw [ψ];exact ϖ _)
end Go.Proofs.YteifpcnphnhaoaaGreat
