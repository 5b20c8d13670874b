import Derived.Test.YteifpcnphnhaoaaGreatMg22
import Derived.Shelf.SortG.Plain
import Derived.Shelf.SortG.SortNone
namespace Go.Proofs.YteifpcnphnhaoaaGreat
open Go.RowKit Go.Shelf
open Go.Sort (putRow Holds putCells)
def Co (l:List Int):List Int:=l.mergeSort fun x y=>decide (x≤y)
theorem Cx (l:List Int):(Co l).Perm l:=List.mergeSort_perm l _
theorem Em (l:List Int):(Co l).length=l.length:=(Cx l).length_eq
theorem JV (l:List Int):(Co l).Pairwise (· ≤ ·):=by
 have:=List.pairwise_mergeSort (le:=fun x y:Int=>decide (x≤y)) (fun a b c h1 h2=>by simp only [ψe] at*;omega) (fun a b=>by simp only [Bool.or_eq_true,ψe];omega) l;exact this.imp fun h=>by simpa using h
abbrev zD (z:Int):D:= .raw (.int .i64 z)
variable {P:Program} {ρr:Ren}
theorem RE (L:SlLaysN.n53 P ρr) {E:TypeId} {g53:FuncId} (xs:List Int) (hsz:xs.length<4611686018427387904) {F:Fr} {s:AS} {d:Nat} {x:Operand} {ty:TypeId} {pos:String} {aft:Array Edge} {gd:Option (Nat×Bool)} {at_:Array TypeId} {f n:Nat} {row:List D} {hp':Hp}
  (hg:ρr.f 53=g53) (hx:s.ev x=some (.own f 0 n)) (ho:hget s.hp f 0=some (.rowD E 1 row)) (hrow:row=xs.map zD) (hn:n=xs.length) (hh:BP s.hp f 0 (.rowD E 1 ((Co xs).map zD))=some hp') (hd:Nat.blt d s.n=true):
  AJ P F ⟨some d,.call {callee:= .value (.func g53),args:= #[x],argTypes:=at_},ty,pos,aft,gd⟩ s ⟨s.n,(d,.d (.tup []))::s.env,hp'⟩ (fun _ _=>true):=by
 subst hg hrow hn;intro ρ act w hs
 obtain ⟨fn6,hf1,hf2,hf3⟩:∃fn,P.funcs[ρr.f 53]? =some fn∧(fn.name== "runtime.NumGoroutine")=false∧fn.body.isSome=true:=by
  obtain ⟨nm,hn,hf⟩:=L.f53;exact ⟨_,hf,hn,Z⟩
 unfold Oper.wp;rw [show (#[x]:Array Operand)=[x].toArray from rfl,DW hf1 hf2 hf3,Oper.upon_enter]
 suffices key:Calls P (ρr.f 53) ([x].map act.eval).toArray w fun e w'=>e= .returned (.tuple #[])∧SR F ⟨s.n,s.env,hp'⟩ ρ act w' by
  refine key.mono fun e w' ⟨e1,hsr⟩=>?_;subst e1;exact ⟨ρ,hsr.put (IC hd) (.d (.tup Z fun i c v hc=>by cases hc)),fun _ _ _=>rfl⟩
 have r0:=hs.ev hx;have hg0:=ho;have h3:=hs.heap;have hset:=Am hh;obtain ⟨us,q1,q2,q3⟩:=h3.sim f 0 _ hg0;show Calls P (ρr.f 53) #[act.eval x] w _
 generalize act.eval x=V0 at r0
 cases r0 with
 | own hρ hle=>
  rename_i N cap a
  by_cases hx:xs=[]
  ·subst hx;refine (AnyG.slices_Sort_int_none L a cap w).mono fun e w' ⟨e1,e2⟩=>?_;subst e1 e2;refine ⟨Z,hs.writeG f 0 _ _ ho hset Z Z Z (υ _) (υ _) (fun _ _ _=>rfl) (fun _ _ e=>by cases e) fun hrep=>?_⟩;have h0:Co []=[]:=by simp [Co]
   rw [h0];exact ⟨us,q1,⟨by simpa using q2.1,fun x hx=>(by cases hx),fun i x hx=>by simp at hx⟩,fun x hx=>(by cases hx)⟩
  ·have hn:0<xs.length:=χh.2 hx;have hul:us.length=xs.length:=by have:=q2.1;rw [ψ] at this;omega
   have hblkeq:∃b cur,a=some ⟨b,0,none⟩∧w.heap[b]? =some (.cells cur E (0,0))∧cur.size=cap∧xs.length≤cap∧cap≤maxLen∧cur.toList.take xs.length=us∧N=xs.length:=by
    rcases q1.2 with ⟨_,h⟩ | ⟨b,cap',cur,e1,_,e2,e3,e4,e5,e6⟩
    ·rw [ψ] at h;omega
    ·rw [hρ] at e1;injection e1 with e1 e7 e8
     subst e1 e8;rw [ψ] at e3 e6 e7;exact ⟨b,cur,Z,e2,by omega,e3,e4,by rw [χv] at e6;exact e6,e7⟩
   obtain ⟨b,cur,rfl,p1,p2,p3,p3',p4,rfl⟩:=hblkeq;have hb:B9 (ρ f 0)=some b:=by rw [hρ];rfl
   have hlt:b<w.heap.size:=(ωs.1 p1).1
   have hus:∀i (hi:i<xs.length),us[i]? =some (.int .i64 xs[i]):=fun i hi=>by
    have hm:(xs.map zD)[i]? =some (zD xs[i]):=by rw [η,ω hi];rfl
    obtain ⟨u,hu,_,hr⟩:=q2.2.2 i _ hm 0 (zD xs[i]) rfl;rw [χv,χo] at hu
    cases hr with
    | raw _=>exact hu
   have hH:Holds (Value.int .i64) w b 0 xs.toArray:=by
    intro j hj;have hj:j<xs.length:=by simpa using hj
    refine ⟨?_,?_⟩
    ·have hju:us[j]? =cur.toList[j]?:=by rw [←p4,ψf hj]
     simp only [World.cell?,p1,ψs];have h1:=hus j hj;rw [hju] at h1;rw [getElem!_pos _ j (by simpa using hj)];have hjc:j<cur.size:=by simpa using (χ.1 h1).1
     simp only [List.getElem_toArray]
     simp [hjc] at h1⊢
     exact h1
    ·simp only [World.frozen?,p1];simp
   have key:=AnyG.slices_Sort_int L b 0 cap xs w hH hlt hsz;refine key.mono fun e w' ⟨e1,nd,os,hw⟩=>?_;subst e1 hw
   obtain ⟨ys,hys⟩:∃ys,Co xs=ys:=⟨_,Z⟩
   have hys':(xs.mergeSort fun x y=>decide (x≤y))=ys:=hys;have hyl:ys.length=xs.length:=by rw [←hys,Em]
   rw [hys] at hset hh;rw [hys'];refine ⟨Z,?_⟩;have hsz2:((putRow (Value.int .i64) (Go.Sort.ahead w nd) b 0 ys.toArray)).heap.size=w.heap.size:=by rw [Go.Sort.size_putRow];rfl
   have hoth:∀b',b'<w.heap.size ->b'≠b ->(Go.Sort.grow (putRow (Value.int .i64) (Go.Sort.ahead w nd) b 0 ys.toArray) os).heap[b']? =w.heap[b']?:=fun b' hl hne=>by
    rw [Go.Sort.heap_grow_old _ _ (by rw [hsz2];exact hl)];show (w.heap.modify b _)[b']? =_;rw [ψw,ϑ (Ne.symm hne)]
   refine hs.writeG f 0 _ _ ho hset Z Z Z (by rw [Go.Sort.size_grow,hsz2];exact Nat.le_add_right _ _) (Nat.le_add_right _ _) (fun b' hl hno=>hoth b' hl (fun e=>hno (by rw [e];exact hb))) (fun _ _ e=>by cases e) fun hrep=>?_
   have hheap:(Go.Sort.grow (putRow (Value.int .i64) (Go.Sort.ahead w nd) b 0 ys.toArray) os).heap[b]? =some (.cells (putCells (Value.int .i64) 0 ys.toArray cur) E (0,0)):=by
    rw [Go.Sort.heap_grow_old _ _ (by rw [hsz2];exact hlt)];show (w.heap.modify b _)[b]? =_;rw [ψw,κ Z,p1];rfl
   have hcs:(putCells (Value.int .i64) 0 ys.toArray cur).size=cap:=by simp only [putCells,Array.size_mapIdx];exact p2
   have hyl2:(ys.map zD).length=xs.length:=by rw [ψ,hyl]
   refine ⟨ys.map (Value.int .i64),⟨by rw [ψ,hyl2,hyl,χv],.inr ⟨b,cap,_,by rw [hρ,hyl2],Γ _,hheap,by rw [hyl2];exact p3,p3',by omega,?_⟩⟩,⟨by rw [ψ,hyl2,hyl,χv],fun x hx2=>?_,fun i x hx2 j c hc2=>?_⟩,fun x hx2 c hc2=>?_⟩
   ·rw [hyl2,χv]
    apply χr
    intro i
    by_cases hi:i<xs.length
    ·rw [ψf hi,ψn,η,ω (by omega),ωl (by omega)];simp only [putCells,Array.getElem_mapIdx];rw [κ ⟨Γ _,by simp;omega⟩];simp only [Nat.sub_zero,χa];rw [getElem!_pos _ i (by simp;omega)]
     simp
    ·rw [ωx (by rw [Ω];omega),ωx (by rw [ψ];omega)]
   ·obtain ⟨y,_,rfl⟩:=ϖ.1 hx2;rfl
   ·rw [η] at hx2
    cases hyi:ys[i]? with
    | none=>rw [hyi] at hx2;cases hx2
    | some y=>
     rw [hyi] at hx2;injection hx2 with hx2;subst hx2
     have hj0:j=0:=by have:=(χ.1 hc2).1;simp [D.cells] at this;exact this
     subst hj0;simp only [D.cells,List.getElem?_cons_zero,Option.some.injEq] at hc2;subst hc2;exact ⟨.int .i64 y,by rw [χv,χo,η,hyi];rfl,Z,.raw Z⟩
   ·obtain ⟨y,_,rfl⟩:=ϖ.1 hx2;simp only [D.cells,ξ] at hc2;subst hc2;rfl
end Go.Proofs.YteifpcnphnhaoaaGreat
namespace Go.Proofs.YteifpcnphnhaoaaGreat
open Go.RowKit
set_option maxRecDepth 100000
section
variable {P:Program} {F:Fr} {s:AS} {α β:Type} [DecidableEq α] {eK:α ->D} {eV:β ->D} {K:TypeId} {kv:α ->Value} {d:Nat} {ty T E:TypeId} {pos:String} {aft:Array Edge} {g:Option (Nat×Bool)} {x y z:Operand} {bs:Option (List Nat×Nat)}
theorem RL (m:List (α×β)) (a:α) (b0 v:β) {x0:D} {f i:Nat} (hx:s.ev x=some (.map f i)) (ho:hget s.hp f i=some (.map bs (BQ eK eV m))) (hy:s.ev y=some (.d (eK a))) (hT:B7 P T K E=true) (KT:Ba P K eK kv) (hz:Cg P E=some (.d x0)) (hw:∀w O v,AQ w O x0 v ->AQ w O (eV b0) v) (hv:A6 m a b0=v) (hd:Nat.blt d s.n=true):
  AA P F ⟨some d,.lookup T x y false,ty,pos,aft,g⟩ s d (.d (eV v)):=
 Ck _ hd fun ρ act w hs=>by
  obtain ⟨mb,arr,c,e1,_,h1,h2,h3,_⟩:=hs.mapAt hx ho;have hk:act.eval y=kv a:=(hs.repD hy).val (KT.val a);obtain ⟨zv,hz1,hz2⟩:=EH hz w
  have hz3:∀w' O ρ,AW w' O ρ (.d (eV b0)) zv:=fun w' O ρ=>by
   have:=hz2 w' O ρ
   cases this with
   | d h=>exact .d (hw _ _ _ h)
  subst hv;rcases hit_get KT h2 h3 a b0 with ⟨g1,_,g3,_⟩ | ⟨j,e,g1,g2,_,_,_,_,g7⟩
  ·refine ⟨zv,?_,by rw [g3];exact hz3 _ _ _⟩
   simp [execOp,Instr.lookup,run_underlying (Ur hT),e1,hk,MapKept.run_getObj_map h1,KT.check,KT.find w a _ _ (W3 KT h2 h3),g1,hz1,Result.andThen]
  ·refine ⟨e.val,?_,.d g7⟩
   simp [execOp,Instr.lookup,run_underlying (Ur hT),e1,hk,MapKept.run_getObj_map h1,KT.check,KT.find w a _ _ (W3 KT h2 h3),g1,Result.andThen]
theorem Mb (m:List (α×β)) (a:α) (b0:β) {x0:D} {f i:Nat} (hx:s.ev x=some (.map f i)) (ho:hget s.hp f i=some (.map bs (BQ eK eV m))) (hy:s.ev y=some (.d (eK a))) (hT:B7 P T K E=true) (KT:Ba P K eK kv) (hz:Cg P E=some (.d x0)) (hw:∀w O v,AQ w O x0 v ->AQ w O (eV b0) v) (hd:Nat.blt d s.n=true):
  AA P F ⟨some d,.lookup T x y true,ty,pos,aft,g⟩ s d (.tup [.d (eV (A6 m a b0)),.d (.raw (.bool (ND m a)))]):=
 Ck _ hd fun ρ act w hs=>by
  obtain ⟨mb,arr,c,e1,_,h1,h2,h3,_⟩:=hs.mapAt hx ho;have hk:act.eval y=kv a:=(hs.repD hy).val (KT.val a);obtain ⟨zv,hz1,hz2⟩:=EH hz w
  have hz3:∀w' O ρ,AW w' O ρ (.d (eV b0)) zv:=fun w' O ρ=>by
   have:=hz2 w' O ρ
   cases this with
   | d h=>exact .d (hw _ _ _ h)
  have tup2:∀{v1 v2:Value} {a1 a2:AV},AW w (F.O ρ s.hp) ρ a1 v1 ->AW w (F.O ρ s.hp) ρ a2 v2 ->AW w (F.O ρ s.hp) ρ (.tup [a1,a2]) (.tuple #[v1,v2]):=fun {v1 v2 a1 a2} h1 h2=>by
   refine .tup (vs:=[v1,v2]) Z fun i a v ha hv=>?_;rcases i with _ | _ | i
   ·simp at ha hv;subst ha hv;exact h1
   ·simp at ha hv;subst ha hv;exact h2
   ·simp at ha
  rcases hit_get KT h2 h3 a b0 with ⟨g1,g2,g3,_⟩ | ⟨j,e,g1,g2,_,g4,_,_,g7⟩
  ·refine ⟨.tuple #[zv,.bool false],?_,tup2 (by rw [g3];exact hz3 _ _ _) (by rw [g2];exact .d (.raw Z))⟩
   simp [execOp,Instr.lookup,run_underlying (Ur hT),e1,hk,MapKept.run_getObj_map h1,KT.check,KT.find w a _ _ (W3 KT h2 h3),g1,hz1,Result.andThen]
  ·refine ⟨.tuple #[e.val,.bool true],?_,tup2 (.d g7) (by rw [g4];exact .d (.raw Z))⟩
   simp [execOp,Instr.lookup,run_underlying (Ur hT),e1,hk,MapKept.run_getObj_map h1,KT.check,KT.find w a _ _ (W3 KT h2 h3),g1,Result.andThen]
end
theorem Gh:∀w O v,AQ w O (.agg [AF 0,AF 0,AF 0,.sl (some true) [],.sl (some true) [],.sl (some true) []]) v ->AQ w O (Al AY) v:=fun w O v h=>h.aggMono Z (by simp [D.one]) fun i c c' hc hc' v hv=>by
 match i,hc,hc' with
 | 0,hc,hc'=>injection hc with hc;injection hc' with hc';subst hc hc';exact hv
 | 1,hc,hc'=>injection hc with hc;injection hc' with hc';subst hc hc';exact hv
 | 2,hc,hc'=>injection hc with hc;injection hc' with hc';subst hc hc';exact hv
 | 3,hc,hc'=>injection hc with hc;injection hc' with hc';subst hc hc';exact hv.anyNil
 | 4,hc,hc'=>injection hc with hc;injection hc' with hc';subst hc hc';exact hv.anyNil
 | 5,hc,hc'=>injection hc with hc;injection hc' with hc';subst hc hc';exact hv.anyNil
def linR (l:List A2):List A2:=l.mergeSort fun a b=>decide (Bh a.r b.r≤0)
theorem Ko (l:List A2):(linR l).Perm l:=List.mergeSort_perm l _
theorem aX (l:List A2):(linR l).length=l.length:=(Ko l).length_eq
theorem cmpR_le {a b c:AP} (h1:Bh a b≤0) (h2:Bh b c≤0):Bh a c≤0:=by
 by_cases e1:Bh a b=0
 ·rw [Du.1 e1];exact h2
 ·by_cases e2:Bh b c=0
  ·rw [←Du.1 e2];exact h1
  ·have:=O5.trans a b c (by omega) (by omega);omega
theorem SC (l:List A2):(linR l).Pairwise fun a b=>¬Bh b.r a.r<0:=by
 have:=List.pairwise_mergeSort (le:=fun a b:A2=>decide (Bh a.r b.r≤0)) (fun a b c h1 h2=>by simp only [ψe] at*;exact cmpR_le h1 h2) (fun a b=>by simp only [Bool.or_eq_true,ψe];have:=O5.anti a.r b.r;omega) l
 exact this.imp fun {a b} h=>by
  have h':Bh a.r b.r≤0:=by simpa using h
  have:=O5.anti a.r b.r;omega
theorem rsc_one {γ:Type} (f:γ ->AP) {l m ys:List γ} (hn:(l.map f).Nodup) (hm:m.Perm l) (hms:m.Pairwise fun a b=>¬Bh (f b) (f a)<0) (h1:ys.Perm l) (h2:ys.Pairwise fun a b=>¬Bh (f b) (f a)<0):ys=m:=by
 have st:∀{k:List γ},(k.map f).Nodup ->(k.Pairwise fun a b=>¬Bh (f b) (f a)<0) ->k.Pairwise fun a b=>Bh (f a) (f b)<0:=fun {k} hn h=>by
  rw [List.Nodup,ωy] at hn;refine (h.and hn).imp fun {a b} ⟨g1,g2⟩=>?_;have h1:=O5.anti (f a) (f b);have h2:Bh (f a) (f b)≠0:=fun e=>g2 (Du.1 e);omega
 exact Cw (R:=fun a b=>Bh (f a) (f b)<0) (fun x=>by rw [O5.refl];omega) (fun x y z=>O5.trans _ _ _) (st ((h1.map f).nodup_iff.2 hn) h2) (st ((hm.map f).nodup_iff.2 hn) hms) fun x=>by rw [h1.mem_iff,hm.mem_iff]
structure Lin where
 r:AP
 n:Int
 q:List Int
abbrev NG (x:Lin):D:= .agg [AF x.r.k,Ao x.r.acc.o,AF x.r.acc.k,Ao x.r.acc.a,Ao x.r.f,Ao x.r.t,AF x.n,.sl none (x.q.map AF)]
theorem a7 (x:Lin):∃cs,NG x= .agg cs:=⟨_,Z⟩
def HU (p:Prb) (x:A2):Lin:=⟨x.r,max x.n 0,JZ (ordP p) x.r⟩
def linL (p:Prb):List Lin:=(linR p.ro).map (HU p)
theorem Hh (p:Prb):(linL p).length=p.ro.length:=by unfold linL;rw [ψ,aX]
theorem R4 {l:List A2} (h:E1 l=0):(l.map A2.r).Nodup:=by
 have h0:=W4.1 h;rw [List.Nodup,ωy,ωq];intro i j hi hj hij e;have:=h0 j (ς.2 hj);unfold OO at this;rw [CI DN hj] at this
 split at this
 ·contradiction
 ·split at this
  ·cases this
  ·split at this
   ·cases this
   ·rename_i hn;exact hn (NE hj hij e)
theorem Vv {p:Prb} (hp:Az p=0) {ys:List Lin} (h1:ys.Perm (p.ro.map (HU p))) (h2:ys.Pairwise fun a b=>¬Bh b.r a.r<0):ys=linL p:=by
 refine rsc_one Lin.r (l:=p.ro.map (HU p)) ?_ ((Ko p.ro).map _) ?_ h1 h2
 ·rw [ωv];exact R4 (O3 hp).1
 ·unfold linL;rw [ωy];exact SC p.ro
theorem ana1_p (a b:Lin):AO Tryz.prog 175 [.d (NG a),.d (NG b)] (AF (Bh a.r b.r)):=by
 refine BB Tryz.func175 Z Z Tryz.ntmps175 Z Z Z fun F hF=>(AC (AE (V (CE 1 Z Z Z Z Z Z Z) (V (CE 2 Z Z Z Z Z Z Z) (AB Z Z (AD (AC ?_)))))));refine AE (J (A4 Z Jl Z Z Z) (J (BO Z Z CY Z Z Z) (J (A4 Z Jl Z Z Z) (J (BO Z Z CY Z Z Z) (J (BZ (LD a.r b.r) Z Z) (AB Z Z (AD (A8 ?_))))))));exact ⟨_,[],[],A7 Z,Z,Z,Z,Z⟩
def CP (l:List AK):List (Int×AK):=l.map fun i=>(i.id,i)
theorem US {l:List AK} {i:AK} (h:i.id∉l.map AK.id):Av (CP l) i.id i=CP (l++ [i]):=by
 induction l with
 | nil=>rfl
 | cons a l ih=>
  rw [ωm,Φ] at h;show Av ((a.id,a)::CP l) i.id i=(a.id,a)::CP (l++ [i]);rw [←ih (fun h'=>h (.inr h'))];simp only [Av];rw [ϑ (fun e=>h (.inl e))]
section
variable {β:Type}
end
def HK (p:Prb):List Int:=(ordP p).map AK.id
abbrev HA (p:Prb):Hp:=[(10,[.blk 229 [.map 11 0,.d (.sl none ((HK p).map AF)),.d (.sl none ((linL p).map NG))]]),(11,[BM AF Al (CP p.it)])]
theorem maxI (a:Int):(if 0>a then 0 else a)=max a 0:=by rw [Int.max_def];split<;>split<;>omega
theorem Nu (p:Prb) (hb:E7 p) (hE:Az p=0):AN Tryz.prog 126 [.d (CB p)] [] fun r H'=>r= .tup [.ptr 3 0 0,.d (AF 0)]∧H'=[(3,[.blk 229 [.map 2 0,.d (.sl none ((HK p).map AF)),.d (.sl none ((linL p).map NG))]]),(2,[BM AF Al (CP p.it)])]:=by
 have hck:=GE p hb;rw [hE] at hck;have hid:=DL (O3 hE).2.1;have hor:=H6 p hb;have hb1:=hb.1;have hb2:=hb.2.1;refine BB Tryz.func126 Z Z Tryz.ntmps126 Z Z Z fun F hF=>(AC (AE (V (CE 1 Z Z Z Z Z Z Z) ?_)));refine AB Z Z (AB Z Z (AD (AC (AC (AE (J (BO Z Z B8 Z Z Z) (J (BZ (hck) Z Z) (AB Z Z ?_))))))));refine AD (AC (AE (goMv Z Z (J (EA Z Z Z) (AD (Db Z ((by decide)) (A3 (AC ?_))))))));refine AE (V (Ph 2 Z Z Z Z) (J (BO Z Z B8 Z Z Z) (J (BZ (hor) Z Z) (J (Fe zl229 pl229 Z Z Z) (V (CE 3 Z Z Z Z Z Z Z) (AB Z Z (AD (AC ?_))))))));refine AC (AE (J (A4 Z E6 Z Z Z) (J (A9 Z Z Z Kf Z) (J (Bz Z Tryz.underlying37 Z) (goMv Z Z (AD (A5 (B6 (α:=Nat) (fun k=>⟨68,[(1,(.ptr 1 0 0)),(5,(.ptr 3 0 0)),(21,(.d (.sl none (p.it.map Al)))),(22,(.d (AF (p.it.length:Int)))),(23,(.d (AF (k:Int))))],[(1,[Mo 39 p]),(3,[.blk 229 [.map 2 0,.d (.sl none ((HK p).map AF)),Ib]]),(2,[BM AF Al (CP (p.it.take k))])]⟩) (fun k=>k≤p.it.length) (fun k=>p.it.length - k) (0) (Γ _) (A1 hF [1,3,2] Z Z ⟨Z,Z,Z,Z,Z,trivial⟩) ?_))))))));rintro k hk0;refine AC (AE (J (BT Z Z Z) (AD (AC (Ah Z (fun h24=>?_) (fun h24=>?_))))))
 ·have hk1:k<p.it.length:=Bf h24;refine A3 (AC (A5 (AC (AE ?_))));have hnk:p.it[k].id∉(p.it.take k).map AK.id:=fun h=>by have hn:=hid;rw [List.Nodup,ωy,ωq] at hn;obtain ⟨x,hx,e⟩:=ϖ.1 h;obtain ⟨j,hj,rfl⟩:=χe.1 hx;exact hn j k (by omega) hk1 (by omega) e
  refine J (Bb (k) Z Z (Z) (Ag hk1) Tryz.underlying37 Z C8 Z) (J (GW Z Z Bt Z) (V (CO 4 EY Z Z Z Z) (V (Bi Z Z Z Z Z Z Z C8) (AD (Cc [[],[0],[0,1],[0,1,2],[],[4],[],[0,1,2,3,4,5,6]] mixed Z (Cj (AI [5] [] Z Z (fun _=>AG (Ai Z Z)) (AI [27] [] Z Z (fun _=>AG (KN Z Z)) ?_))))))));refine AI [28] [] Z Z (fun _=>AG (A4 Z Jn Z Z Z)) (As [29] Z Z (fun _=>AG (A9 Z Z Z Rj Z)) (AI [7] [] Z Z (fun _=>AG (A4 Z MV Z Z Z)) (As [31] Z Z (fun _=>AG (A9 Z Z Z Aq Z)) (As [7] Z Z (fun _=>AG (BO Z Z Bt Z Z Z)) (C1 7 Z Z Z (Ae 8 Z Z (V (T9 (CP (p.it.take k)) (p.it[k].id) (p.it[k]) Z Z Z Rx HP Z Z) (AD ⟨Z,?_⟩))))))));refine C6 (AE (J (Ay Z Z (AT (k+1) (by omega)) Z) (goMv Z Z (AD ?_))));exact ⟨k+1,by show k+1≤_;omega,by show p.it.length - (k+1)<p.it.length - k;omega,A1 hF [1,3,2] Z (by rw [φ hk1,←US hnk];rfl) ⟨Z,Z,Z,Z,Z,trivial⟩⟩
 ·refine BF (AC (AC ?_));rw [Ξ (show p.it.length≤k by have h:=h24;omega)];refine EW 3 0 2 900 ZI Z Z Z Z Z Z Z (AE (J (A4 Z Dr Z Z Z) (J (A9 Z Z Z Mt Z) (J (Bz Z Tryz.underlying36 Z) (goMv Z Z (AD (A5 (B6 (α:=Nat×List Lin) (fun q=>⟨68,[(1,(.ptr 1 0 0)),(5,(.ptr 3 0 0)),(36,(.d (.sl none (p.ro.map CZ)))),(37,(.d (AF (p.ro.length:Int)))),(38,(.d (AF (q.1:Int))))],[(900,[.rowD 233 8 (q.2.map NG)]),(1,[Mo 39 p]),(3,[.blk 229 [.map 2 0,.d (.sl none ((HK p).map AF)),.own 900 0 q.2.length]]),(2,[BM AF Al (CP p.it)])]⟩) (fun q=>q.1≤p.ro.length∧q.2=(p.ro.take q.1).map (HU p)) (fun q=>p.ro.length - q.1) ((0,[])) (⟨Γ _,Z⟩) (A1 hF [900,1,3,2] Z Z ⟨Z,Z,Z,Z,Z,trivial⟩) ?_))))))));rintro ⟨m,acc⟩ ⟨hm0,hA⟩;dsimp only at hm0 hA⊢;refine AC (AE (J (BT Z Z Z) (AD (AC (Ah Z (fun h39=>?_) (fun h39=>?_))))))
  ·have hm1:m<p.ro.length:=Bf h39;refine A3 (AC (A5 (AC (AE ?_))));have hal:acc.length≤100000:=by rw [hA,ψ,Ω];omega
   refine J (Bb (m) Z Z (Z) (Ag hm1) Tryz.underlying36 Z Lc Z) ?_;refine J (GW Z Z ZP Z) (V (CO 5 Qn Z Z Z Z) (V (Bi Z Z Z Z Z Z Z Lc) (AD (Cc [[],[],[1],[1,2],[1,2,3],[],[5],[],[7],[7,8],[],[],[11],[10,11,12],[5,6,7,8,9,10,11,12,13],[5,6,7,8,9,10,11,12,13,14],[1,2,3,4,5,6,7,8,9,10,11,12,13,14,15],[0,1,2,3,4,5,6,7,8,9,10,11,12,13,14,15,16],[0,1,2,3,4,5,6,7,8,9,10,11,12,13,14,15,16,17],[0,1,2,3,4,5,6,7,8,9,10,11,12,13,14,15,16,17,18]] mixed Z (Cj (AI [5] [] Z Z (fun _=>AG (Ai Z Z)) (AI [5] [] Z Z (fun _=>AG (Ai Z Z)) (AI [43] [] Z Z (fun _=>AG (KN Z Z)) ?_))))))));refine AI [44] [] Z Z (fun _=>AG (A4 Z Jm Z Z Z)) (AI [45] [3] Z Z (fun _=>AG (A9 Z Z Z V7 Z)) (AI [9] [] Z Z (fun _=>AG (A4 Z Dp Z Z Z)) (AI [47] [5] Z Z (fun _=>AG (BO Z Z CY Z Z Z)) (AI [9] [] Z Z (fun _=>AG (A4 Z QR Z Z Z)) (AI [49] [5] Z Z (fun _=>AG (A9 Z Z Z Kg Z)) (AI [50] [] Z Z (fun _=>AG (Pp Z Z (maxI _) Z)) (AI [1] [1] Z Z (fun _=>AG (BO Z Z B8 Z Z Z)) (AI [9] [] Z Z (fun _=>AG (A4 Z Dp Z Z Z)) ?_))))))));refine AI [53] [5] Z Z (fun _=>AG (BO Z Z CY Z Z Z)) (AI [52,54] [] Z Z (fun _=>AG (BZ (queue_p p p.ro[m].r hb) Z Z)) (AI [48,51,55] [] Z Z (fun _=>AG (Fe YZ pl233 Z Z Z)) (Fo [56] [50] [(57,_)] Z Z (fun _=>Fq (Dz 50 ZI Z Z Z Z Z Z Z Z)) (.inr ⟨57,_,Z,Z,Z,Z,Z⟩) Z Z Z Z Z (Fo [46,57] [900,50,3,2] [(58,_)] Z Z (fun _=>Fq (I8 (acc) ([HU p p.ro[m]]) Z Z Z Z Z Z Z Z ZI (by simp only [Ψ];omega) Z Z Z Z)) (.inr ⟨58,_,Z,Z,Z,Z,Z⟩) Z Z Z Z Z (C1 17 Z Z Z (Ae 18 Z Z (J (KN Z Z) (AD ⟨Z,?_⟩))))))));refine Ae 19 Z Z (J (A4 Z Jm Z Z Z) (AD ⟨Z,?_⟩));refine Ae 20 Z Z (V (Bi Z Z Z Z Z Z Z sz227) (AD ⟨Z,?_⟩));refine C6 (AE (J (Ay Z Z (AT (m+1) (by omega)) Z) (goMv Z Z (AD ?_))));exact ⟨(m+1,acc++ [HU p p.ro[m]]),⟨by show m+1≤_;omega,by show acc++ [HU p p.ro[m]]=(p.ro.take (m+1)).map (HU p);rw [DT hm1,hA]⟩,by show p.ro.length - (m+1)<p.ro.length - m;omega,A1 hF [900,1,3,2] Z (Z) ⟨Z,Z,Z,Z,Z,trivial⟩⟩
  ·refine BF (AC ?_);have hfa:acc=p.ro.map (HU p):=by rw [hA,Ξ (by have h:=h39;omega)]
   refine AE (goMv Z Z (J (KN Z Z) (J (A4 Z Jm Z Z Z) (J (A9 Z Z Z V7 Z) (V (Lt laysLn (k:=8) (by decide) Tryz.isAgg233 Tryz.sizeOf233 Tryz.func175 Z Z a7 (fun a b=>Bh a.r b.r) ((O5.comap Lin.r).swo) acc (linL p) (by rw [hfa,ψ];omega) (fun x _ y _=>ana1_p x y) (fun ys g1 g2=>Vv hE (by rw [←hfa];exact g1) g2) Z Z Z Ky Z Z Z Z Z) ?_)))));refine AD (AC (Dy (ys:=(linL p).map NG) 3 0 2 900 Z Z Z (by rw [ψ,Hh,hfa,ψ];exact υ _) (Ξ (by rw [ψ,Hh,hfa,ψ];exact υ _)) Z Z Z Z Z Z (AE (goMv Z Z (AB Z Z (AB Z Z (AD (A8 ?_))))))));exact ⟨_,[3,2],_,A7 Z,Z,Z,Z,Z⟩
theorem TN (p:Prb) (hb:E7 p) (hE:Az p≠0):AO Tryz.prog 126 [.d (CB p)] (.tup [.raw (.pointer none),AF (Az p)]):=by
 have hck:=GE p hb;refine BB Tryz.func126 Z Z Tryz.ntmps126 Z Z Z fun F hF=>(AC (AE (V (CE 1 Z Z Z Z Z Z Z) (AB Z Z (AB Z Z (AD (AC (AC ?_))))))));refine AE (J (BO Z Z B8 Z Z Z) (J (BZ (hck) Z Z) (AB Z Z (AD (AC (AE (goMv Z Z (J (EA Z Z Z) ?_))))))));refine AD (D9 Z ((ωi hE)) (AC (AE (goMv Z Z (AB Z Z (AB Z Z (AD (A8 ?_))))))));exact ⟨_,[],[],A7 Z,Z,Z,Z,Z⟩
theorem UT (l:List AK) (i:Int):A6 (CP l) i AY=l.getD ((l.map AK.id).idxOf i) AY:=by
 induction l with
 | nil=>rfl
 | cons a l ih=>
  show (if i=a.id then a else A6 (CP l) i AY)=_;rw [ωm,List.idxOf_cons]
  by_cases h:a.id=i
  ·rw [κ h.symm];simp [h]
  ·rw [ϑ (fun e=>h e.symm),ih];have hb:(a.id==i)=false:=by simp [h]
   rw [hb];simp
theorem JB (l:List AK) (i:Int):ND (CP l) i=decide (i∈l.map AK.id):=by
 rw [Bool.eq_iff_iff,FL,ψe];unfold CP;rw [ωv];rfl
theorem PU (p:Prb) (i:Int):A6 (CP p.it) i AY=Bm p i:=UT p.it i
theorem QI {p:Prb} (hb:E7 p) (i:Int):(Bm p i).po.length≤100000∧(Bm p i).pa.length≤100000∧(Bm p i).af.length≤100000:=by
 unfold Bm;rw [ϱ]
 cases h:p.it[(p.it.map AK.id).idxOf i]? with
 | none=>exact ⟨by simp [AY],by simp [AY],by simp [AY]⟩
 | some x=>exact hb.2.2 _ (ζ h)
theorem Mn (p:Prb) (l:List Int) (hb:E7 p) (hl:l.length≤100000) (hE:C3 p l=0):AN Tryz.prog 71 [.d (CB p),.d (.sl none (l.map AF))] [] fun r H'=>r= .tup [.ptr 10 0 0,.map 2 0,.d (AF 0)]∧H'=HA p++ [(2,[BM AF Ak (BA l)])]:=by
 have h0:Az p=0:=by
  unfold C3 at hE;split at hE
  ·exact hE
  ·rename_i h;simpa using h
 have han:=(Nu p hb h0).by [(3,10),(2,11)] rfl;have hC:C3 p l=Mf (p.it.map AK.id) l:=ϑ (fun h=>h h0);rw [hC] at hE;refine BB Tryz.func71 Z Z Tryz.ntmps71 Z Z Z fun F hF=>(AC (AE (V (CE 1 Z Z Z Z Z Z Z) ?_)));refine AB Z Z (AB Z Z (AB Z Z (AD (AC (AE (J (BO Z Z B8 Z Z Z) (V (Eu han Z [10,11] ⟨Z,Z,trivial⟩ Z Z Z Z Z Z Z Z Z) (goMv Z Z ?_))))))));refine J (Cu Z Z Z) (J (Cu Z Z Z) (AB Z Z (AB Z Z (AD (AC (AC (AE (goMv Z Z ?_))))))));refine J (EA Z Z Z) (AD (Db Z ((by decide)) (A3 (AC (AE (V (Ph 2 Z Z Z Z) (AB Z Z (AD ?_))))))));refine AC (AC (AE (goMv Z Z (J (Bz Z Tryz.underlying28 Z) (goMv Z Z (AD (A5 (B6 (α:=Nat) (fun k=>⟨48,[(7,(.ptr 10 0 0)),(9,(.map 2 0)),(23,(.d (.sl none (l.map AF)))),(24,(.d (AF (l.length:Int)))),(25,(.d (AF (k:Int))))],HA p++ [(2,[BM AF Ak (BA (l.take k))])]⟩) (fun k=>k≤l.length) (fun k=>l.length - k) (0) (Γ _) (A1 hF [10,11,2] Z Z ⟨Z,Z,Z,Z,Z,trivial⟩) ?_))))))));rintro k hk0;refine AC (AE (J (BT Z Z Z) (AD (AC (Ah Z (fun h26=>?_) (fun h26=>?_))))))
 ·have hk1:k<l.length:=Bf h26;refine A3 (AC (A5 (AC (AE ?_))));have hin:l[k]∈p.it.map AK.id:=(Pu hE).2 _ (θ hk1);have hnk:l[k]∉l.take k:=fun h=>by have hn2:=(Pu hE).1;rw [List.Nodup,ωq] at hn2;obtain ⟨j,hj,e⟩:=χe.1 h;exact hn2 j k (by omega) hk1 (by omega) e
  refine J (Bb (k) Z Z (Z) (Ag hk1) Tryz.underlying28 Z BD Z) (J (Cm Z Z Aq Z) (AB Z Z (AD (AC (AC (AE (goMv Z Z (J (KN Z Z) ?_))))))));refine J (A4 Z Jn Z Z Z) (J (A9 Z Z Z Rj Z) (goMv Z Z (J (Mb (CP p.it) l[k] AY Z Z Z Rx HP za55 Gh Z) (goMv Z Z (J (Cu Z Z Z) (J (Cu Z Z Z) (V (CO 3 EY Z Z Z Z) (V (Bi Z Z Z Z Z Z Z C8) ?_))))))));refine AB Z Z (AD (AC (AE (goMv Z Z (J (L7 Z Z) (AD (Db Z ((by rw [JB,ωi hin];rfl)) (A3 ?_))))))));refine AC (AC (AE (goMv Z Z (goMv Z Z (J (HQ (BA (l.take k)) (l[k]) (false) _ Z Z Z Ii HP T3 Z Z) (AD (Db Z ((by rw [W7];exact ωp hnk)) (A3 ?_))))))));refine AE (goMv Z Z (goMv Z Z (V (T9 (BA (l.take k)) (l[k]) (true) Z Z Z Ii HP Z Z) (AD (AE (J (Ay Z Z (AT (k+1) (by omega)) Z) (goMv Z Z (AD ?_))))))));exact ⟨k+1,by show k+1≤_;omega,by show l.length - (k+1)<l.length - k;omega,A1 hF [10,11,2] Z (by rw [φ hk1,←c7 hnk];rfl) ⟨Z,Z,Z,Z,Z,trivial⟩⟩
 ·refine BF ?_;refine AC (AE (goMv Z Z (goMv Z Z (AB Z Z (AB Z Z (AB Z Z (AD (A8 ?_))))))));exact ⟨_,[10,11,2],_,A7 Z,Z,Z,Z,by rw [Ξ (show l.length≤k by have h:=h26;omega)];rfl⟩
theorem R8 (p:Prb) (l:List Int) (hb:E7 p) (hl:l.length≤100000) (hE:C3 p l≠0):AO Tryz.prog 71 [.d (CB p),.d (.sl none (l.map AF))] (.tup [.raw (.pointer none),.raw (.map none),AF (C3 p l)]):=by
 by_cases h0:Az p=0
 ·have han:=(Nu p hb h0).by [(3,10),(2,11)] rfl;have hC:C3 p l=Mf (p.it.map AK.id) l:=ϑ (fun h=>h h0);rw [hC] at hE⊢
  obtain ⟨E0,hE0⟩:∃e,Mf (p.it.map AK.id) l=e:=⟨_,Z⟩
  rw [hE0] at hE⊢;refine BB Tryz.func71 Z Z Tryz.ntmps71 Z Z Z fun F hF=>(AC (AE (V (CE 1 Z Z Z Z Z Z Z) ?_)));refine AB Z Z (AB Z Z (AB Z Z (AD (AC (AE (J (BO Z Z B8 Z Z Z) (V (Eu han Z [10,11] ⟨Z,Z,trivial⟩ Z Z Z Z Z Z Z Z Z) (goMv Z Z ?_))))))));refine J (Cu Z Z Z) (J (Cu Z Z Z) (AB Z Z (AB Z Z (AD (AC (AC (AE (goMv Z Z ?_))))))));refine J (EA Z Z Z) (AD (Db Z ((by decide)) (A3 (AC (AE (V (Ph 2 Z Z Z Z) (AB Z Z (AD ?_))))))));refine AC (AC (AE (goMv Z Z (J (Bz Z Tryz.underlying28 Z) (goMv Z Z (AD (A5 (B6 (α:=Nat) (fun k=>⟨48,[(7,(.ptr 10 0 0)),(9,(.map 2 0)),(23,(.d (.sl none (l.map AF)))),(24,(.d (AF (l.length:Int)))),(25,(.d (AF (k:Int))))],HA p++ [(2,[BM AF Ak (BA (l.take k))])]⟩) (fun k=>k≤l.length∧E0=Bg (((List.range l.length).drop k).map (Fc (p.it.map AK.id) l))) (fun k=>l.length - k) (0) (⟨Γ _,hE0.symm⟩) (A1 hF [10,11,2] Z Z ⟨Z,Z,Z,Z,Z,trivial⟩) ?_))))))));rintro k ⟨hk0,hk⟩;refine AC (AE (J (BT Z Z Z) (AD (AC (Ah Z (fun h26=>?_) (fun h26=>?_))))))
  ·have hk1:k<l.length:=Bf h26;refine A3 (AC (A5 (AC (AE ?_))));have hEc:=EO hk1 hk;have hgd:=CI 0 hk1;refine J (Bb (k) Z Z (Z) (Ag hk1) Tryz.underlying28 Z BD Z) (J (Cm Z Z Aq Z) (AB Z Z (AD (AC (AC (AE (goMv Z Z ?_)))))));refine J (KN Z Z) (J (A4 Z Jn Z Z Z) (J (A9 Z Z Z Rj Z) (goMv Z Z (J (Mb (CP p.it) l[k] AY Z Z Z Rx HP za55 Gh Z) (goMv Z Z (J (Cu Z Z Z) (J (Cu Z Z Z) (V (CO 3 EY Z Z Z Z) ?_))))))));refine V (Bi Z Z Z Z Z Z Z C8) (AB Z Z (AD (AC (AE (goMv Z Z (J (L7 Z Z) (AD (KP Z (fun h39=>?_) (fun h39=>?_)))))))))
   ·have hin:¬l[k]∈p.it.map AK.id:=by rw [JB] at h39;simpa using h39
    refine AC (AE (AB Z Z (AB Z Z (AB Z Z (AD (A8 ?_))))));exact ⟨_,[],[],A7 Z,Z,Z,by rw [hEc.2 9 (by unfold Fc;rw [hgd,κ hin]) (by decide)],Z⟩
   ·have hin:l[k]∈p.it.map AK.id:=by rw [JB] at h39;simpa using h39
    refine A3 (AC (AC (AE (goMv Z Z (goMv Z Z (J (HQ (BA (l.take k)) (l[k]) (false) _ Z Z Z Ii HP T3 Z Z) (AD (KP Z (fun h42=>?_) (fun h42=>?_)))))))))
    ·have hnk:l[k]∈l.take k:=by rw [W7] at h42;simpa using h42
     refine AC (AE (AB Z Z (AB Z Z (AB Z Z (AD (A8 ?_))))));exact ⟨_,[],[],A7 Z,Z,Z,by rw [hEc.2 7 (by unfold Fc;rw [hgd,ϑ (fun h=>h hin),κ hnk]) (by decide)],Z⟩
    ·have hnk:¬l[k]∈l.take k:=by rw [W7] at h42;simpa using h42
     refine A3 ?_;refine AE (goMv Z Z (goMv Z Z (V (T9 (BA (l.take k)) (l[k]) (true) Z Z Z Ii HP Z Z) (AD (AE (J (Ay Z Z (AT (k+1) (by omega)) Z) (goMv Z Z (AD ?_))))))));exact ⟨k+1,⟨by show k+1≤_;omega,hEc.1 (by unfold Fc;rw [hgd,ϑ (fun h=>h hin),ϑ hnk])⟩,by show l.length - (k+1)<l.length - k;omega,A1 hF [10,11,2] Z (by rw [φ hk1,←c7 hnk];rfl) ⟨Z,Z,Z,Z,Z,trivial⟩⟩
  ·refine BF ?_;refine AC (AE (goMv Z Z (goMv Z Z (AB Z Z (AB Z Z (AB Z Z (AD (A8 ?_))))))));exact absurd (by rw [hk,List.drop_of_length_le (by have h:=h26;simp only [ωf];omega)];rfl) hE
 ·have hC:C3 p l=Az p:=κ h0;have hab:=TN p hb h0;rw [hC];refine BB Tryz.func71 Z Z Tryz.ntmps71 Z Z Z fun F hF=>(AC (AE (V (CE 1 Z Z Z Z Z Z Z) (AB Z Z (AB Z Z ?_)))));refine AB Z Z (AD (AC (AE (J (BO Z Z B8 Z Z Z) (J (BZ (hab) Z Z) (goMv Z Z (J (D8 Z Z Z) (J (D8 Z Z Z) ?_))))))));refine AB Z Z (AB Z Z (AD (AC (AC (AE (goMv Z Z (J (EA Z Z Z) (AD ?_))))))));refine D9 Z ((ωi h0)) (AC (AE (goMv Z Z (AB Z Z (AB Z Z (AB Z Z (AD (A8 ?_))))))));exact ⟨_,[],[],A7 Z,Z,Z,Z,Z⟩
structure Bkd where
 i:Int
 m:Int
 r:AP
 deriving DecidableEq
abbrev OM:AP:=⟨0,TP,[],[]⟩
abbrev OY (x:Bkd):D:= .agg [AF x.i,AF x.m,AF x.r.k,Ao x.r.acc.o,AF x.r.acc.k,Ao x.r.acc.a,Ao x.r.f,Ao x.r.t]
def prefN (i:Int) (q:List Int):Nat:=(max (ixI i q) 0).toNat
def Cd (i:Int) (q:List Int):List Int:=q.take (prefN i q)
def XJ (i:Int) (af:List Int):List Bkd:=(Co af).map fun x=>⟨i,x,OM⟩
def Ec (i:Int) (x:Lin):List Bkd:=(Cd i x.q).map fun y=>⟨i,y,x.r⟩
def OE (p:Prb) (i:Int):List Bkd:=XJ i (Bm p i).af++(linL p).flatMap (Ec i)
def Ei (inM:Int ->Bool) (l:List Bkd):List Bkd:=l.filter fun b=>!inM b.m
def inM (M:List (Int×Bool)) (x:Int):Bool:=A6 M x false
theorem Z8 (i:Int) (q:List Int):prefN i q≤q.length:=by
 unfold prefN ixI
 split
 ·rename_i h
  have:=List.idxOf_lt_length_iff.2 h;omega
 ·omega
theorem Z9 (i:Int) (q:List Int):max (ixI i q) 0=(prefN i q:Int):=by unfold prefN;omega
theorem TG (f:Int ->Bool) (l m:List Bkd):Ei f (l++m)=Ei f l++Ei f m:=ωz _ _
theorem FN (f:Int ->Bool) (l:List Bkd):(Ei f l).length≤l.length:=ωh _ _
theorem I5 {f:Int ->Bool} {l:List Bkd} {k:Nat} (hk:k<l.length):Ei f (l.take (k+1))=Ei f (l.take k)++(if !f l[k].m then [l[k]] else []):=GO hk
theorem GP {α β:Type} {f:α ->List β} {l:List α} {k:Nat} (hk:k<l.length):(l.take (k+1)).flatMap f=(l.take k).flatMap f++f l[k]:=by
 rw [φ hk,List.flatMap_append];simp
theorem Jj {α β:Type} {f:α ->List β} {n:Nat}:∀{l:List α},(∀x∈l,(f x).length≤n) ->(l.flatMap f).length≤l.length*n
 | [],_=>by simp
 | a::l,h=>by
  have h1:=h a (by simp);have h2:=Jj (l:=l) (fun x hx=>h x (by simp [hx]));rw [List.flatMap_cons,Θ,ψo,φh];omega
theorem aY {p:Prb} (x:Lin) (hx:x∈linL p):x.q.length≤p.it.length:=by
 unfold linL at hx;obtain ⟨y,_,rfl⟩:=ϖ.1 hx;show (JZ (ordP p) y.r).length≤_;unfold JZ;rw [ψ];exact ωe (ωh _ _) (DY p)
theorem R6 {p:Prb} (i:Int) (x:Lin) (hx:x∈linL p):(Ec i x).length≤p.it.length:=by
 unfold Ec Cd;rw [ψ,Ω];have:=aY x hx;omega
abbrev mapV (mv:Nat):AV:= .d (.raw (.map (some mv)))
abbrev HM2 (p:Prb) (mv:Nat) (bs:Option (List Nat×Nat)) (M:List (Int×Bool)):Hp:=HA p++ [(12,[.map bs (BQ AF Ak M)]),(13,[.addr 12 0 (.map (some mv))])]
theorem Ug (p:Prb) (mv:Nat) (bs:Option (List Nat×Nat)) (M:List (Int×Bool)) (i:Int) (hb:E7 p) (h1:p.it.length≤1000) (h2:p.ro.length≤1000):AN Tryz.prog 127 [.ptr 10 0 0,mapV mv,.d (AF i)] (HM2 p mv bs M) fun r H'=>r= .d (.sl none ((Ei (inM M) (OE p i)).map OY))∧H'=HM2 p mv bs M:=by
 have hI:=PU p i;have hIb:=QI hb i;have hLl:=Hh p;have hcl:=(cB (Bm p i).af (by omega)).by [(20,21)] rfl;have hRl:∀x∈linL p,(Ec i x).length≤1000:=fun x hx=>ωe (R6 i x hx) h1;have hsl:=Em (Bm p i).af
 obtain ⟨S,hS⟩:∃S,Co (Bm p i).af=S:=⟨_,Z⟩
 have hreq:OE p i=(S.map fun x=>(⟨i,x,OM⟩:Bkd))++(linL p).flatMap (Ec i):=by unfold OE XJ;rw [hS]
 rw [hreq];rw [hS] at hsl;refine BB Tryz.func127 Z Z Tryz.ntmps127 Z Z Z fun F hF=>(AC ?_);refine AE (AB Z Z (AD (AC (AE (AB Z Z (AD (AC (O4 7 900 Me Z Z Z Z ?_))))))));refine AE (goMv Z Z (J (KN Z Z) (J (A4 Z Jn Z Z Z) (J (A9 Z Z Z Rj Z) (goMv Z Z (J (RL (CP p.it) i AY (Bm p i) Z Z Z Rx HP za55 Gh hI Z) (J (Tn Z Dq Z Z) (V (Eu hcl Z [21] ⟨Z,trivial⟩ Z Z Z Z Z Z Z Z Z) ?_))))))));refine AB Z Z (AD (AC (AE (goMv Z Z (V (RE laysS (Bm p i).af (by omega) Z Z Z Z Z Z Z) (AD (AC (AC ?_))))))));rw [hS];refine Lo (emb:=AF) 8 21 S Z Z Z hsl.symm Z Z Z (AE (goMv Z Z (J (Bz Z Tryz.underlying28 Z) (goMv Z Z (AD (A5 (B6 (α:=Nat×List Bkd) (fun q=>⟨81,[(0,.ptr 10 0 0),(1,mapV mv),(2,.d (AF i)),(7,(.own 900 0 q.2.length)),(26,(.d (.sl none (S.map AF)))),(27,(.d (AF (S.length:Int)))),(28,(.d (AF (q.1:Int))))],HM2 p mv bs M++ [(900,[.rowD 144 8 (q.2.map OY)])]⟩) (fun q=>q.1≤S.length∧q.2=Ei (inM M) ((S.map fun x=>(⟨i,x,OM⟩:Bkd)).take q.1)) (fun q=>S.length - q.1) ((0,[])) (⟨Γ _,Z⟩) (A1 hF [10,11,12,13,900] Z Z ⟨Z,Z,Z,Z,Z,Z,Z,trivial⟩) ?_)))))));rintro ⟨k,acc⟩ ⟨hk0,hA⟩;dsimp only at hk0 hA⊢;refine AC (AE (J (BT Z Z Z) (AD (AC (Ah Z (fun h29=>?_) (fun h29=>?_))))))
 ·have hk1:k<S.length:=Bf h29;refine A3 (AC (A5 (AC (AE (J (Bb (k) Z Z (Z) (Ag hk1) Tryz.underlying28 Z BD Z) (J (Cm Z Z Aq Z) (AB Z Z (AD ?_))))))));refine AC (AE (goMv Z Z (D0 32 13 0 Z Z (goMv Z Z (J (HQ M S[k] false (inM M S[k]) Z Z Z Ii HP T3 Z Z) (J (L7 Z Z) (AD (KP Z (fun h35=>?_) (fun h35=>?_)))))))))
  ·refine AE ?_;have hal:acc.length≤100000:=by rw [hA];refine ωe (FN _ _) ?_;rw [Ω,ψ];omega
   refine goMv Z Z (goMv Z Z (goMv Z Z ?_));refine J (Fe Y2 pl144 Z Z Z) (V (Dz 1 Me Z Z Z Z Z Z Z Z) (V (I8 (acc) ([⟨i,S[k],OM⟩]) Z Z Z Z Z Z Z Z Me (by simp only [Ψ];omega) Z Z Z Z) (AB Z Z (AD (AE (J (Ay Z Z (AT (k+1) (by omega)) Z) (goMv Z Z (AD ?_))))))));exact ⟨(k+1,acc++ [⟨i,S[k],OM⟩]),⟨by show k+1≤_;omega,by show acc++ [⟨i,S[k],OM⟩]=Ei (inM M) ((S.map fun x=>(⟨i,x,OM⟩:Bkd)).take (k+1));rw [I5 (by simpa using hk1),ωd,κ (by show (!inM M S[k])=true;simpa using h35),hA]⟩,by show S.length - (k+1)<S.length - k;omega,A1 hF [10,11,12,13,900] Z (Z) ⟨Z,Z,Z,Z,Z,Z,Z,trivial⟩⟩
  ·refine A3 (AE (J (Ay Z Z (AT (k+1) (by omega)) Z) (goMv Z Z (AD ?_))));exact ⟨(k+1,acc),⟨by show k+1≤_;omega,by show acc=Ei (inM M) ((S.map fun x=>(⟨i,x,OM⟩:Bkd)).take (k+1));rw [I5 (by simpa using hk1),ωd,ϑ (by show ¬(!inM M S[k])=true;simpa using h35),ωk,hA]⟩,by show S.length - (k+1)<S.length - k;omega,A1 hF [10,11,12,13,900] Z (Z) ⟨Z,Z,Z,Z,Z,Z,Z,trivial⟩⟩
 ·refine BF (AC (AC ?_));have hA1:acc=Ei (inM M) (S.map fun x=>(⟨i,x,OM⟩:Bkd)):=by rw [hA,Ξ (by rw [ψ];have h:=h29;omega)]
  have hal1:acc.length≤100000:=by rw [hA1];refine ωe (FN _ _) ?_;rw [ψ];omega
  refine AE ?_;refine goMv Z Z (J (KN Z Z) (J (A4 Z Jm Z Z Z) (J (A9 Z Z Z V7 Z) (J (Bz Z Tryz.underlying227 Z) (goMv Z Z (AD (A5 (B6 (α:=Nat×List Bkd) (fun q=>⟨81,[(0,.ptr 10 0 0),(1,mapV mv),(2,.d (AF i)),(7,(.own 900 0 q.2.length)),(46,(.d (.sl none ((linL p).map NG)))),(47,(.d (AF ((linL p).length:Int)))),(48,(.d (AF (q.1:Int))))],HM2 p mv bs M++ [(900,[.rowD 144 8 (q.2.map OY)])]⟩) (fun q=>q.1≤(linL p).length∧q.2=acc++Ei (inM M) (((linL p).take q.1).flatMap (Ec i))) (fun q=>(linL p).length - q.1) ((0,acc)) (⟨Γ _,by simp [Ei]⟩) (A1 hF [10,11,12,13,900] Z Z ⟨Z,Z,Z,Z,Z,Z,Z,trivial⟩) ?_))))))));rintro ⟨m,acc2⟩ ⟨hm0,hB⟩;dsimp only at hm0 hB⊢;refine AC (AE (J (BT Z Z Z) (AD (AC (Ah Z (fun h49=>?_) (fun h49=>?_))))))
  ·have hm1:m<(linL p).length:=Bf h49;refine A3 (AC (A5 (AC (AE ?_))));have hql:=aY _ (θ hm1);have hfl:=Jj (f:=Ec i) (n:=1000) (l:=(linL p).take m) (fun x hx=>hRl x (ψc hx));have hbl:acc2.length≤1200000:=by rw [hB,Θ];have:=FN (inM M) (((linL p).take m).flatMap (Ec i));rw [Ω] at hfl;have h3:min m (linL p).length*1000≤1000*1000:=ψb _ (by omega);omega
   refine J (Bb (m) Z Z (Z) (Ag hm1) Tryz.underlying227 Z VI Z) (J (GW Z Z rw233 Z) (V (CO 2 YZ Z Z Z Z) (V (Bi Z Z Z Z Z Z Z VI) (AD (AC (AE ?_))))));refine J (A4 Z WH Z Z Z) (J (A9 Z Z Z BC Z) (goMv Z Z (J (BZ (WC (linL p)[m].q i (by omega)) Z Z) (AB Z Z (AD (AC (AE (J (A4 Z WH Z Z Z) ?_))))))));refine J (A9 Z Z Z BC Z) (goMv Z Z (J (Pp Z Z (maxI _) Z) (J (LN ((linL p)[m].q) (prefN i (linL p)[m].q) Z Z Z (Z9 _ _) (Z8 _ _) Tryz.underlying28 BD (fun _=>rfl) Z) (J (Bz Z Tryz.underlying28 Z) (goMv Z Z (AD (A5 (B6 (α:=Nat×List Bkd) (fun q=>⟨81,[(0,.ptr 10 0 0),(1,mapV mv),(2,.d (AF i)),(7,(.own 900 0 q.2.length)),(12,(.ptr 2 0 0)),(46,(.d (.sl none ((linL p).map NG)))),(47,(.d (AF ((linL p).length:Int)))),(48,(.d (AF (m:Int)))),(60,(.d (.sl none ((Cd i (linL p)[m].q).map AF)))),(61,(.d (AF ((Cd i (linL p)[m].q).length:Int)))),(62,(.d (AF (q.1:Int))))],HM2 p mv bs M++ [(900,[.rowD 144 8 (q.2.map OY)]),(2,[.blk 233 [.d (AF (linL p)[m].r.k),.d (Ao (linL p)[m].r.acc.o),.d (AF (linL p)[m].r.acc.k),.d (Ao (linL p)[m].r.acc.a),.d (Ao (linL p)[m].r.f),.d (Ao (linL p)[m].r.t),.d (AF (linL p)[m].n),.d (.sl none ((linL p)[m].q.map AF))]])]⟩) (fun q=>q.1≤(Cd i (linL p)[m].q).length∧q.2=acc2++Ei (inM M) ((Ec i (linL p)[m]).take q.1)) (fun q=>(Cd i (linL p)[m].q).length - q.1) ((0,acc2)) (⟨Γ _,by simp [Ei]⟩) (A1 hF [10,11,12,13,900,2] Z Z ⟨Z,Z,Z,Z,Z,Z,Z,Z,Z,Z,Z,trivial⟩) ?_))))))));rintro ⟨j,acc3⟩ ⟨hj0,hC⟩;dsimp only at hj0 hC⊢;refine AC (AE (J (BT Z Z Z) (AD (AC (Ah Z (fun h63=>?_) (fun h63=>?_))))))
   ·have hj1:j<(Cd i (linL p)[m].q).length:=Bf h63;refine A3 (AC (A5 (AC (AE (J (Bb (j) Z Z (Z) (Ag hj1) Tryz.underlying28 Z BD Z) (J (Cm Z Z Aq Z) (AB Z Z (AD ?_))))))));refine AC (AE (goMv Z Z (D0 66 13 0 Z Z (goMv Z Z (J (HQ M (Cd i (linL p)[m].q)[j] false (inM M (Cd i (linL p)[m].q)[j]) Z Z Z Ii HP T3 Z Z) (J (L7 Z Z) (AD (KP Z (fun h69=>?_) (fun h69=>?_)))))))))
    ·refine AE ?_;have hcl3:acc3.length≤1300000:=by rw [hC,Θ];have h3:=FN (inM M) ((Ec i (linL p)[m]).take j);have h4:=hRl _ (θ hm1);rw [Ω] at h3;omega
     refine goMv Z Z (goMv Z Z (goMv Z Z (J (A4 Z Jl Z Z Z) (J (BO Z Z CY Z Z Z) ?_))));refine J (Fe Y2 pl144 Z Z Z) (V (Dz 3 Me Z Z Z Z Z Z Z Z) (V (I8 (acc3) ([⟨i,(Cd i (linL p)[m].q)[j],(linL p)[m].r⟩]) Z Z Z Z Z Z Z Z Me (by simp only [Ψ];omega) Z Z Z Z) (AB Z Z (AD (AE (J (Ay Z Z (AT (j+1) (by have h5:(Cd i (linL p)[m].q).length≤1000:=by {unfold Cd;rw [Ω];omega};omega)) Z) (goMv Z Z (AD ?_))))))));exact ⟨(j+1,acc3++ [⟨i,(Cd i (linL p)[m].q)[j],(linL p)[m].r⟩]),⟨by show j+1≤_;omega,by show acc3++ [⟨i,(Cd i (linL p)[m].q)[j],(linL p)[m].r⟩]=acc2++Ei (inM M) ((Ec i (linL p)[m]).take (j+1));rw [I5 (by unfold Ec;simpa using hj1),hC,ψm];congr 2;unfold Ec;rw [ωd,κ (by show (!inM M (Cd i (linL p)[m].q)[j])=true;simpa using h69)]⟩,by show (Cd i (linL p)[m].q).length - (j+1)<(Cd i (linL p)[m].q).length - j;omega,A1 hF [10,11,12,13,900,2] Z (Z) ⟨Z,Z,Z,Z,Z,Z,Z,Z,Z,Z,Z,trivial⟩⟩
    ·refine A3 (AE (J (Ay Z Z (AT (j+1) (by have h5:(Cd i (linL p)[m].q).length≤1000:=by {unfold Cd;rw [Ω];omega};omega)) Z) (goMv Z Z (AD ?_))));exact ⟨(j+1,acc3),⟨by show j+1≤_;omega,by show acc3=acc2++Ei (inM M) ((Ec i (linL p)[m]).take (j+1));rw [I5 (by unfold Ec;simpa using hj1),hC];unfold Ec;rw [ωd,ϑ (by show ¬(!inM M (Cd i (linL p)[m].q)[j])=true;simpa using h69),ωk]⟩,by show (Cd i (linL p)[m].q).length - (j+1)<(Cd i (linL p)[m].q).length - j;omega,A1 hF [10,11,12,13,900,2] Z (Z) ⟨Z,Z,Z,Z,Z,Z,Z,Z,Z,Z,Z,trivial⟩⟩
   ·have hfin:acc3=acc2++Ei (inM M) (Ec i (linL p)[m]):=by rw [hC,Ξ (by unfold Ec;rw [ψ];have h:=h63;omega)]
    refine BF (AE (J (Ay Z Z (AT (m+1) (by omega)) Z) (goMv Z Z (AD ?_))));exact ⟨(m+1,acc3),⟨by show m+1≤_;omega,by show acc3=acc++Ei (inM M) (((linL p).take (m+1)).flatMap (Ec i));rw [GP hm1,TG,←ψm,←hB];exact hfin⟩,by show (linL p).length - (m+1)<(linL p).length - m;omega,A1 hF [10,11,12,13,900] Z (Z) ⟨Z,Z,Z,Z,Z,Z,Z,trivial⟩⟩
  ·refine BF (AC ?_);have hfa:acc2=Ei (inM M) ((S.map fun x=>(⟨i,x,OM⟩:Bkd))++(linL p).flatMap (Ec i)):=by rw [hB,hA1,Ξ (by have h:=h49;omega),TG]
   refine Lo (emb:=OY) 7 900 acc2 Z Z Z Z Z Z Z (AE (goMv Z Z (AB Z Z (AD (A8 ?_)))));exact ⟨_,[10,11,12,13],_,A7 Z,Z,Z,by rw [hfa],Z⟩
def JL (p:Prb) (f:Int ->Bool) (i:Int):List Bkd:=if f i then Ei f (OE p i) else []
def blks (p:Prb) (f:Int ->Bool):List Bkd:=(HK p).flatMap (JL p f)
theorem Px {p:Prb} (hb:E7 p) (h1:p.it.length≤1000) (h2:p.ro.length≤1000) (i:Int):(OE p i).length≤1100000:=by
 unfold OE XJ;rw [Θ,ψ,Em];have h3:=QI hb i;have h4:=Jj (f:=Ec i) (n:=1000) (l:=linL p) (fun x hx=>ωe (R6 i x hx) h1);have h5:=Hh p;have h6:(linL p).length*1000≤1000*1000:=ψb _ (by omega);omega
theorem TJ {p:Prb} (hb:E7 p) (h1:p.it.length≤1000) (h2:p.ro.length≤1000) (f:Int ->Bool) (i:Int):(JL p f i).length≤1100000:=by
 unfold JL;split
 ·exact ωe (FN _ _) (Px hb h1 h2 i)
 ·simp
theorem le_step {a k N:Nat} (h:a≤k*N):a≤(k+1)*N:=ωe h (ψb _ (Nat.le_succ _))
theorem ab {α:Type} {a b:List α} {k N:Nat} (h:a.length≤k*N) (h2:b.length≤N):(a++b).length≤(k+1)*N:=by rw [Θ,φh,Nat.one_mul];exact Nat.add_le_add h h2
theorem cI (p:Prb) (mv:Nat) (bs:Option (List Nat×Nat)) (M:List (Int×Bool)) (hb:E7 p) (h1:p.it.length≤1000) (h2:p.ro.length≤1000):AN Tryz.prog 72 [.ptr 10 0 0,mapV mv] (HM2 p mv bs M) fun r H'=>r= .d (.sl none ((blks p (inM M)).map OY))∧H'=HM2 p mv bs M:=by
 have hbl:∀i,(JL p (inM M) i).length≤1100000:=TJ hb h1 h2 _;have hor:(HK p).length≤1000:=by unfold HK;rw [ψ];exact ωe (DY p) h1
 have hbs:blks p (inM M)=(HK p).flatMap (JL p (inM M)):=rfl;rw [hbs];refine BB Tryz.func72 Z Z Tryz.ntmps72 Z Z Z fun F hF=>(AC (AE (AB Z Z ?_)));refine AD (AC (AE (AB Z Z (AD (AC (AC (O4 5 900 Me Z Z Z Z (AE ?_))))))));refine goMv Z Z (J (KN Z Z) (J (A4 Z fi229_1 Z Z Z) (J (A9 Z Z Z BC Z) (J (Bz Z Tryz.underlying28 Z) (goMv Z Z (AD (A5 (B6 (α:=Nat×List Bkd) (fun q=>⟨28,[(0,.ptr 10 0 0),(1,mapV mv),(5,(.own 900 0 q.2.length)),(11,(.d (.sl none ((HK p).map AF)))),(12,(.d (AF ((HK p).length:Int)))),(13,(.d (AF (q.1:Int))))],HM2 p mv bs M++ [(900,[.rowD 144 8 (q.2.map OY)])]⟩) (fun q=>q.1≤(HK p).length∧q.2=((HK p).take q.1).flatMap (JL p (inM M))∧q.2.length≤q.1*1100000) (fun q=>(HK p).length - q.1) ((0,[])) (⟨Γ _,Z,υ _⟩) (A1 hF [10,11,12,13,900] Z Z ⟨Z,Z,Z,Z,Z,Z,trivial⟩) ?_))))))));rintro ⟨k,acc⟩ ⟨hk0,hA,hL⟩;dsimp only at hk0 hA hL⊢;refine AC (AE (J (BT Z Z Z) (AD (AC (Ah Z (fun h14=>?_) (fun h14=>?_))))))
 ·have hk1:k<(HK p).length:=Bf h14;refine A3 (AC (A5 (AC (AE (J (Bb (k) Z Z (Z) (Ag hk1) Tryz.underlying28 Z BD Z) (J (Cm Z Z Aq Z) (AB Z Z ?_)))))));refine AD (AC (AE (goMv Z Z (D0 17 13 0 Z Z (goMv Z Z (J (HQ M (HK p)[k] false (inM M (HK p)[k]) Z Z Z Ii HP T3 Z Z) (AD (KP Z (fun h19=>?_) (fun h19=>?_)))))))))
  ·refine AE (goMv Z Z (goMv Z Z (goMv Z Z (goMv Z Z (V (Eu (Ug p mv bs M (HK p)[k] hb h1 h2) Z [10,11,12,13] ⟨Z,Z,Z,Z,trivial⟩ Z Z Z Z Z Z Z Z Z) ?_)))));have hrl:=ωe (FN (inM M) _) (Px hb h1 h2 (HK p)[k]);refine V (FC (acc) (Ei (inM M) (OE p (HK p)[k])) Z Z Z Z Z Z (fun _=>rfl) Me (by omega) Z Z Z Z) (AB Z Z (AD (AE (J (Ay Z Z (AT (k+1) (by have h:=hor;omega)) Z) (goMv Z Z (AD ?_))))));exact ⟨(k+1,acc++Ei (inM M) (OE p (HK p)[k])),⟨by show k+1≤_;omega,by show acc++Ei (inM M) (OE p (HK p)[k])=((HK p).take (k+1)).flatMap (JL p (inM M));rw [GP hk1,←hA];unfold JL;rw [κ (by simpa using h19)],ab hL (ωe (FN (inM M) _) (Px hb h1 h2 (HK p)[k]))⟩,by show (HK p).length - (k+1)<(HK p).length - k;omega,A1 hF [10,11,12,13,900] Z (Z) ⟨Z,Z,Z,Z,Z,Z,trivial⟩⟩
  ·refine A3 (AE (J (Ay Z Z (AT (k+1) (by have h:=hor;omega)) Z) (goMv Z Z (AD ?_))));exact ⟨(k+1,acc),⟨by show k+1≤_;omega,by show acc=((HK p).take (k+1)).flatMap (JL p (inM M));rw [GP hk1,←hA];unfold JL;rw [ϑ (by simpa using h19),ωk],le_step hL⟩,by show (HK p).length - (k+1)<(HK p).length - k;omega,A1 hF [10,11,12,13,900] Z (Z) ⟨Z,Z,Z,Z,Z,Z,trivial⟩⟩
 ·refine BF (AC ?_);have hfa:acc=(HK p).flatMap (JL p (inM M)):=by rw [hA,Ξ (by have h:=h14;omega)]
  refine Lo (emb:=OY) 5 900 acc Z Z Z Z Z Z Z (AE (goMv Z Z (AB Z Z (AD (A8 ?_)))));exact ⟨_,[10,11,12,13],_,A7 Z,Z,Z,by rw [hfa],Z⟩
def FT (p:Prb) (r:AP) (l:List (Int×Bool)):Int:=(l.map fun e=>if e.2=true then CR (Bm p e.1) r else 0).sum
theorem KU {p:Prb} {r:AP} {l m:List (Int×Bool)} (h:l.Perm m):FT p r l=FT p r m:=Zj h _
theorem Wf (p:Prb) (r:AP) (e:Int×Bool) (l:List (Int×Bool)):FT p r (e::l)=(if e.2=true then CR (Bm p e.1) r else 0)+FT p r l:=by simp [FT]
theorem MZ (p:Prb) (r:AP) (k:Int) (v:Bool) (l:List (Int×Bool)):FT p r ((k,v)::l)=(if v=true then CR (Bm p k) r else 0)+FT p r l:=Wf p r (k,v) l
theorem Hu {p:Prb} {l:List Int} (h:C3 p l=0):Az p=0:=by
 unfold C3 at h;split at h
 ·exact h
 ·rename_i hn;simpa using hn
theorem bf (i:AK) (r:AP): -1000000000000000≤CR i r∧CR i r≤1000000000000000:=by
 unfold CR
 split
 ·rename_i h;simpa [Mx] using MS h.1 r
 ·omega
theorem Td (p:Prb) (r:AP) {l:List (Int×Bool)} (h:l.length≤1000): -1000000000000000000≤FT p r l∧FT p r l≤1000000000000000000:=by
 have:=Od (l:=l) (f:=fun e=>if e.2=true then CR (Bm p e.1) r else 0) (B:=1000000000000000) (fun e _=>by
  show _≤(if e.2=true then _ else _)∧_;have:=bf (Bm p e.1) r
  split<;>omega) 1000 h (by omega)
 unfold FT;omega
def Pk (p:Prb) (M:List (Int×Bool)) (x:Lin):List A2:=if x.n+FT p x.r M<0 then [⟨x.r,0 - (x.n+FT p x.r M)⟩] else []
def La (p:Prb) (M:List (Int×Bool)):List A2:=(linL p).flatMap (Pk p M)
theorem aZ {p:Prb} (hp:Az p=0) (x:Lin) (hx:x∈linL p):0≤x.n∧x.n≤4000000000000000:=by
 unfold linL at hx;obtain ⟨y,hy,rfl⟩:=ϖ.1 hx;have:=K4 (O3 hp).1 y ((Ko p.ro).mem_iff.1 hy);show 0≤max y.n 0∧max y.n 0≤_;omega
abbrev HM3 (p:Prb) (mv:Nat) (M:List (Int×Bool)):Hp:=HA p++ [(12,[BM AF Ak M]),(13,[.addr 12 0 (.map (some mv))])]
theorem Pj (p:Prb) (mv:Nat) (M:List (Int×Bool)) (hp:Az p=0) (hb:E7 p) (hM:M.length≤1000):AN Tryz.prog 74 [.ptr 10 0 0,mapV mv] (HM3 p mv M) fun r H'=>r= .d (.sl none ((La p M).map CZ))∧H'=HM3 p mv M:=by
 have hb1:=hb.1;have hLl:=Hh p;refine BB Tryz.func74 Z Z Tryz.ntmps74 Z Z Z fun F hF=>(AC (AE (AB Z Z ?_)));refine AD (AC (AE (AB Z Z (AD (AC (AC (O4 5 900 sl69 Z Z Z Z (AE ?_))))))));refine goMv Z Z (J (KN Z Z) (J (A4 Z Jm Z Z Z) (J (A9 Z Z Z V7 Z) (J (Bz Z Tryz.underlying227 Z) (goMv Z Z (AD (A5 (B6 (α:=Nat×List A2) (fun q=>⟨53,[(0,.ptr 10 0 0),(1,mapV mv),(5,(.own 900 0 q.2.length)),(14,(.d (.sl none ((linL p).map NG)))),(15,(.d (AF ((linL p).length:Int)))),(16,(.d (AF (q.1:Int))))],HM3 p mv M++ [(900,[.rowD 73 7 (q.2.map CZ)])]⟩) (fun q=>q.1≤(linL p).length∧q.2=((linL p).take q.1).flatMap (Pk p M)∧q.2.length≤q.1) (fun q=>(linL p).length - q.1) ((0,[])) (⟨Γ _,Z,υ _⟩) (A1 hF [10,11,12,13,900] Z Z ⟨Z,Z,Z,Z,Z,Z,trivial⟩) ?_))))))));rintro ⟨k,acc⟩ ⟨hk0,hA,hL⟩;dsimp only at hk0 hA hL⊢;refine AC (AE (J (BT Z Z Z) (AD (AC (Ah Z (fun h17=>?_) (fun h17=>?_))))))
 ·have hk1:k<(linL p).length:=Bf h17;refine A3 (AC (A5 (AC (AE ?_))));have hxn:=aZ hp _ (θ hk1);refine J (Bb (k) Z Z (Z) (Ag hk1) Tryz.underlying227 Z VI Z) (J (GW Z Z rw233 Z) ?_);refine V (CO 1 YZ Z Z Z Z) (V (Bi Z Z Z Z Z Z Z VI) (AD (AC (AE (J (A4 Z fi233_1 Z Z Z) (J (A9 Z Z Z Kg Z) (AB Z Z (AD ?_))))))));refine AC (AC (AE (goMv Z Z (D0 22 13 0 Z Z (V (Fx 2 Z Z Z Ii Z Z Z Z) (AD (A5 (B6 (α:=List Nat×Int) (fun q=>⟨53,[(0,.ptr 10 0 0),(1,mapV mv),(5,(.own 900 0 acc.length)),(7,(.ptr 1 0 0)),(8,(.d (AF q.2))),(14,(.d (.sl none ((linL p).map NG)))),(15,(.d (AF ((linL p).length:Int)))),(16,(.d (AF (k:Int)))),(23,(.ptr 2 0 0))],HM3 p mv M++ [(900,[.rowD 73 7 (acc.map CZ)]),(1,[.blk 233 [.d (AF (linL p)[k].r.k),.d (Ao (linL p)[k].r.acc.o),.d (AF (linL p)[k].r.acc.k),.d (Ao (linL p)[k].r.acc.a),.d (Ao (linL p)[k].r.f),.d (Ao (linL p)[k].r.t),.d (AF (linL p)[k].n),.d (.sl none ((linL p)[k].q.map AF))]]),(2,[.iter 12 0 M.length q.1])]⟩) (fun q=>q.2+FT p (linL p)[k].r (Bs M (List.range M.length) q.1)=(linL p)[k].n+FT p (linL p)[k].r M) (fun q=>(Bs M (List.range M.length) q.1).length) (([],(linL p)[k].n)) (by show (linL p)[k].n+FT p (linL p)[k].r (Bs M (List.range M.length) [])=_;rw [DK (by simp)]) (A1 hF [10,11,12,13,900,1,2] Z Z ⟨Z,Z,Z,Z,Z,Z,Z,Z,Z,trivial⟩) ?_))))))));rintro ⟨seen,left⟩ hI;dsimp only at hI⊢;refine AC (AE (Kh (M) Z Z Z Z (fun hl24=>?_) (fun j24 b24 k24 v24 hm24 hb24 hB24 hp24=>⟨_,Z,?_⟩)))
  ·have hfin:left=(linL p)[k].n+FT p (linL p)[k].r M:=by have h1:=hI;rw [hl24] at h1;have h2:FT p (linL p)[k].r []=0:=rfl;omega
   refine J (Cu Z Z Z) (AD ?_);refine AC (Db Z Z (BF (AC (AE (goMv Z Z (J (BT Z Z Z) (AD (Ah Z (fun h42=>?_) (fun h42=>?_)))))))))
   ·refine AE ?_;have hv4:=Td p (linL p)[k].r hM;refine goMv Z Z (J (A4 Z Jl Z Z Z) (J (BO Z Z CY Z Z Z) (goMv Z Z (J (Yy Z (Υ _ (by omega)) Z) ?_))));refine J (Fe zl73 pl73 Z Z Z) (V (Dz 3 sl69 Z Z Z Z Z Z Z Z) (V (I8 (acc) ([⟨(linL p)[k].r,0 - left⟩]) Z Z Z Z Z Z Z Z sl69 (by simp only [Ψ];omega) Z Z Z Z) (AB Z Z (AD (AE (J (Ay Z Z (AT (k+1) (by omega)) Z) (goMv Z Z (AD ?_))))))));exact ⟨(k+1,acc++ [⟨(linL p)[k].r,0 - left⟩]),⟨by show k+1≤_;omega,by show acc++ [⟨(linL p)[k].r,0 - left⟩]=((linL p).take (k+1)).flatMap (Pk p M);rw [GP hk1,←hA];unfold Pk;rw [←hfin,κ (by simpa using h42)],by show (acc++ [_]).length≤k+1;rw [Θ];simp;omega⟩,by show (linL p).length - (k+1)<(linL p).length - k;omega,A1 hF [10,11,12,13,900] Z (Z) ⟨Z,Z,Z,Z,Z,Z,trivial⟩⟩
   ·refine A3 (AE (J (Ay Z Z (AT (k+1) (by omega)) Z) (goMv Z Z (AD ?_))));exact ⟨(k+1,acc),⟨by show k+1≤_;omega,by show acc=((linL p).take (k+1)).flatMap (Pk p M);rw [GP hk1,←hA];unfold Pk;rw [←hfin,ϑ (by simpa using h42),ωk],by show acc.length≤k+1;omega⟩,by show (linL p).length - (k+1)<(linL p).length - k;omega,A1 hF [10,11,12,13,900] Z (Z) ⟨Z,Z,Z,Z,Z,Z,trivial⟩⟩
  ·refine J (Cu Z Z Z) ?_;refine AD (AC (D9 Z Z (A3 (A5 (AC (AE (J (Fy (M) j24 b24 Z Z Z hm24 hb24 Z) (J (Cu Z Z Z) ?_))))))));refine J (Cu Z Z Z) (AB Z Z (AB Z Z (AD (AC (AE (goMv Z Z (AD (KP Z (fun h29=>?_) (fun h29=>?_)))))))))
   ·refine Cc [[],[],[1],[1,2],[1,2,3],[],[1,2,3,4,5],[],[7],[1,2,3,4,5,6,7,8],[0,1,2,3,4,5,6,7,8,9],[0,1,2,3,4,5,6,7,8,9,10]] mixed Z (Cj ?_);have hb3:=QI hb k24;have hv1:=Td p (linL p)[k].r hM;have hv2:=Td p (linL p)[k].r (ωe (Vy (m:=M) (B:=List.range M.length) (seen:=seen)) hM);have hv3:=bf (Bm p k24) (linL p)[k].r;refine AI [8] [] Z Z (fun _=>AG (Ai Z Z)) (AI [0] [] Z Z (fun _=>AG (Ai Z Z)) (AI [31] [] Z Z (fun _=>AG (KN Z Z)) (AI [32] [] Z Z (fun _=>AG (A4 Z Jn Z Z Z)) (As [33] Z Z (fun _=>AG (A9 Z Z Z Rj Z)) ?_))));refine AI [9] [] Z Z (fun _=>AG (Ai Z Z)) (As [34,35] Z Z (fun _=>AG (RL (CP p.it) k24 AY (Bm p k24) Z Z Z Rx HP za55 Gh (PU p k24) Z)) (AI [7] [] Z Z (fun _=>AG (A4 Z Jl Z Z Z)) (As [37] Z Z (fun _=>AG (BO Z Z CY Z Z Z)) (AI [36,38] [] Z Z (fun _=>AG (BZ (MP (Bm p k24) (linL p)[k].r (by omega) (by omega) (by omega)) Z Z)) (C1 10 Z Z Z (Ae 11 Z Z (J (Ay Z Z (Υ _ (by omega)) Z) (AD ⟨Z,?_⟩))))))));refine Ae 12 Z Z (AB Z Z (AD ⟨Z,?_⟩));refine C6 ?_;exact ⟨(seen++ [b24],left+CR (Bm p k24) (linL p)[k].r),(by show left+CR (Bm p k24) (linL p)[k].r+FT p (linL p)[k].r (Bs M (List.range M.length) (seen++ [b24]))=_;rw [←hI,KU hp24,MZ,κ (by simpa using h29)];omega),by show (Bs M (List.range M.length) (seen++ [b24])).length<(Bs M (List.range M.length) seen).length;rw [hp24.length_eq];exact χm _,A1 hF [10,11,12,13,900,1,2] Z (Z) ⟨Z,Z,Z,Z,Z,Z,Z,Z,Z,trivial⟩⟩
   ·refine A3 ?_;exact ⟨(seen++ [b24],left),(by show left+FT p (linL p)[k].r (Bs M (List.range M.length) (seen++ [b24]))=_;rw [←hI,KU hp24,MZ,ϑ (by simpa using h29)];omega),by show (Bs M (List.range M.length) (seen++ [b24])).length<(Bs M (List.range M.length) seen).length;rw [hp24.length_eq];exact χm _,A1 hF [10,11,12,13,900,1,2] Z (Z) ⟨Z,Z,Z,Z,Z,Z,Z,Z,Z,trivial⟩⟩
 ·refine BF (AC ?_);have hfa:acc=La p M:=by rw [hA,Ξ (by have h:=h17;omega)];rfl
  refine Lo (emb:=CZ) 5 900 acc Z Z Z Z Z Z Z (AE (goMv Z Z (AB Z Z (AD (A8 ?_)))));exact ⟨_,[10,11,12,13],_,A7 Z,Z,Z,by rw [hfa],Z⟩
def Jh (l:List Int) (x:Int):Bool:=decide (x∈l)
theorem violF_p (p:Prb) (l:List Int) (hb:E7 p) (hl:l.length≤1000):AO Tryz.prog 28 [.d (CB p),.d (.sl none (l.map AF))] (.tup [.sl none ((if C3 p l=0 then La p (BA l) else []).map CZ),AF (C3 p l)]):=by
 by_cases hE:C3 p l=0
 ·have hpr:=(Mn p l hb (by omega) hE).by [(2,12)] rfl;have h0:=Hu hE;rw [κ hE,hE];have hbk:=fun mv=>Pj p mv (BA l) h0 hb (by unfold BA;rw [ψ];exact hl);refine BB Tryz.func28 Z Z Tryz.ntmps28 Z Z Z fun F hF=>(AC (AE ?_));refine V (CE 1 Z Z Z Z Z Z Z) (AB Z Z (AB Z Z (AD (AC (AE (J (BO Z Z B8 Z Z Z) (goMv Z Z (V (Eu hpr Z [10,11,12] ⟨Z,Z,Z,trivial⟩ Z Z Z Z Z Z Z Z Z) ?_))))))));refine goMv Z Z (J (Cu Z Z Z) (J (Cu Z Z Z) (J (Cu Z Z Z) (AB Z Z (AB Z Z (AB Z Z (AD (AC ?_))))))));refine AC (AE (goMv Z Z (J (EA Z Z Z) (AD (Db Z ((by decide)) (A3 (AC (TU 13 12 0 Z Z Z Z Z fun mv=>?_))))))));refine WY 7 13 0 (.inl Z) Z (AE (goMv Z Z (goMv Z Z (V (Eu (hbk mv) Z [10,11,12,13] ⟨Z,Z,Z,Z,trivial⟩ Z Z Z Z Z Z Z Z Z) (AB Z Z (AB Z Z (AD (A8 ?_))))))));exact ⟨_,[],[],A7 Z,Z,Z,Z,Z⟩
 ·have hpr:=R8 p l hb (by omega) hE;rw [ϑ hE];refine BB Tryz.func28 Z Z Tryz.ntmps28 Z Z Z fun F hF=>(AC (AE (V (CE 1 Z Z Z Z Z Z Z) (AB Z Z (W6 4 Z (AB Z Z (AD (AC ?_))))))));refine AE (J (BO Z Z B8 Z Z Z) (goMv Z Z (J (BZ (hpr) Z Z) (goMv Z Z (J (D8 Z Z Z) (J (D8 Z Z Z) (J (D8 Z Z Z) (AB Z Z ?_))))))));refine AB Z Z (AB Z Z (AD (AC (AC (AE (goMv Z Z (J (EA Z Z Z) (AD ?_))))))));refine D9 Z ((ωi hE)) (AC (AE (goMv Z Z (AB Z Z (W6 4 Z (AB Z Z (AD (A8 ?_))))))));exact ⟨_,[],[],A7 Z,Z,Z,Z,Z⟩
theorem PC.le {γ:Type} {c:γ ->γ ->Int} (h:PC c) {x y z:γ} (h1:c x y≤0) (h2:c y z≤0):c x z≤0:=by
 by_cases e1:c x y=0
 ·rw [h.eqv x y z e1];exact h2
 ·by_cases e2:c y z=0
  ·have a1:=h.anti y z;have e3:c z y=0:=by omega
   have a2:=h.eqv z y x e3;have a3:=h.anti z x;have a4:=h.anti y x;omega
  ·have:=h.trans x y z (by omega) (by omega);omega
theorem WS {a b:Int}:¬Dv b a<0↔a≤b:=by unfold Dv;split<;>(try split)<;>omega
theorem RP {l ys:List Int} (h1:ys.Perm l) (h2:ys.Pairwise fun a b=>¬Dv b a<0):ys=Co l:=
 List.Perm.eq_of_pairwise (le:=fun a b:Int=>a≤b) (fun a b _ _ g1 g2=>by omega) (h2.imp fun h=>WS.1 h) (JV l) (h1.trans (Cx l).symm)
structure PV (p:Prb):Prop where
 e:Az p=0
 b:E7 p
 i:p.it.length≤1000
 r:p.ro.length≤1000
 q:∀i∈p.it,i.po.length≤1000∧i.pa.length≤1000∧i.af.length≤1000
abbrev u32D (n:Nat):D:= .raw (.int .u32 (n:Int))
structure Sma where
 ids:List Int
 bl:List Nat
 de:List (List Int)
 rm:List Int
abbrev rowZ (l:List Int):D:= .sl none (l.map AF)
abbrev smaD (s:Sma):D:= .agg [.sl none (s.ids.map AF),.sl none (s.bl.map u32D),.sl none (s.de.map rowZ),.sl none (s.rm.map AF)]
def badS (s:Sma) (x:Nat) (i:Nat):Bool:=x.testBit i && decide (anU (s.bl.getD i 0) x≠0)
def admS (s:Sma) (x:Nat):Bool:=!(List.range s.bl.length).any (badS s x)
def listS (s:Sma) (x:Nat):List Int:=((List.range s.ids.length).filter fun i=>x.testBit i).map fun i=>s.ids.getD i 0
def enumX (n:Nat):Nat ->Nat ->Nat ->List Nat
 | 0,_,x=> [x]
 | l+1,frm,x=>((List.range (n+1 - (l+1) - frm)).map (frm+ ·)).flatMap fun i=>enumX n l (i+1) (x ||| 1<<<i)
section
variable {β:Type} (step:β ->Nat ->β×Bool)
end
section
variable {β:Type}
def cQ (s:Sma):List Nat:=(List.range (s.ids.length+1)).flatMap fun k=>(enumX s.ids.length k 0 0).filter (admS s)
end
def smI (p:Prb):List Int:=Co (HK p)
theorem Kb {p:Prb} (hp:Az p=0):(HK p).Perm (p.it.map AK.id):=by
 unfold HK ordP;rw [κ hp];exact (W5 p.it).map _
theorem ZG {p:Prb} (hp:Az p=0):(smI p).Perm (p.it.map AK.id):=(Cx _).trans (Kb hp)
theorem VR {p:Prb} (hp:Az p=0) (x:Int):x∈smI p↔x∈p.it.map AK.id:=(ZG hp).mem_iff
theorem req_in {p:Prb} (hp:Az p=0) {i:Int} (hi:i∈p.it.map AK.id) {b:Bkd} (hb:b∈OE p i):b.m∈smI p:=by
 rw [VR hp];unfold OE at hb;rcases ν.1 hb with h | h
 ·unfold XJ at h;obtain ⟨x,hx,rfl⟩:=ϖ.1 h;have hx':=(Cx _).mem_iff.1 hx;obtain ⟨hk,_,he,_⟩:=au hi;rw [he] at hx';have hf:=GN (O3 hp).2.2 _ (ϖ.2 ⟨_,θ hk,Z⟩);unfold U2 at hf
  split at hf
  ·cases hf
  ·rename_i hn
   show x∈_;have hn2:¬J7 (p.it.map AK.id) x=true:=fun h=>hn (List.any_eq_true.2 ⟨x,hx',h⟩)
   simpa [J7] using hn2
 ·obtain ⟨y,hy,h⟩:=χu.1 h;unfold Ec at h;obtain ⟨z,hz,rfl⟩:=ϖ.1 h;have hz':z∈y.q:=ψc hz;unfold linL at hy;obtain ⟨r,_,rfl⟩:=ϖ.1 hy;have hz2:z∈JZ (ordP p) r.r:=hz';unfold JZ at hz2;obtain ⟨o,ho,rfl⟩:=ϖ.1 hz2;exact (Kb hp).mem_iff.1 (ϖ.2 ⟨o,(ωa.1 ho).1,Z⟩)
abbrev hCt (s:Sma) (q:Nat×Nat):Hp:=[(2,[.blk 390 [.d (.ptr (smaD s))]]),(3,[.blk 3 [.d (AF (q.1:Int))]]),(4,[.blk 3 [.d (AF (q.2:Int))]])]
structure SmaB (s:Sma):Prop where
 n:s.ids.length≤20
 b:s.bl.length≤20
 u:∀b∈s.bl,b<4294967296
 r:s.rm.length≤1000
 d:s.de.length=s.rm.length
 v:∀r∈s.de,r.length≤32∧∀v∈r,-1000000000000000≤v∧v≤1000000000000000
 m:∀v∈s.rm,0≤v∧v≤4000000000000000
deriving instance DecidableEq for Lin
theorem Wv:Co []=[]:=ωw (Em [])
theorem cho_in {p:Prb} {l:List Int} (h:C3 p l=0):∀x∈l,x∈p.it.map AK.id:=by
 have hp:=Hu h;unfold C3 at h;rw [ϑ (by omega)] at h;unfold Mf at h;intro x hx;obtain ⟨k,hk,rfl⟩:=χb.1 hx;have h0:=GN h _ (ϖ.2 ⟨k,ς.2 hk,Z⟩);unfold Fc at h0;rw [CI 0 hk] at h0
 by_cases hn:l[k]∈p.it.map AK.id
 ·exact hn
 ·rw [κ hn] at h0;cases h0
inductive W9 (p:Prb) (S:List Int):Int ->Prop
 | base {x:Int} (h:x∈S):W9 p S x
 | step {i:Int} {b:Bkd} (h:W9 p S i) (hb:b∈OE p i):W9 p S b.m
theorem W9.ids {p:Prb} {S:List Int} (hp:Az p=0) (hS:∀x∈S,x∈p.it.map AK.id) {x:Int} (h:W9 p S x):x∈p.it.map AK.id:=by
 induction h with
 | base h=>exact hS _ h
 | step _ hb ih=>exact (VR hp _).1 (req_in hp ih hb)
theorem TF {p:Prb} {f:Int ->Bool} {b:Bkd} (h:b∈blks p f):∃i,i∈HK p∧f i=true∧b∈OE p i∧f b.m=false:=by
 unfold blks at h;obtain ⟨i,hi,h⟩:=χu.1 h;unfold JL at h
 split at h
 ·rename_i hf
  obtain ⟨h1,h2⟩:=ωa.1 h;exact ⟨i,hi,hf,h1,by simpa using h2⟩
 ·cases h
theorem LG {p:Prb} {f:Int ->Bool} (hp:Az p=0) (h:blks p f=[]) {i:Int} (hi:i∈p.it.map AK.id) (hf:f i=true) {b:Bkd} (hb:b∈OE p i):f b.m=true:=by
 cases hm:f b.m with
 | true=>rfl
 | false=>
  have:b∈blks p f:=χu.2 ⟨i,(Kb hp).mem_iff.2 hi,by unfold JL;rw [κ hf];exact ωa.2 ⟨hb,by rw [hm];rfl⟩⟩;rw [h] at this;cases this
noncomputable def cloS (p:Prb) (S:List Int):List Int:=Co ((p.it.map AK.id).filter fun x=> @decide (W9 p S x) (Classical.propDecidable _))
theorem Md {l m:List Int} (h:l.Perm m):Co l=Co m:=RP ((Cx l).trans h) ((JV l).imp fun h=>WS.2 h)
theorem WT {p:Prb} {S C:List Int} (hp:Az p=0) (hS:∀x∈S,x∈p.it.map AK.id) (hn:C.Nodup) (h:∀x,x∈C↔W9 p S x):Co C=cloS p S:=by
 unfold cloS;have hi:=DL (O3 hp).2.1;refine Md ((χz hn (List.Nodup.sublist ψi hi)).2 fun x=>?_);rw [h x,ωa]
 constructor
 ·intro hr;exact ⟨hr.ids hp hS,by simpa using hr⟩
 ·intro hr;simpa using hr.2
theorem P3 {α:Type} {q r:α ->Bool}:∀{l:List α},(∀x∈l,q x=true ->r x=true) ->(∃x,x∈l∧r x=true∧q x=false) ->(l.filter q).length<(l.filter r).length
 | [],_,⟨x,hx,_⟩=>by cases hx
 | a::l,h,⟨x,hx,h1,h2⟩=>by
  have hle:∀{l:List α},(∀x∈l,q x=true ->r x=true) ->(l.filter q).length≤(l.filter r).length:=by
   intro l
   induction l with
   | nil=>intro _;exact υ _
   | cons c l ih=>
    intro h;have h3:=ih fun x hx=>h x (ωn _ hx);have h4:=h c ωo;rw [φj,φj]
    cases hq:q c with
    | false=>cases r c<;>simp<;>omega
    | true=>rw [h4 hq];simp;exact h3
  have ht:=hle (l:=l) fun x hx=>h x (ωn _ hx);rw [φj,φj];rcases Φ.1 hx with rfl | hx
  ·rw [h1,h2];simp;omega
  ·have ih:=P3 (l:=l) (fun x hx=>h x (ωn _ hx)) ⟨x,hx,h1,h2⟩;have h4:=h a ωo
   cases hq:q a with
   | false=>cases r a<;>simp<;>omega
   | true=>rw [h4 hq];simp;exact ih
structure Cl (p:Prb) (S C:List Int):Prop where
 n:C.Nodup
 s:∀x∈S,x∈C
 r:∀x∈C,W9 p S x
theorem Cl.len {p:Prb} {S C:List Int} (h:Cl p S C) (hp:Az p=0) (hS:∀x∈S,x∈p.it.map AK.id):C.length≤p.it.length:=by
 have hi:=DL (O3 hp).2.1
 have h1:=((χz h.n (List.Nodup.sublist (ψi (p:=fun x=>decide (x∈C))) hi)).2 fun x=>by
  rw [ωa]
  exact ⟨fun hx=>⟨(h.r x hx).ids hp hS,by simpa using hx⟩,fun hx=>by simpa using hx.2⟩).length_eq
 have h2:=ωh (fun x=>decide (x∈C)) (p.it.map AK.id);rw [ψ] at h2;omega
theorem Cl.done {p:Prb} {S C:List Int} (h:Cl p S C) (hp:Az p=0) (hS:∀x∈S,x∈p.it.map AK.id) (h0:blks p (Jh C)=[]):Co C=cloS p S:=by
 refine WT hp hS h.n fun x=>⟨h.r x,fun hr=>?_⟩
 induction hr with
 | base hx=>exact h.s _ hx
 | @step i b hr hb ih=>
  have h1:=LG hp h0 (hr.ids hp hS) (ωi ih) hb
  simpa [Jh] using h1
theorem Cl.add {p:Prb} {S C:List Int} (h:Cl p S C) {b:Bkd} (hb:b∈blks p (Jh C)):Cl p S (C++ [b.m])∧b.m∉C:=by
 obtain ⟨i,_,h2,h3,h4⟩:=TF hb;have hi:i∈C:=by simpa [Jh] using h2
 have hn:b.m∉C:=by simpa [Jh] using h4
 refine ⟨⟨?_,fun x hx=>ν.2 (.inl (h.s x hx)),fun x hx=>?_⟩,hn⟩
 ·rw [χp];refine ⟨h.n,by simp,fun x hx y hy e=>?_⟩;rw [ξ] at hy;subst hy;subst e;exact hn hx
 ·rcases ν.1 hx with hx | hx
  ·exact h.r x hx
  ·rw [ξ.1 hx];exact .step (h.r i hi) h3
theorem Cl.dec {p:Prb} {C D:List Int} {m:Int} (hm:m∈p.it.map AK.id) (h1:m∉C) (h2:m∈D) (h:∀x∈C,x∈D):((p.it.map AK.id).filter fun x=>!Jh D x).length<((p.it.map AK.id).filter fun x=>!Jh C x).length:=
 P3 (fun x _ hx=>by
  have:x∉D:=by simpa [Jh] using hx
  have:x∉C:=fun hc=>this (h x hc)
  simpa [Jh] using this) ⟨m,hm,by simpa [Jh] using h1,by simpa [Jh] using h2⟩
theorem YF {p:Prb} (hb:E7 p) (h1:p.it.length≤1000) (h2:p.ro.length≤1000) (f:Int ->Bool):(blks p f).length≤1100000000:=by
 unfold blks;have h5:=Jj (f:=JL p f) (n:=1100000) (l:=HK p) (fun x _=>TJ hb h1 h2 f x);have h6:(HK p).length≤1000:=by unfold HK;rw [ψ];exact ωe (DY p) h1
 have h7:(HK p).length*1100000≤1000*1100000:=ψb _ h6;omega
def DD (M:List (Int×Bool)):List Int:=(M.filter fun e=>e.2).map Prod.fst
theorem M6 (k:Int) (v:Bool) (M:List (Int×Bool)):DD ((k,v)::M)=(if v=true then [k] else [])++DD M:=by
 unfold DD;cases v<;>simp
theorem M0 {l m:List (Int×Bool)} (h:l.Perm m):(DD l).Perm (DD m):=(h.filter _).map _
theorem Wh (M:List (Int×Bool)):(DD M).length≤M.length:=by unfold DD;rw [ψ];exact ωh _ _
abbrev HM4 (mv:Nat) (B:List Nat) (c:Nat) (M:List (Int×Bool)):Hp:=[(12,[.map (some (B,c)) (BQ AF Ak M)]),(13,[.addr 12 0 (.map (some mv))])]
theorem ZC (mv:Nat) (B:List Nat) (c:Nat) (M:List (Int×Bool)) (hB:B.length=M.length) (hM:M.length≤100000):AN Tryz.prog 73 [mapV mv] (HM4 mv B c M) fun r H'=>r= .own 900 0 (DD M).length∧H'=HM4 mv B c M++ [(900,[.rowD 3 1 ((Co (DD M)).map AF)])]:=by
 have hT:=Wh M;refine BB Tryz.func73 Z Z Tryz.ntmps73 Z Z Z fun F hF=>?_;refine AC (AE (AB Z Z (AD (AC (AE (AB Z Z (AD (AC ?_))))))));refine AC (O4 3 900 B4 Z Z Z Z (AE (goMv Z Z (D0 6 13 0 Z Z (V (Fx 1 Z Z Z Ii Z Z Z Z) (AD (A5 (B6 (α:=List Nat×List Int) (fun q=>⟨21,[(3,(.own 900 0 q.2.length)),(7,(.ptr 1 0 0))],HM4 mv B c M++ [(900,[.rowD 3 1 (q.2.map AF)]),(1,[.iter 12 0 c q.1])]⟩) (fun q=>(q.2++DD (Bs M B q.1)).Perm (DD M)) (fun q=>(Bs M B q.1).length) (([],[])) (by show ([]++DD (Bs M B [])).Perm _;rw [DK hB];exact List.Perm.refl _) (A1 hF [12,13,900,1] Z Z ⟨Z,Z,trivial⟩) ?_))))))));rintro ⟨seen,acc⟩ hI;dsimp only at hI⊢;refine AC (AE (Kh (M) Z Z Z Z (fun hl8=>?_) (fun j8 b8 k8 v8 hm8 hb8 hB8 hp8=>⟨_,Z,?_⟩)))
 ·have hfin:acc.Perm (DD M):=by have h1:=hI;rw [hl8] at h1;simpa [DD] using h1
  refine J (Cu Z Z Z) (AD (AC (Db Z Z (BF (AC (AE ?_))))));have hal2:=hfin.length_eq;refine goMv Z Z (V (RE laysS acc (by omega) Z Z Z Z Z Z Z) (AD (AC (AE (goMv Z Z (AB Z Z (AD (A8 ?_))))))));exact ⟨_,[12,13,900],_,A7 Z,Z,Z,by rw [hfin.length_eq],by rw [Md hfin];rfl⟩
 ·refine J (Cu Z Z Z) ?_;refine AD (AC (D9 Z Z (A3 (A5 (AC (AE (J (Fy (M) j8 b8 Z Z Z hm8 hb8 Z) (J (Cu Z Z Z) ?_))))))));refine J (Cu Z Z Z) (AB Z Z (AB Z Z (AD (AC (AE (goMv Z Z (AD (KP Z (fun h13=>?_) (fun h13=>?_)))))))))
  ·refine AE (goMv Z Z ?_);have hal:acc.length≤100000:=by have h1:=hI.length_eq;rw [Θ] at h1;omega
   refine goMv Z Z (V (Dz 30 B4 Z Z Z Z Z Z Z Z) (V (I8 (acc) ([k8]) Z Z Z Z Z Z Z Z B4 (by simp only [Ψ];omega) Z Z Z Z) (AB Z Z (AD ?_))));exact ⟨(seen++ [b8],acc++ [k8]),(by show ((acc++ [k8])++DD (Bs M B (seen++ [b8]))).Perm _;refine List.Perm.trans (List.Perm.trans ?_ (List.Perm.append_left acc (M0 hp8)).symm) hI;rw [M6,κ (by simpa using h13),ψm]),by show (Bs M B (seen++ [b8])).length<(Bs M B seen).length;rw [hp8.length_eq];exact χm _,A1 hF [12,13,900,1] Z (Z) ⟨Z,Z,trivial⟩⟩
  ·refine A3 ?_;exact ⟨(seen++ [b8],acc),(by show (acc++DD (Bs M B (seen++ [b8]))).Perm _;refine List.Perm.trans (List.Perm.trans ?_ (List.Perm.append_left acc (M0 hp8)).symm) hI;rw [M6,ϑ (by simpa using h13),List.nil_append]),by show (Bs M B (seen++ [b8])).length<(Bs M B seen).length;rw [hp8.length_eq];exact χm _,A1 hF [12,13,900,1] Z (Z) ⟨Z,Z,trivial⟩⟩
def Um (M:List (Int×Bool)):Prop:=∀e∈M,e.2=true
def keysM (M:List (Int×Bool)):List Int:=M.map Prod.fst
theorem Wi {M:List (Int×Bool)} (h:Um M):DD M=keysM M:=by
 unfold DD keysM;rw [List.filter_eq_self.2 h]
theorem WD {M:List (Int×Bool)} (h:Um M):inM M=Jh (keysM M):=funext fun x=>by
 unfold inM Jh
 by_cases hx:x∈keysM M
 ·rw [ωi hx];exact h _ (Hg (z:=false) hx)
 ·rw [ωp hx];exact IR hx
theorem cS {M:List (Int×Bool)} (h:Um M) (x:Int):Um (Av M x true):=fun e he=>by
 obtain ⟨j,hj,rfl⟩:=χb.1 he;have h1:=ME (m:=M) (a:=x) (b:=true)
 by_cases e:j=mix M x
 ·subst e;have:=h1.1;rw [ω hj] at this;injection this with this;rw [this]
 ·have h2:=h1.2 j e;rw [ω hj] at h2;exact h _ (ζ h2.symm)
theorem NK (M:List (Int×Bool)) (x:Int) (b:Bool):keysM (Av M x b)=if x∈keysM M then keysM M else keysM M++ [x]:=Kl
theorem Cl.put {p:Prb} {S:List Int} {M:List (Int×Bool)} (h:Cl p S (keysM M)) {x:Int} (hx:W9 p S x):Cl p S (keysM (Av M x true)):=by
 rw [NK]
 split
 ·exact h
 ·rename_i hn
  refine ⟨?_,fun y hy=>ν.2 (.inl (h.s y hy)),fun y hy=>?_⟩
  ·rw [χp];exact ⟨h.n,by simp,fun a ha b hb e=>by rw [ξ] at hb;subst hb;subst e;exact hn ha⟩
  ·rcases ν.1 hy with hy | hy
   ·exact h.r y hy
   ·rw [ξ.1 hy];exact hx
theorem ZM (l:List Int):Um (BA l):=fun e he=>by
 unfold BA at he;obtain ⟨x,_,rfl⟩:=ϖ.1 he;rfl
theorem Wy (l:List Int):keysM (BA l)=l:=by unfold keysM BA;rw [ωv];exact List.map_id' l
theorem closF_c (p:Prb) (l:List Int) (hb:E7 p) (hl:l.length≤1000) (h1:p.it.length≤1000) (h2:p.ro.length≤1000) (hE:C3 p l=0) (hn:l.Nodup) (hS:∀x∈l,x∈p.it.map AK.id):AN Tryz.prog 27 [.d (CB p),.d (.sl none (l.map AF))] [] fun r H'=>r= .tup [.own 900 0 (cloS p l).length,.d (AF 0)]∧H'=[(900,[.rowD 3 1 ((cloS p l).map AF)])]:=by
 have hpr:=(Mn p l hb (by omega) hE).by [(2,12)] rfl;have h0:=Hu hE;have hbk:=fun mv M=>cI p mv (some (List.range M.length,M.length)) M hb h1 h2;refine BB Tryz.func27 Z Z Tryz.ntmps27 Z Z Z fun F hF=>(AC (AE (V (CE 1 Z Z Z Z Z Z Z) ?_)));refine AB Z Z (AB Z Z (AD (AC (AE (J (BO Z Z B8 Z Z Z) (goMv Z Z (V (Eu hpr Z [10,11,12] ⟨Z,Z,Z,trivial⟩ Z Z Z Z Z Z Z Z Z) (goMv Z Z ?_))))))));refine J (Cu Z Z Z) (J (Cu Z Z Z) (J (Cu Z Z Z) (AB Z Z (AB Z Z (AB Z Z (AD (AC (AC ?_))))))));refine AE (goMv Z Z (J (EA Z Z Z) (AD (Db Z ((by decide)) (A3 (AC (AC (TU 13 12 0 Z Z Z Z Z fun mv=>?_))))))));refine WY 7 13 0 (.inl Z) Z (AE (goMv Z Z (goMv Z Z (V (Eu (hbk mv (BA l)) Z [10,11,12,13] ⟨Z,Z,Z,Z,trivial⟩ Z Z Z Z Z Z Z Z Z) (AB Z Z (AD (A5 (B6 (α:=List (Int×Bool)) (fun M=>⟨43,[(6,(.ptr 10 0 0)),(7,(mapV mv)),(9,(.d (.sl none ((blks p (inM M)).map OY))))],HM2 p mv (some (List.range M.length,M.length)) M⟩) (fun M=>Um M∧Cl p l (keysM M)) (fun M=>((p.it.map AK.id).filter fun x=>!Jh (keysM M) x).length) (BA l) (⟨ZM l,by rw [Wy];exact ⟨hn,fun _ h=>h,fun _ h=> .base h⟩⟩) (A1 hF [10,11,12,13] Z Z ⟨Z,Z,Z,trivial⟩) ?_))))))));rintro M ⟨hT,hC⟩;refine AC (AC (AE (goMv Z Z ?_)));have hWl:(blks p (inM M)).length≤1100000000:=YF hb h1 h2 _;refine J (Bz Z Tryz.underlying141 Z) (J (KK Z Z Z) (AD (Ah Z (fun h27=>?_) (fun h27=>?_))))
 ·refine A3 (AC (A5 (AC ?_)));have hw0:0<(blks p (inM M)).length:=by have h:=h27;omega
  have hmem:∀b∈blks p (inM M),W9 p l b.m∧b.m∉keysM M:=fun b hb=>by rw [WD hT] at hb;exact ⟨(hC.add hb).1.r _ (by simp),(hC.add hb).2⟩
  refine AE (goMv Z Z (J (Bz Z Tryz.underlying141 Z) (goMv Z Z (AD (A5 (B6 (α:=Nat×List (Int×Bool)) (fun q=>⟨43,[(6,(.ptr 10 0 0)),(7,(mapV mv)),(31,(.d (.sl none ((blks p (inM M)).map OY)))),(32,(.d (AF ((blks p (inM M)).length:Int)))),(33,(.d (AF (q.1:Int))))],HM2 p mv (some (List.range q.2.length,q.2.length)) q.2⟩) (fun q=>q.1≤(blks p (inM M)).length∧Um q.2∧Cl p l (keysM q.2)∧(∀x∈keysM M,x∈keysM q.2)∧(0<q.1 ->(blks p (inM M))[0].m∈keysM q.2)) (fun q=>(blks p (inM M)).length - q.1) ((0,M)) (⟨Γ _,hT,hC,fun _ h=>h,fun h=>absurd h (φd 0)⟩) (A1 hF [10,11,12,13] Z Z ⟨Z,Z,Z,Z,Z,trivial⟩) ?_))))));rintro ⟨k,M2⟩ ⟨hk0,hT2,hC2,hsub,hfst⟩;dsimp only at hk0 hT2 hC2 hsub hfst⊢;refine AC (AE (J (BT Z Z Z) (AD (AC (Ah Z (fun h34=>?_) (fun h34=>?_))))))
  ·have hk1:k<(blks p (inM M)).length:=Bf h34;refine A3 (AC (A5 ?_));refine AC (AE (J (Bb (k) Z Z (Z) (Ag hk1) Tryz.underlying141 Z sz144 Z) (J (GW Z Z rw144 Z) (V (CO 2 Y2 Z Z Z Z) (V (Bi Z Z Z Z Z Z Z sz144) (AD (AE (goMv Z Z ?_))))))));refine D0 37 13 0 Z Z (J (A4 Z fi144_1 Z Z Z) (J (A9 Z Z Z Aq Z) (V (T9 (M2) ((blks p (inM M))[k].m) (true) Z Z Z Ii HP Z Z) (AD (AE (J (Ay Z Z (AT (k+1) (by omega)) Z) (goMv Z Z (AD ?_))))))));exact ⟨(k+1,Av M2 (blks p (inM M))[k].m true),⟨by show k+1≤_;omega,cS hT2 _,hC2.put (hmem _ (θ hk1)).1,fun x hx=>by show x∈keysM (Av M2 _ true);rw [NK];split;exact hsub x hx;exact ν.2 (.inl (hsub x hx)),fun _=>by show _∈keysM (Av M2 _ true);rw [NK];rcases φn k with hk | hk;subst hk;split;assumption;simp;split;exact hfst hk;exact ν.2 (.inl (hfst hk))⟩,by show (blks p (inM M)).length - (k+1)<(blks p (inM M)).length - k;omega,A1 hF [10,11,12,13] Z (Z) ⟨Z,Z,Z,Z,Z,trivial⟩⟩
  ·have hdec:((p.it.map AK.id).filter fun x=>!Jh (keysM M2) x).length<((p.it.map AK.id).filter fun x=>!Jh (keysM M) x).length:=Cl.dec ((hmem _ (θ hw0)).1.ids h0 hS) (hmem _ (θ hw0)).2 (hfst (by have h:=h34;omega)) hsub;refine BF (AE (goMv Z Z (goMv Z Z (V (Eu (hbk mv M2) Z [10,11,12,13] ⟨Z,Z,Z,Z,trivial⟩ Z Z Z Z Z Z Z Z Z) (AB Z Z (AD ?_))))));exact ⟨M2,⟨hT2,hC2⟩,hdec,A1 hF [10,11,12,13] Z (Z) ⟨Z,Z,Z,trivial⟩⟩
 ·refine BF (AC ?_);have hb0:blks p (Jh (keysM M))=[]:=by rw [←WD hT];exact ωw (by have h:=h27;omega)
  have hML:M.length≤100000:=by have h3:=hC.len h0 hS;unfold keysM at h3;rw [ψ] at h3;omega
  have hfin:Co (DD M)=cloS p l:=by rw [Wi hT];exact hC.done h0 hS hb0
  have hfl:(DD M).length=(cloS p l).length:=by rw [←hfin,Em]
  refine AE (goMv Z Z (V (Eu (ZC mv (List.range M.length) M.length M (by simp) hML) Z [12,13,900] ⟨Z,Z,Z,trivial⟩ Z Z Z Z Z Z Z Z Z) (AB Z Z (AB Z Z (AD (A8 ?_))))));exact ⟨_,[900],_,A7 Z,Z,Z,by rw [hfl],by rw [hfin]⟩
inductive Drp (p:Prb) (S:List Int):Int ->Prop
 | base {i:Int} {b:Bkd} (hb:b∈OE p i) (h:b.m∉S):Drp p S i
 | step {i:Int} {b:Bkd} (hb:b∈OE p i) (h:Drp p S b.m):Drp p S i
theorem req_i {p:Prb} {i:Int} {b:Bkd} (hb:b∈OE p i):b.i=i:=by
 unfold OE at hb;rcases ν.1 hb with h | h
 ·unfold XJ at h;obtain ⟨x,_,rfl⟩:=ϖ.1 h;rfl
 ·obtain ⟨y,_,h⟩:=χu.1 h;unfold Ec at h;obtain ⟨z,_,rfl⟩:=ϖ.1 h;rfl
noncomputable def intS (p:Prb) (S:List Int):List Int:=Co (S.filter fun x=> @decide (¬Drp p S x) (Classical.propDecidable _))
structure Ci (p:Prb) (S C:List Int):Prop where
 n:C.Nodup
 s:∀x∈C,x∈S
 r:∀x∈S,x∉C ->Drp p S x
theorem Ci.done {p:Prb} {S C:List Int} (h:Ci p S C) (hp:Az p=0) (hn:S.Nodup) (hS:∀x∈S,x∈p.it.map AK.id) (h0:blks p (Jh C)=[]):Co C=intS p S:=by
 have key:∀x,Drp p S x ->x∉C:=fun x hx=>by
  induction hx with
  | @base i b hb hm=>
   intro hi;have h1:=LG hp h0 (hS _ (h.s _ hi)) (ωi hi) hb;exact hm (h.s _ (by simpa [Jh] using h1))
  | @step i b hb _ ih=>
   intro hi;have h1:=LG hp h0 (hS _ (h.s _ hi)) (ωi hi) hb;exact ih (by simpa [Jh] using h1)
 unfold intS;refine Md ((χz h.n (List.Nodup.sublist ψi hn)).2 fun x=>?_);rw [ωa]
 constructor
 ·intro hx;exact ⟨h.s x hx,by simpa using fun hd=>key x hd hx⟩
 ·intro hx;have h2:¬Drp p S x:=by simpa using hx.2
  exact Classical.byContradiction fun hc=>h2 (h.r x hx.1 hc)
theorem Ci.drop {p:Prb} {S C:List Int} (h:Ci p S C) {b:Bkd} (hb:b∈blks p (Jh C)):Drp p S b.i∧b.i∈C:=by
 obtain ⟨i,_,h2,h3,h4⟩:=TF hb;have hi:i∈C:=by simpa [Jh] using h2
 have hm:b.m∉C:=by simpa [Jh] using h4
 rw [req_i h3];refine ⟨?_,hi⟩
 by_cases hs:b.m∈S
 ·exact .step h3 (h.r _ hs hm)
 ·exact .base h3 hs
theorem Ci.rest {p:Prb} {S C:List Int} (h:Ci p S C) {x:Int} (hx:Drp p S x):Ci p S (C.filter fun y=>decide (y≠x)):=by
 refine ⟨List.Nodup.sublist ψi h.n,fun y hy=>h.s y (ωa.1 hy).1,fun y hy hn=>?_⟩
 by_cases hc:y∈C
 ·by_cases e:y=x
  ·subst e;exact hx
  ·exact absurd (ωa.2 ⟨hc,by simpa using e⟩) hn
 ·exact h.r y hy hc
theorem aS (M:List (Int×Bool)) (x:Int):mix M x=(keysM M).idxOf x:=by
 induction M with
 | nil=>rfl
 | cons e r ih=>
  obtain ⟨k,v⟩:=e;show (if x=k then 0 else mix r x+1)=(k::keysM r).idxOf x;rw [ih,List.idxOf_cons]
  by_cases e:x=k
  ·subst e;simp
  ·have:(k==x)=false:=by simpa using fun h=>e h.symm
   rw [ϑ e,this];rfl
theorem ak {M:List (Int×Bool)} (hn:(keysM M).Nodup) (x:Int):keysM (mdel M x)=(keysM M).filter fun y=>decide (y≠x):=by
 unfold mdel;rw [aS];show ((M.eraseIdx _).map Prod.fst)=_;rw [Vt];show (keysM M).eraseIdx _=_;rw [←List.erase_eq_eraseIdx_of_idxOf Z,List.Nodup.erase_eq_filter hn]
 apply χx
 intro y _
 by_cases e:y=x
 ·subst e;simp
 ·simp [e]
theorem Ci.del {p:Prb} {S:List Int} {M:List (Int×Bool)} (h:Ci p S (keysM M)) {x:Int} (hx:Drp p S x):Ci p S (keysM (mdel M x)):=by
 rw [ak h.n];exact h.rest hx
theorem YC {p:Prb} {l:List Int} (h:C3 p l=0):l.Nodup:=by
 have hp:=Hu h;unfold C3 at h;rw [ϑ (by omega)] at h;unfold Mf at h;rw [List.Nodup,ωq];intro i j hi hj hij e;have h0:=GN h _ (ϖ.2 ⟨j,ς.2 hj,Z⟩);unfold Fc at h0;rw [CI 0 hj] at h0;have hm:l[j]∈l.take j:=by rw [←e];exact χe.2 ⟨i,by omega,Z⟩
 split at h0
 ·cases h0
 ·first | (rw [κ hm] at h0;cases h0) | simp_all
theorem cC {p:Prb} {l:List Int}:(cloS p l).length≤p.it.length:=by
 unfold cloS;rw [Em];exact ωe (ωh _ _) (by rw [ψ];exact υ _)
end Go.Proofs.YteifpcnphnhaoaaGreat
