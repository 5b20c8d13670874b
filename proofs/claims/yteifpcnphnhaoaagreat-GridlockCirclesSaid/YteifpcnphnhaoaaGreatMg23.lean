import Derived.Test.YteifpcnphnhaoaaGreatMg22
import Derived.Shelf.SortG.Plain
import Derived.Shelf.SortG.SortNone
namespace Go.Proofs.YteifpcnphnhaoaaGreat
open Go.RowKit Go.Shelf
open Go.Sort (putRow Holds putCells)
def Cm (l:List Int):List Int:=l.mergeSort fun x y=>decide (x≤y)
theorem Cw (l:List Int):(Cm l).Perm l:=List.mergeSort_perm l _
theorem Ef (l:List Int):(Cm l).length=l.length:=(Cw l).length_eq
theorem JT (l:List Int):(Cm l).Pairwise (· ≤ ·):=by
 have:=List.pairwise_mergeSort (le:=fun x y:Int=>decide (x≤y)) (fun a b c h1 h2=>by simp only [ωx] at*;omega) (fun a b=>by simp only [Bool.or_eq_true,ωx];omega) l;exact this.imp fun h=>by simpa using h
abbrev zD (z:Int):D:= .raw (.int .i64 z)
variable {P:Program} {ρr:Ren}
theorem RG (L:SlLaysN.n53 P ρr) {E:TypeId} {g53:FuncId} (xs:List Int) (hsz:xs.length<4611686018427387904) {F:Fr} {s:AS} {d:Nat} {x:Operand} {ty:TypeId} {pos:String} {aft:Array Edge} {gd:Option (Nat×Bool)} {at_:Array TypeId} {f n:Nat} {row:List D} {hp':Hp}
  (hg:ρr.f 53=g53) (hx:s.ev x=some (.own f 0 n)) (ho:hget s.hp f 0=some (.rowD E 1 row)) (hrow:row=xs.map zD) (hn:n=xs.length) (hh:BN s.hp f 0 (.rowD E 1 ((Cm xs).map zD))=some hp') (hd:Nat.blt d s.n=true):
  AI P F ⟨some d,.call {callee:= .value (.func g53),args:= #[x],argTypes:=at_},ty,pos,aft,gd⟩ s ⟨s.n,(d,.d (.tup []))::s.env,hp'⟩ (fun _ _=>true):=by
 subst hg hrow hn;intro ρ act w hs
 obtain ⟨fn6,hf1,hf2,hf3⟩:∃fn,P.funcs[ρr.f 53]? =some fn∧(fn.name== "runtime.NumGoroutine")=false∧fn.body.isSome=true:=by
  obtain ⟨nm,hn,hf⟩:=L.f53;exact ⟨_,hf,hn,Z⟩
 unfold Oper.wp;rw [show (#[x]:Array Operand)=[x].toArray from rfl,DV hf1 hf2 hf3,Oper.upon_enter]
 suffices key:Calls P (ρr.f 53) ([x].map act.eval).toArray w fun e w'=>e= .returned (.tuple #[])∧SR F ⟨s.n,s.env,hp'⟩ ρ act w' by
  refine key.mono fun e w' ⟨e1,hsr⟩=>?_;subst e1;exact ⟨ρ,hsr.put (IB hd) (.d (.tup Z fun i c v hc=>by cases hc)),fun _ _ _=>rfl⟩
 have r0:=hs.ev hx;have hg0:=ho;have h3:=hs.heap;have hset:=Am hh;obtain ⟨us,q1,q2,q3⟩:=h3.sim f 0 _ hg0;show Calls P (ρr.f 53) #[act.eval x] w _
 generalize act.eval x=V0 at r0
 cases r0 with
 | own hρ hle=>
  rename_i N cap a
  by_cases hx:xs=[]
  ·subst hx;refine (AnyG.slices_Sort_int_none L a cap w).mono fun e w' ⟨e1,e2⟩=>?_;subst e1 e2;refine ⟨Z,hs.writeG f 0 _ _ ho hset Z Z Z (ν _) (ν _) (fun _ _ _=>rfl) (fun _ _ e=>by cases e) fun hrep=>?_⟩;have h0:Cm []=[]:=by simp [Cm]
   rw [h0];exact ⟨us,q1,⟨by simpa using q2.1,fun x hx=>(by cases hx),fun i x hx=>by simp at hx⟩,fun x hx=>(by cases hx)⟩
  ·have hn:0<xs.length:=χg.2 hx;have hul:us.length=xs.length:=by have:=q2.1;rw [ψ] at this;omega
   have hblkeq:∃b cur,a=some ⟨b,0,none⟩∧w.heap[b]? =some (.cells cur E (0,0))∧cur.size=cap∧xs.length≤cap∧cap≤maxLen∧cur.toList.take xs.length=us∧N=xs.length:=by
    rcases q1.2 with ⟨_,h⟩ | ⟨b,cap',cur,e1,_,e2,e3,e4,e5,e6⟩
    ·rw [ψ] at h;omega
    ·rw [hρ] at e1;injection e1 with e1 e7 e8
     subst e1 e8;rw [ψ] at e3 e6 e7;exact ⟨b,cur,Z,e2,by omega,e3,e4,by rw [χu] at e6;exact e6,e7⟩
   obtain ⟨b,cur,rfl,p1,p2,p3,p3',p4,rfl⟩:=hblkeq;have hb:B9 (ρ f 0)=some b:=by rw [hρ];rfl
   have hlt:b<w.heap.size:=(ωr.1 p1).1
   have hus:∀i (hi:i<xs.length),us[i]? =some (.int .i64 xs[i]):=fun i hi=>by
    have hm:(xs.map zD)[i]? =some (zD xs[i]):=by rw [η,ω hi];rfl
    obtain ⟨u,hu,_,hr⟩:=q2.2.2 i _ hm 0 (zD xs[i]) rfl;rw [χu,χm] at hu
    cases hr with
    | raw _=>exact hu
   have hH:Holds (Value.int .i64) w b 0 xs.toArray:=by
    intro j hj;have hj:j<xs.length:=by simpa using hj
    refine ⟨?_,?_⟩
    ·have hju:us[j]? =cur.toList[j]?:=by rw [←p4,ψf hj]
     simp only [World.cell?,p1,ψq];have h1:=hus j hj;rw [hju] at h1;rw [getElem!_pos _ j (by simpa using hj)];have hjc:j<cur.size:=by simpa using (χ.1 h1).1
     simp only [List.getElem_toArray]
     simp [hjc] at h1⊢
     exact h1
    ·simp only [World.frozen?,p1];simp
   have key:=AnyG.slices_Sort_int L b 0 cap xs w hH hlt hsz;refine key.mono fun e w' ⟨e1,nd,os,hw⟩=>?_;subst e1 hw
   obtain ⟨ys,hys⟩:∃ys,Cm xs=ys:=⟨_,Z⟩
   have hys':(xs.mergeSort fun x y=>decide (x≤y))=ys:=hys;have hyl:ys.length=xs.length:=by rw [←hys,Ef]
   rw [hys] at hset hh;rw [hys'];refine ⟨Z,?_⟩;have hsz2:((putRow (Value.int .i64) (Go.Sort.ahead w nd) b 0 ys.toArray)).heap.size=w.heap.size:=by rw [Go.Sort.size_putRow];rfl
   have hoth:∀b',b'<w.heap.size ->b'≠b ->(Go.Sort.grow (putRow (Value.int .i64) (Go.Sort.ahead w nd) b 0 ys.toArray) os).heap[b']? =w.heap[b']?:=fun b' hl hne=>by
    rw [Go.Sort.heap_grow_old _ _ (by rw [hsz2];exact hl)];show (w.heap.modify b _)[b']? =_;rw [ψv,ϑ (Ne.symm hne)]
   refine hs.writeG f 0 _ _ ho hset Z Z Z (by rw [Go.Sort.size_grow,hsz2];exact Nat.le_add_right _ _) (Nat.le_add_right _ _) (fun b' hl hno=>hoth b' hl (fun e=>hno (by rw [e];exact hb))) (fun _ _ e=>by cases e) fun hrep=>?_
   have hheap:(Go.Sort.grow (putRow (Value.int .i64) (Go.Sort.ahead w nd) b 0 ys.toArray) os).heap[b]? =some (.cells (putCells (Value.int .i64) 0 ys.toArray cur) E (0,0)):=by
    rw [Go.Sort.heap_grow_old _ _ (by rw [hsz2];exact hlt)];show (w.heap.modify b _)[b]? =_;rw [ψv,θ Z,p1];rfl
   have hcs:(putCells (Value.int .i64) 0 ys.toArray cur).size=cap:=by simp only [putCells,Array.size_mapIdx];exact p2
   have hyl2:(ys.map zD).length=xs.length:=by rw [ψ,hyl]
   refine ⟨ys.map (Value.int .i64),⟨by rw [ψ,hyl2,hyl,χu],.inr ⟨b,cap,_,by rw [hρ,hyl2],ς _,hheap,by rw [hyl2];exact p3,p3',by omega,?_⟩⟩,⟨by rw [ψ,hyl2,hyl,χu],fun x hx2=>?_,fun i x hx2 j c hc2=>?_⟩,fun x hx2 c hc2=>?_⟩
   ·rw [hyl2,χu]
    apply χq
    intro i
    by_cases hi:i<xs.length
    ·rw [ψf hi,ψm,η,ω (by omega),ωl (by omega)];simp only [putCells,Array.getElem_mapIdx];rw [θ ⟨ς _,by simp;omega⟩];simp only [Nat.sub_zero,ψz];rw [getElem!_pos _ i (by simp;omega)]
     simp
    ·rw [ωw (by rw [Υ];omega),ωw (by rw [ψ];omega)]
   ·obtain ⟨y,_,rfl⟩:=ϱ.1 hx2;rfl
   ·rw [η] at hx2
    cases hyi:ys[i]? with
    | none=>rw [hyi] at hx2;cases hx2
    | some y=>
     rw [hyi] at hx2;injection hx2 with hx2;subst hx2
     have hj0:j=0:=by have:=(χ.1 hc2).1;simp [D.cells] at this;exact this
     subst hj0;simp only [D.cells,List.getElem?_cons_zero,Option.some.injEq] at hc2;subst hc2;exact ⟨.int .i64 y,by rw [χu,χm,η,hyi];rfl,Z,.raw Z⟩
   ·obtain ⟨y,_,rfl⟩:=ϱ.1 hx2;simp only [D.cells,ξ] at hc2;subst hc2;rfl
end Go.Proofs.YteifpcnphnhaoaaGreat
namespace Go.Proofs.YteifpcnphnhaoaaGreat
open Go.RowKit
set_option maxRecDepth 100000
section
variable {P:Program} {F:Fr} {s:AS} {α β:Type} [DecidableEq α] {eK:α ->D} {eV:β ->D} {K:TypeId} {kv:α ->Value} {d:Nat} {ty T E:TypeId} {pos:String} {aft:Array Edge} {g:Option (Nat×Bool)} {x y z:Operand} {bs:Option (List Nat×Nat)}
theorem RM (m:List (α×β)) (a:α) (b0 v:β) {x0:D} {f i:Nat} (hx:s.ev x=some (.map f i)) (ho:hget s.hp f i=some (.map bs (BO eK eV m))) (hy:s.ev y=some (.d (eK a))) (hT:B8 P T K E=true) (KT:Ba P K eK kv) (hz:Ce P E=some (.d x0)) (hw:∀w O v,AQ w O x0 v ->AQ w O (eV b0) v) (hv:A7 m a b0=v) (hd:Nat.blt d s.n=true):
  AA P F ⟨some d,.lookup T x y false,ty,pos,aft,g⟩ s d (.d (eV v)):=
 Cj _ hd fun ρ act w hs=>by
  obtain ⟨mb,arr,c,e1,_,h1,h2,h3,_⟩:=hs.mapAt hx ho;have hk:act.eval y=kv a:=(hs.repD hy).val (KT.val a);obtain ⟨zv,hz1,hz2⟩:=ED hz w
  have hz3:∀w' O ρ,AW w' O ρ (.d (eV b0)) zv:=fun w' O ρ=>by
   have:=hz2 w' O ρ
   cases this with
   | d h=>exact .d (hw _ _ _ h)
  subst hv;rcases hit_get KT h2 h3 a b0 with ⟨g1,_,g3,_⟩ | ⟨j,e,g1,g2,_,_,_,_,g7⟩
  ·refine ⟨zv,?_,by rw [g3];exact hz3 _ _ _⟩
   simp [execOp,Instr.lookup,run_underlying (VA hT),e1,hk,MapKept.run_getObj_map h1,KT.check,KT.find w a _ _ (Wb KT h2 h3),g1,hz1,Result.andThen]
  ·refine ⟨e.val,?_,.d g7⟩
   simp [execOp,Instr.lookup,run_underlying (VA hT),e1,hk,MapKept.run_getObj_map h1,KT.check,KT.find w a _ _ (Wb KT h2 h3),g1,Result.andThen]
theorem MZ (m:List (α×β)) (a:α) (b0:β) {x0:D} {f i:Nat} (hx:s.ev x=some (.map f i)) (ho:hget s.hp f i=some (.map bs (BO eK eV m))) (hy:s.ev y=some (.d (eK a))) (hT:B8 P T K E=true) (KT:Ba P K eK kv) (hz:Ce P E=some (.d x0)) (hw:∀w O v,AQ w O x0 v ->AQ w O (eV b0) v) (hd:Nat.blt d s.n=true):
  AA P F ⟨some d,.lookup T x y true,ty,pos,aft,g⟩ s d (.tup [.d (eV (A7 m a b0)),.d (.raw (.bool (Mv m a)))]):=
 Cj _ hd fun ρ act w hs=>by
  obtain ⟨mb,arr,c,e1,_,h1,h2,h3,_⟩:=hs.mapAt hx ho;have hk:act.eval y=kv a:=(hs.repD hy).val (KT.val a);obtain ⟨zv,hz1,hz2⟩:=ED hz w
  have hz3:∀w' O ρ,AW w' O ρ (.d (eV b0)) zv:=fun w' O ρ=>by
   have:=hz2 w' O ρ
   cases this with
   | d h=>exact .d (hw _ _ _ h)
  have tup2:∀{v1 v2:Value} {a1 a2:AV},AW w (F.O ρ s.hp) ρ a1 v1 ->AW w (F.O ρ s.hp) ρ a2 v2 ->AW w (F.O ρ s.hp) ρ (.tup [a1,a2]) (.tuple #[v1,v2]):=fun {v1 v2 a1 a2} h1 h2=>by
   refine .tup (vs:=[v1,v2]) Z fun i a v ha hv=>?_;rcases i with _ | _ | i
   ·simp at ha hv;subst ha hv;exact h1
   ·simp at ha hv;subst ha hv;exact h2
   ·simp at ha
  rcases hit_get KT h2 h3 a b0 with ⟨g1,g2,g3,_⟩ | ⟨j,e,g1,g2,_,g4,_,_,g7⟩
  ·refine ⟨.tuple #[zv,.bool false],?_,tup2 (by rw [g3];exact hz3 _ _ _) (by rw [g2];exact .d (.raw Z))⟩
   simp [execOp,Instr.lookup,run_underlying (VA hT),e1,hk,MapKept.run_getObj_map h1,KT.check,KT.find w a _ _ (Wb KT h2 h3),g1,hz1,Result.andThen]
  ·refine ⟨.tuple #[e.val,.bool true],?_,tup2 (.d g7) (by rw [g4];exact .d (.raw Z))⟩
   simp [execOp,Instr.lookup,run_underlying (VA hT),e1,hk,MapKept.run_getObj_map h1,KT.check,KT.find w a _ _ (Wb KT h2 h3),g1,Result.andThen]
end
theorem Ge:∀w O v,AQ w O (.agg [AF 0,AF 0,AF 0,.sl (some true) [],.sl (some true) [],.sl (some true) []]) v ->AQ w O (As A0) v:=fun w O v h=>h.aggMono Z (by simp [D.one]) fun i c c' hc hc' v hv=>by
 match i,hc,hc' with
 | 0,hc,hc'=>injection hc with hc;injection hc' with hc';subst hc hc';exact hv
 | 1,hc,hc'=>injection hc with hc;injection hc' with hc';subst hc hc';exact hv
 | 2,hc,hc'=>injection hc with hc;injection hc' with hc';subst hc hc';exact hv
 | 3,hc,hc'=>injection hc with hc;injection hc' with hc';subst hc hc';exact hv.anyNil
 | 4,hc,hc'=>injection hc with hc;injection hc' with hc';subst hc hc';exact hv.anyNil
 | 5,hc,hc'=>injection hc with hc;injection hc' with hc';subst hc hc';exact hv.anyNil
def linR (l:List A2):List A2:=l.mergeSort fun a b=>decide (Bh a.r b.r≤0)
theorem Km (l:List A2):(linR l).Perm l:=List.mergeSort_perm l _
theorem ae (l:List A2):(linR l).length=l.length:=(Km l).length_eq
theorem cmpR_le {a b c:AP} (h1:Bh a b≤0) (h2:Bh b c≤0):Bh a c≤0:=by
 by_cases e1:Bh a b=0
 ·rw [Dr.1 e1];exact h2
 ·by_cases e2:Bh b c=0
  ·rw [←Dr.1 e2];exact h1
  ·have:=OY.trans a b c (by omega) (by omega);omega
theorem SG (l:List A2):(linR l).Pairwise fun a b=>¬Bh b.r a.r<0:=by
 have:=List.pairwise_mergeSort (le:=fun a b:A2=>decide (Bh a.r b.r≤0)) (fun a b c h1 h2=>by simp only [ωx] at*;exact cmpR_le h1 h2) (fun a b=>by simp only [Bool.or_eq_true,ωx];have:=OY.anti a.r b.r;omega) l
 exact this.imp fun {a b} h=>by
  have h':Bh a.r b.r≤0:=by simpa using h
  have:=OY.anti a.r b.r;omega
theorem rsc_one {γ:Type} (f:γ ->AP) {l m ys:List γ} (hn:(l.map f).Nodup) (hm:m.Perm l) (hms:m.Pairwise fun a b=>¬Bh (f b) (f a)<0) (h1:ys.Perm l) (h2:ys.Pairwise fun a b=>¬Bh (f b) (f a)<0):ys=m:=by
 have st:∀{k:List γ},(k.map f).Nodup ->(k.Pairwise fun a b=>¬Bh (f b) (f a)<0) ->k.Pairwise fun a b=>Bh (f a) (f b)<0:=fun {k} hn h=>by
  rw [List.Nodup,ψe] at hn;refine (h.and hn).imp fun {a b} ⟨g1,g2⟩=>?_;have h1:=OY.anti (f a) (f b);have h2:Bh (f a) (f b)≠0:=fun e=>g2 (Dr.1 e);omega
 exact Cv (R:=fun a b=>Bh (f a) (f b)<0) (fun x=>by rw [OY.refl];omega) (fun x y z=>OY.trans _ _ _) (st ((h1.map f).nodup_iff.2 hn) h2) (st ((hm.map f).nodup_iff.2 hn) hms) fun x=>by rw [h1.mem_iff,hm.mem_iff]
structure Lin where
 r:AP
 n:Int
 q:List Int
abbrev Mz (x:Lin):D:= .agg [AF x.r.k,Ao x.r.acc.o,AF x.r.acc.k,Ao x.r.acc.a,Ao x.r.f,Ao x.r.t,AF x.n,.sl none (x.q.map AF)]
theorem aj (x:Lin):∃cs,Mz x= .agg cs:=⟨_,Z⟩
def HU (p:Prb) (x:A2):Lin:=⟨x.r,max x.n 0,JX (ordP p) x.r⟩
def linL (p:Prb):List Lin:=(linR p.ro).map (HU p)
theorem Hg (p:Prb):(linL p).length=p.ro.length:=by unfold linL;rw [ψ,ae]
theorem R7 {l:List A2} (h:Ey l=0):(l.map A2.r).Nodup:=by
 have h0:=YY.1 h;rw [List.Nodup,ψe,ωv];intro i j hi hj hij e;have:=h0 j (Ξ.2 hj);unfold Pu at this;rw [CY DX hj] at this
 split at this
 ·contradiction
 ·split at this
  ·cases this
  ·split at this
   ·cases this
   ·rename_i hn;exact hn (Mw hj hij e)
theorem WC {p:Prb} (hp:Al p=0) {ys:List Lin} (h1:ys.Perm (p.ro.map (HU p))) (h2:ys.Pairwise fun a b=>¬Bh b.r a.r<0):ys=linL p:=by
 refine rsc_one Lin.r (l:=p.ro.map (HU p)) ?_ ((Km p.ro).map _) ?_ h1 h2
 ·rw [ωu];exact R7 (C3 hp).1
 ·unfold linL;rw [ψe];exact SG p.ro
theorem ana1_p (a b:Lin):AO Tryz.prog 175 [.d (Mz a),.d (Mz b)] (AF (Bh a.r b.r)):=by
 refine BB Tryz.func175 Z Z Tryz.ntmps175 Z Z Z fun F hF=>(AC (AE (V (Bz 1 Z Z Z Z Z Z Z) (V (Bz 2 Z Z Z Z Z Z Z) (AB Z Z (AD (AC ?_)))))));refine AE (J (A4 Z Jm Z Z Z) (J (BM Z Z C7 Z Z Z) (J (A4 Z Jm Z Z Z) (J (BM Z Z C7 Z Z Z) (J (B2 (LC a.r b.r) Z Z) (AB Z Z (AD (A8 ?_))))))));exact ⟨_,[],[],A6 Z,Z,Z,Z,Z⟩
def CQ (l:List AK):List (Int×AK):=l.map fun i=>(i.id,i)
theorem U3 {l:List AK} {i:AK} (h:i.id∉l.map AK.id):Aw (CQ l) i.id i=CQ (l++ [i]):=by
 induction l with
 | nil=>rfl
 | cons a l ih=>
  rw [ωm,Ψ] at h;show Aw ((a.id,a)::CQ l) i.id i=(a.id,a)::CQ (l++ [i]);rw [←ih (fun h'=>h (.inr h'))];simp only [Aw];rw [ϑ (fun e=>h (.inl e))]
section
variable {β:Type}
end
def HK (p:Prb):List Int:=(ordP p).map AK.id
abbrev HA (p:Prb):Hp:=[(10,[.blk 229 [.map 11 0,.d (.sl none ((HK p).map AF)),.d (.sl none ((linL p).map Mz))]]),(11,[BL AF As (CQ p.it)])]
theorem maxI (a:Int):(if 0>a then 0 else a)=max a 0:=by rw [Int.max_def];split<;>split<;>omega
theorem Nm (p:Prb) (hb:EW p) (hE:Al p=0):AM Tryz.prog 126 [.d (Bs p)] [] fun r H'=>r= .tup [.ptr 3 0 0,.d (AF 0)]∧H'=[(3,[.blk 229 [.map 2 0,.d (.sl none ((HK p).map AF)),.d (.sl none ((linL p).map Mz))]]),(2,[BL AF As (CQ p.it)])]:=by
 have hck:=DY p hb;rw [hE] at hck;have hid:=Dm (C3 hE).2.1;have hor:=F5 p hb;have hb1:=hb.1;have hb2:=hb.2.1;refine BB Tryz.func126 Z Z Tryz.ntmps126 Z Z Z fun F hF=>(AC (AE (V (Bz 1 Z Z Z Z Z Z Z) ?_)));refine AB Z Z (AB Z Z (AD (AC (AC (AE (J (BM Z Z BW Z Z Z) (J (B2 (hck) Z Z) (AB Z Z ?_))))))));refine AD (AC (AE (goMv Z Z (J (D6 Z Z Z) (AD (D9 Z ((by decide)) (A3 (AC ?_))))))));refine AE (V (Pb 2 Z Z Z Z) (J (BM Z Z BW Z Z Z) (J (B2 (hor) Z Z) (J (FZ zl229 pl229 Z Z Z) (V (Bz 3 Z Z Z Z Z Z Z) (AB Z Z (AD (AC ?_))))))));refine AC (AE (J (A4 Z EV Z Z Z) (J (A9 Z Z Z Kd Z) (J (CO Z Tryz.underlying37 Z) (goMv Z Z (AD (A5 (B7 (α:=Nat) (fun k=>⟨68,[(1,(.ptr 1 0 0)),(5,(.ptr 3 0 0)),(21,(.d (.sl none (p.it.map As)))),(22,(.d (AF (p.it.length:Int)))),(23,(.d (AF (k:Int))))],[(1,[Mi 39 p]),(3,[.blk 229 [.map 2 0,.d (.sl none ((HK p).map AF)),I8]]),(2,[BL AF As (CQ (p.it.take k))])]⟩) (fun k=>k≤p.it.length) (fun k=>p.it.length - k) (0) (ς _) (A1 hF [1,3,2] Z Z ⟨Z,Z,Z,Z,Z,trivial⟩) ?_))))))));rintro k hk0;refine AC (AE (J (BR Z Z Z) (AD (AC (Ae Z (fun h24=>?_) (fun h24=>?_))))))
 ·have hk1:k<p.it.length:=Bf h24;refine A3 (AC (A5 (AC (AE ?_))));have hnk:p.it[k].id∉(p.it.take k).map AK.id:=fun h=>by have hn:=hid;rw [List.Nodup,ψe,ωv] at hn;obtain ⟨x,hx,e⟩:=ϱ.1 h;obtain ⟨j,hj,rfl⟩:=χr.1 hx;exact hn j k (by omega) hk1 (by omega) e
  refine J (Be (k) Z Z (Z) (Ah hk1) Tryz.underlying37 Z Ck Z) (J (HE Z Z CC Z) (V (CF 4 Em Z Z Z Z) (V (Bi Z Z Z Z Z Z Z Ck) (AD (Ch [[],[0],[0,1],[0,1,2],[],[4],[],[0,1,2,3,4,5,6]] mixed Z (Cq (AJ [5] [] Z Z (fun _=>AG (Ak Z Z)) (AJ [27] [] Z Z (fun _=>AG (KL Z Z)) ?_))))))));refine AJ [28] [] Z Z (fun _=>AG (A4 Z Jo Z Z Z)) (Av [29] Z Z (fun _=>AG (A9 Z Z Z Rn Z)) (AJ [7] [] Z Z (fun _=>AG (A4 Z OB Z Z Z)) (Av [31] Z Z (fun _=>AG (A9 Z Z Z Aq Z)) (Av [7] Z Z (fun _=>AG (BM Z Z CC Z Z Z)) (C5 7 Z Z Z (Af 8 Z Z (V (Tj (CQ (p.it.take k)) (p.it[k].id) (p.it[k]) Z Z Z SB HP Z Z) (AD ⟨Z,?_⟩))))))));refine C9 (AE (J (BA Z Z (AT (k+1) (by omega)) Z) (goMv Z Z (AD ?_))));exact ⟨k+1,by show k+1≤_;omega,by show p.it.length - (k+1)<p.it.length - k;omega,A1 hF [1,3,2] Z (by rw [φ hk1,←U3 hnk];rfl) ⟨Z,Z,Z,Z,Z,trivial⟩⟩
 ·refine BF (AC (AC ?_));rw [Θ (show p.it.length≤k by have h:=h24;omega)];refine ER 3 0 2 900 ZP Z Z Z Z Z Z Z (AE (J (A4 Z Fp Z Z Z) (J (A9 Z Z Z Rm Z) (J (CO Z Tryz.underlying36 Z) (goMv Z Z (AD (A5 (B7 (α:=Nat×List Lin) (fun q=>⟨68,[(1,(.ptr 1 0 0)),(5,(.ptr 3 0 0)),(36,(.d (.sl none (p.ro.map Cy)))),(37,(.d (AF (p.ro.length:Int)))),(38,(.d (AF (q.1:Int))))],[(900,[.rowD 233 8 (q.2.map Mz)]),(1,[Mi 39 p]),(3,[.blk 229 [.map 2 0,.d (.sl none ((HK p).map AF)),.own 900 0 q.2.length]]),(2,[BL AF As (CQ p.it)])]⟩) (fun q=>q.1≤p.ro.length∧q.2=(p.ro.take q.1).map (HU p)) (fun q=>p.ro.length - q.1) ((0,[])) (⟨ς _,Z⟩) (A1 hF [900,1,3,2] Z Z ⟨Z,Z,Z,Z,Z,trivial⟩) ?_))))))));rintro ⟨m,acc⟩ ⟨hm0,hA⟩;dsimp only at hm0 hA⊢;refine AC (AE (J (BR Z Z Z) (AD (AC (Ae Z (fun h39=>?_) (fun h39=>?_))))))
  ·have hm1:m<p.ro.length:=Bf h39;refine A3 (AC (A5 (AC (AE ?_))));have hal:acc.length≤100000:=by rw [hA,ψ,Υ];omega
   refine J (Be (m) Z Z (Z) (Ah hm1) Tryz.underlying36 Z OG Z) ?_;refine J (HE Z Z ZW Z) (V (CF 5 Qn Z Z Z Z) (V (Bi Z Z Z Z Z Z Z OG) (AD (Ch [[],[],[1],[1,2],[1,2,3],[],[5],[],[7],[7,8],[],[],[11],[10,11,12],[5,6,7,8,9,10,11,12,13],[5,6,7,8,9,10,11,12,13,14],[1,2,3,4,5,6,7,8,9,10,11,12,13,14,15],[0,1,2,3,4,5,6,7,8,9,10,11,12,13,14,15,16],[0,1,2,3,4,5,6,7,8,9,10,11,12,13,14,15,16,17],[0,1,2,3,4,5,6,7,8,9,10,11,12,13,14,15,16,17,18]] mixed Z (Cq (AJ [5] [] Z Z (fun _=>AG (Ak Z Z)) (AJ [5] [] Z Z (fun _=>AG (Ak Z Z)) (AJ [43] [] Z Z (fun _=>AG (KL Z Z)) ?_))))))));refine AJ [44] [] Z Z (fun _=>AG (A4 Z Jn Z Z Z)) (AJ [45] [3] Z Z (fun _=>AG (A9 Z Z Z Vf Z)) (AJ [9] [] Z Z (fun _=>AG (A4 Z FG Z Z Z)) (AJ [47] [5] Z Z (fun _=>AG (BM Z Z C7 Z Z Z)) (AJ [9] [] Z Z (fun _=>AG (A4 Z QO Z Z Z)) (AJ [49] [5] Z Z (fun _=>AG (A9 Z Z Z Ke Z)) (AJ [50] [] Z Z (fun _=>AG (Pi Z Z (maxI _) Z)) (AJ [1] [1] Z Z (fun _=>AG (BM Z Z BW Z Z Z)) (AJ [9] [] Z Z (fun _=>AG (A4 Z FG Z Z Z)) ?_))))))));refine AJ [53] [5] Z Z (fun _=>AG (BM Z Z C7 Z Z Z)) (AJ [52,54] [] Z Z (fun _=>AG (B2 (queue_p p p.ro[m].r hb) Z Z)) (AJ [48,51,55] [] Z Z (fun _=>AG (FZ Y3 pl233 Z Z Z)) (Gv [56] [50] [(57,_)] Z Z (fun _=>Gw (D7 50 ZP Z Z Z Z Z Z Z Z)) (.inr ⟨57,_,Z,Z,Z,Z,Z⟩) Z Z Z Z Z (Gv [46,57] [900,50,3,2] [(58,_)] Z Z (fun _=>Gw (Hz (acc) ([HU p p.ro[m]]) Z Z Z Z Z Z Z Z ZP (by simp only [Φ];omega) Z Z Z Z)) (.inr ⟨58,_,Z,Z,Z,Z,Z⟩) Z Z Z Z Z (C5 17 Z Z Z (Af 18 Z Z (J (KL Z Z) (AD ⟨Z,?_⟩))))))));refine Af 19 Z Z (J (A4 Z Jn Z Z Z) (AD ⟨Z,?_⟩));refine Af 20 Z Z (V (Bi Z Z Z Z Z Z Z sz227) (AD ⟨Z,?_⟩));refine C9 (AE (J (BA Z Z (AT (m+1) (by omega)) Z) (goMv Z Z (AD ?_))));exact ⟨(m+1,acc++ [HU p p.ro[m]]),⟨by show m+1≤_;omega,by show acc++ [HU p p.ro[m]]=(p.ro.take (m+1)).map (HU p);rw [DQ hm1,hA]⟩,by show p.ro.length - (m+1)<p.ro.length - m;omega,A1 hF [900,1,3,2] Z (Z) ⟨Z,Z,Z,Z,Z,trivial⟩⟩
  ·refine BF (AC ?_);have hfa:acc=p.ro.map (HU p):=by rw [hA,Θ (by have h:=h39;omega)]
   refine AE (goMv Z Z (J (KL Z Z) (J (A4 Z Jn Z Z Z) (J (A9 Z Z Z Vf Z) (V (Ln laysLn (k:=8) (by decide) Tryz.isAgg233 Tryz.sizeOf233 Tryz.func175 Z Z aj (fun a b=>Bh a.r b.r) ((OY.comap Lin.r).swo) acc (linL p) (by rw [hfa,ψ];omega) (fun x _ y _=>ana1_p x y) (fun ys g1 g2=>WC hE (by rw [←hfa];exact g1) g2) Z Z Z Kv Z Z Z Z Z) ?_)))));refine AD (AC (Du (ys:=(linL p).map Mz) 3 0 2 900 Z Z Z (by rw [ψ,Hg,hfa,ψ];exact ν _) (Θ (by rw [ψ,Hg,hfa,ψ];exact ν _)) Z Z Z Z Z Z (AE (goMv Z Z (AB Z Z (AB Z Z (AD (A8 ?_))))))));exact ⟨_,[3,2],_,A6 Z,Z,Z,Z,Z⟩
theorem TX (p:Prb) (hb:EW p) (hE:Al p≠0):AO Tryz.prog 126 [.d (Bs p)] (.tup [.raw (.pointer none),AF (Al p)]):=by
 have hck:=DY p hb;refine BB Tryz.func126 Z Z Tryz.ntmps126 Z Z Z fun F hF=>(AC (AE (V (Bz 1 Z Z Z Z Z Z Z) (AB Z Z (AB Z Z (AD (AC (AC ?_))))))));refine AE (J (BM Z Z BW Z Z Z) (J (B2 (hck) Z Z) (AB Z Z (AD (AC (AE (goMv Z Z (J (D6 Z Z Z) ?_))))))));refine AD (DP Z ((ωi hE)) (AC (AE (goMv Z Z (AB Z Z (AB Z Z (AD (A8 ?_))))))));exact ⟨_,[],[],A6 Z,Z,Z,Z,Z⟩
theorem U4 (l:List AK) (i:Int):A7 (CQ l) i A0=l.getD ((l.map AK.id).idxOf i) A0:=by
 induction l with
 | nil=>rfl
 | cons a l ih=>
  show (if i=a.id then a else A7 (CQ l) i A0)=_;rw [ωm,List.idxOf_cons]
  by_cases h:a.id=i
  ·rw [θ h.symm];simp [h]
  ·rw [ϑ (fun e=>h e.symm),ih];have hb:(a.id==i)=false:=by simp [h]
   rw [hb];simp
theorem Ix (l:List AK) (i:Int):Mv (CQ l) i=decide (i∈l.map AK.id):=by
 rw [φp,FF,ωx];unfold CQ;rw [ωu];rfl
theorem PP (p:Prb) (i:Int):A7 (CQ p.it) i A0=Bm p i:=U4 p.it i
theorem QE {p:Prb} (hb:EW p) (i:Int):(Bm p i).po.length≤100000∧(Bm p i).pa.length≤100000∧(Bm p i).af.length≤100000:=by
 unfold Bm;rw [ϖ]
 cases h:p.it[(p.it.map AK.id).idxOf i]? with
 | none=>exact ⟨by simp [A0],by simp [A0],by simp [A0]⟩
 | some x=>exact hb.2.2 _ (ζ h)
theorem Mg (p:Prb) (l:List Int) (hb:EW p) (hl:l.length≤100000) (hE:D5 p l=0):AM Tryz.prog 71 [.d (Bs p),.d (.sl none (l.map AF))] [] fun r H'=>r= .tup [.ptr 10 0 0,.map 2 0,.d (AF 0)]∧H'=HA p++ [(2,[BL AF Ai (BC l)])]:=by
 have h0:Al p=0:=by
  unfold D5 at hE;split at hE
  ·exact hE
  ·rename_i h;simpa using h
 have han:=(Nm p hb h0).by [(3,10),(2,11)] rfl;have hC:D5 p l=Pq (p.it.map AK.id) l:=ϑ (fun h=>h h0);rw [hC] at hE;refine BB Tryz.func71 Z Z Tryz.ntmps71 Z Z Z fun F hF=>(AC (AE (V (Bz 1 Z Z Z Z Z Z Z) ?_)));refine AB Z Z (AB Z Z (AB Z Z (AD (AC (AE (J (BM Z Z BW Z Z Z) (V (E1 han Z [10,11] ⟨Z,Z,trivial⟩ Z Z Z Z Z Z Z Z Z) (goMv Z Z ?_))))))));refine J (Ct Z Z Z) (J (Ct Z Z Z) (AB Z Z (AB Z Z (AD (AC (AC (AE (goMv Z Z ?_))))))));refine J (D6 Z Z Z) (AD (D9 Z ((by decide)) (A3 (AC (AE (V (Pb 2 Z Z Z Z) (AB Z Z (AD ?_))))))));refine AC (AC (AE (goMv Z Z (J (CO Z Tryz.underlying28 Z) (goMv Z Z (AD (A5 (B7 (α:=Nat) (fun k=>⟨48,[(7,(.ptr 10 0 0)),(9,(.map 2 0)),(23,(.d (.sl none (l.map AF)))),(24,(.d (AF (l.length:Int)))),(25,(.d (AF (k:Int))))],HA p++ [(2,[BL AF Ai (BC (l.take k))])]⟩) (fun k=>k≤l.length) (fun k=>l.length - k) (0) (ς _) (A1 hF [10,11,2] Z Z ⟨Z,Z,Z,Z,Z,trivial⟩) ?_))))))));rintro k hk0;refine AC (AE (J (BR Z Z Z) (AD (AC (Ae Z (fun h26=>?_) (fun h26=>?_))))))
 ·have hk1:k<l.length:=Bf h26;refine A3 (AC (A5 (AC (AE ?_))));have hin:l[k]∈p.it.map AK.id:=(Pp hE).2 _ (κ hk1);have hnk:l[k]∉l.take k:=fun h=>by have hn2:=(Pp hE).1;rw [List.Nodup,ωv] at hn2;obtain ⟨j,hj,e⟩:=χr.1 h;exact hn2 j k (by omega) hk1 (by omega) e
  refine J (Be (k) Z Z (Z) (Ah hk1) Tryz.underlying28 Z BE Z) (J (Cr Z Z Aq Z) (AB Z Z (AD (AC (AC (AE (goMv Z Z (J (KL Z Z) ?_))))))));refine J (A4 Z Jo Z Z Z) (J (A9 Z Z Z Rn Z) (goMv Z Z (J (MZ (CQ p.it) l[k] A0 Z Z Z SB HP za55 Ge Z) (goMv Z Z (J (Ct Z Z Z) (J (Ct Z Z Z) (V (CF 3 Em Z Z Z Z) (V (Bi Z Z Z Z Z Z Z Ck) ?_))))))));refine AB Z Z (AD (AC (AE (goMv Z Z (J (OC Z Z) (AD (D9 Z ((by rw [Ix,ωi hin];rfl)) (A3 ?_))))))));refine AC (AC (AE (goMv Z Z (goMv Z Z (J (HQ (BC (l.take k)) (l[k]) (false) _ Z Z Z If HP Td Z Z) (AD (D9 Z ((by rw [Wd];exact ωp hnk)) (A3 ?_))))))));refine AE (goMv Z Z (goMv Z Z (V (Tj (BC (l.take k)) (l[k]) (true) Z Z Z If HP Z Z) (AD (AE (J (BA Z Z (AT (k+1) (by omega)) Z) (goMv Z Z (AD ?_))))))));exact ⟨k+1,by show k+1≤_;omega,by show l.length - (k+1)<l.length - k;omega,A1 hF [10,11,2] Z (by rw [φ hk1,←cg hnk];rfl) ⟨Z,Z,Z,Z,Z,trivial⟩⟩
 ·refine BF ?_;refine AC (AE (goMv Z Z (goMv Z Z (AB Z Z (AB Z Z (AB Z Z (AD (A8 ?_))))))));exact ⟨_,[10,11,2],_,A6 Z,Z,Z,Z,by rw [Θ (show l.length≤k by have h:=h26;omega)];rfl⟩
theorem Rb (p:Prb) (l:List Int) (hb:EW p) (hl:l.length≤100000) (hE:D5 p l≠0):AO Tryz.prog 71 [.d (Bs p),.d (.sl none (l.map AF))] (.tup [.raw (.pointer none),.raw (.map none),AF (D5 p l)]):=by
 by_cases h0:Al p=0
 ·have han:=(Nm p hb h0).by [(3,10),(2,11)] rfl;have hC:D5 p l=Pq (p.it.map AK.id) l:=ϑ (fun h=>h h0);rw [hC] at hE⊢
  obtain ⟨E0,hE0⟩:∃e,Pq (p.it.map AK.id) l=e:=⟨_,Z⟩
  rw [hE0] at hE⊢;refine BB Tryz.func71 Z Z Tryz.ntmps71 Z Z Z fun F hF=>(AC (AE (V (Bz 1 Z Z Z Z Z Z Z) ?_)));refine AB Z Z (AB Z Z (AB Z Z (AD (AC (AE (J (BM Z Z BW Z Z Z) (V (E1 han Z [10,11] ⟨Z,Z,trivial⟩ Z Z Z Z Z Z Z Z Z) (goMv Z Z ?_))))))));refine J (Ct Z Z Z) (J (Ct Z Z Z) (AB Z Z (AB Z Z (AD (AC (AC (AE (goMv Z Z ?_))))))));refine J (D6 Z Z Z) (AD (D9 Z ((by decide)) (A3 (AC (AE (V (Pb 2 Z Z Z Z) (AB Z Z (AD ?_))))))));refine AC (AC (AE (goMv Z Z (J (CO Z Tryz.underlying28 Z) (goMv Z Z (AD (A5 (B7 (α:=Nat) (fun k=>⟨48,[(7,(.ptr 10 0 0)),(9,(.map 2 0)),(23,(.d (.sl none (l.map AF)))),(24,(.d (AF (l.length:Int)))),(25,(.d (AF (k:Int))))],HA p++ [(2,[BL AF Ai (BC (l.take k))])]⟩) (fun k=>k≤l.length∧E0=Bg (((List.range l.length).drop k).map (HD (p.it.map AK.id) l))) (fun k=>l.length - k) (0) (⟨ς _,hE0.symm⟩) (A1 hF [10,11,2] Z Z ⟨Z,Z,Z,Z,Z,trivial⟩) ?_))))))));rintro k ⟨hk0,hk⟩;refine AC (AE (J (BR Z Z Z) (AD (AC (Ae Z (fun h26=>?_) (fun h26=>?_))))))
  ·have hk1:k<l.length:=Bf h26;refine A3 (AC (A5 (AC (AE ?_))));have hEc:=EJ hk1 hk;have hgd:=CY 0 hk1;refine J (Be (k) Z Z (Z) (Ah hk1) Tryz.underlying28 Z BE Z) (J (Cr Z Z Aq Z) (AB Z Z (AD (AC (AC (AE (goMv Z Z ?_)))))));refine J (KL Z Z) (J (A4 Z Jo Z Z Z) (J (A9 Z Z Z Rn Z) (goMv Z Z (J (MZ (CQ p.it) l[k] A0 Z Z Z SB HP za55 Ge Z) (goMv Z Z (J (Ct Z Z Z) (J (Ct Z Z Z) (V (CF 3 Em Z Z Z Z) ?_))))))));refine V (Bi Z Z Z Z Z Z Z Ck) (AB Z Z (AD (AC (AE (goMv Z Z (J (OC Z Z) (AD (KN Z (fun h39=>?_) (fun h39=>?_)))))))))
   ·have hin:¬l[k]∈p.it.map AK.id:=by rw [Ix] at h39;simpa using h39
    refine AC (AE (AB Z Z (AB Z Z (AB Z Z (AD (A8 ?_))))));exact ⟨_,[],[],A6 Z,Z,Z,by rw [hEc.2 9 (by unfold HD;rw [hgd,θ hin]) (by decide)],Z⟩
   ·have hin:l[k]∈p.it.map AK.id:=by rw [Ix] at h39;simpa using h39
    refine A3 (AC (AC (AE (goMv Z Z (goMv Z Z (J (HQ (BC (l.take k)) (l[k]) (false) _ Z Z Z If HP Td Z Z) (AD (KN Z (fun h42=>?_) (fun h42=>?_)))))))))
    ·have hnk:l[k]∈l.take k:=by rw [Wd] at h42;simpa using h42
     refine AC (AE (AB Z Z (AB Z Z (AB Z Z (AD (A8 ?_))))));exact ⟨_,[],[],A6 Z,Z,Z,by rw [hEc.2 7 (by unfold HD;rw [hgd,ϑ (fun h=>h hin),θ hnk]) (by decide)],Z⟩
    ·have hnk:¬l[k]∈l.take k:=by rw [Wd] at h42;simpa using h42
     refine A3 ?_;refine AE (goMv Z Z (goMv Z Z (V (Tj (BC (l.take k)) (l[k]) (true) Z Z Z If HP Z Z) (AD (AE (J (BA Z Z (AT (k+1) (by omega)) Z) (goMv Z Z (AD ?_))))))));exact ⟨k+1,⟨by show k+1≤_;omega,hEc.1 (by unfold HD;rw [hgd,ϑ (fun h=>h hin),ϑ hnk])⟩,by show l.length - (k+1)<l.length - k;omega,A1 hF [10,11,2] Z (by rw [φ hk1,←cg hnk];rfl) ⟨Z,Z,Z,Z,Z,trivial⟩⟩
  ·refine BF ?_;refine AC (AE (goMv Z Z (goMv Z Z (AB Z Z (AB Z Z (AB Z Z (AD (A8 ?_))))))));exact absurd (by rw [hk,List.drop_of_length_le (by have h:=h26;simp only [ωg];omega)];rfl) hE
 ·have hC:D5 p l=Al p:=θ h0;have hab:=TX p hb h0;rw [hC];refine BB Tryz.func71 Z Z Tryz.ntmps71 Z Z Z fun F hF=>(AC (AE (V (Bz 1 Z Z Z Z Z Z Z) (AB Z Z (AB Z Z ?_)))));refine AB Z Z (AD (AC (AE (J (BM Z Z BW Z Z Z) (J (B2 (hab) Z Z) (goMv Z Z (J (DD Z Z Z) (J (DD Z Z Z) ?_))))))));refine AB Z Z (AB Z Z (AD (AC (AC (AE (goMv Z Z (J (D6 Z Z Z) (AD ?_))))))));refine DP Z ((ωi h0)) (AC (AE (goMv Z Z (AB Z Z (AB Z Z (AB Z Z (AD (A8 ?_))))))));exact ⟨_,[],[],A6 Z,Z,Z,Z,Z⟩
structure Bkd where
 i:Int
 m:Int
 r:AP
 deriving DecidableEq
abbrev OK:AP:=⟨0,TZ,[],[]⟩
abbrev OT (x:Bkd):D:= .agg [AF x.i,AF x.m,AF x.r.k,Ao x.r.acc.o,AF x.r.acc.k,Ao x.r.acc.a,Ao x.r.f,Ao x.r.t]
def prefN (i:Int) (q:List Int):Nat:=(max (ixI i q) 0).toNat
def Cb (i:Int) (q:List Int):List Int:=q.take (prefN i q)
def XM (i:Int) (af:List Int):List Bkd:=(Cm af).map fun x=>⟨i,x,OK⟩
def E4 (i:Int) (x:Lin):List Bkd:=(Cb i x.q).map fun y=>⟨i,y,x.r⟩
def Ny (p:Prb) (i:Int):List Bkd:=XM i (Bm p i).af++(linL p).flatMap (E4 i)
def Ea (inM:Int ->Bool) (l:List Bkd):List Bkd:=l.filter fun b=>!inM b.m
def inM (M:List (Int×Bool)) (x:Int):Bool:=A7 M x false
theorem Zg (i:Int) (q:List Int):prefN i q≤q.length:=by
 unfold prefN ixI
 split
 ·rename_i h
  have:=List.idxOf_lt_length_iff.2 h;omega
 ·omega
theorem Zh (i:Int) (q:List Int):max (ixI i q) 0=(prefN i q:Int):=by unfold prefN;omega
theorem TR (f:Int ->Bool) (l m:List Bkd):Ea f (l++m)=Ea f l++Ea f m:=ψa _ _
theorem FL (f:Int ->Bool) (l:List Bkd):(Ea f l).length≤l.length:=ωh _ _
theorem I3 {f:Int ->Bool} {l:List Bkd} {k:Nat} (hk:k<l.length):Ea f (l.take (k+1))=Ea f (l.take k)++(if !f l[k].m then [l[k]] else []):=GN hk
theorem GO {α β:Type} {f:α ->List β} {l:List α} {k:Nat} (hk:k<l.length):(l.take (k+1)).flatMap f=(l.take k).flatMap f++f l[k]:=by
 rw [φ hk,List.flatMap_append];simp
theorem Jk {α β:Type} {f:α ->List β} {n:Nat}:∀{l:List α},(∀x∈l,(f x).length≤n) ->(l.flatMap f).length≤l.length*n
 | [],_=>by simp
 | a::l,h=>by
  have h1:=h a (by simp);have h2:=Jk (l:=l) (fun x hx=>h x (by simp [hx]));rw [List.flatMap_cons,Δ,ψo,φf];omega
theorem ah {p:Prb} (x:Lin) (hx:x∈linL p):x.q.length≤p.it.length:=by
 unfold linL at hx;obtain ⟨y,_,rfl⟩:=ϱ.1 hx;show (JX (ordP p) y.r).length≤_;unfold JX;rw [ψ];exact ωe (ωh _ _) (DZ p)
theorem R9 {p:Prb} (i:Int) (x:Lin) (hx:x∈linL p):(E4 i x).length≤p.it.length:=by
 unfold E4 Cb;rw [ψ,Υ];have:=ah x hx;omega
abbrev mapV (mv:Nat):AV:= .d (.raw (.map (some mv)))
abbrev HM2 (p:Prb) (mv:Nat) (bs:Option (List Nat×Nat)) (M:List (Int×Bool)):Hp:=HA p++ [(12,[.map bs (BO AF Ai M)]),(13,[.addr 12 0 (.map (some mv))])]
theorem Up (p:Prb) (mv:Nat) (bs:Option (List Nat×Nat)) (M:List (Int×Bool)) (i:Int) (hb:EW p) (h1:p.it.length≤1000) (h2:p.ro.length≤1000):AM Tryz.prog 127 [.ptr 10 0 0,mapV mv,.d (AF i)] (HM2 p mv bs M) fun r H'=>r= .d (.sl none ((Ea (inM M) (Ny p i)).map OT))∧H'=HM2 p mv bs M:=by
 have hI:=PP p i;have hIb:=QE hb i;have hLl:=Hg p;have hcl:=(cH (Bm p i).af (by omega)).by [(20,21)] rfl;have hRl:∀x∈linL p,(E4 i x).length≤1000:=fun x hx=>ωe (R9 i x hx) h1;have hsl:=Ef (Bm p i).af
 obtain ⟨S,hS⟩:∃S,Cm (Bm p i).af=S:=⟨_,Z⟩
 have hreq:Ny p i=(S.map fun x=>(⟨i,x,OK⟩:Bkd))++(linL p).flatMap (E4 i):=by unfold Ny XM;rw [hS]
 rw [hreq];rw [hS] at hsl;refine BB Tryz.func127 Z Z Tryz.ntmps127 Z Z Z fun F hF=>(AC ?_);refine AE (AB Z Z (AD (AC (AE (AB Z Z (AD (AC (OD 7 900 M8 Z Z Z Z ?_))))))));refine AE (goMv Z Z (J (KL Z Z) (J (A4 Z Jo Z Z Z) (J (A9 Z Z Z Rn Z) (goMv Z Z (J (RM (CQ p.it) i A0 (Bm p i) Z Z Z SB HP za55 Ge hI Z) (J (Ty Z FH Z Z) (V (E1 hcl Z [21] ⟨Z,trivial⟩ Z Z Z Z Z Z Z Z Z) ?_))))))));refine AB Z Z (AD (AC (AE (goMv Z Z (V (RG laysS (Bm p i).af (by omega) Z Z Z Z Z Z Z) (AD (AC (AC ?_))))))));rw [hS];refine L4 (emb:=AF) 8 21 S Z Z Z hsl.symm Z Z Z (AE (goMv Z Z (J (CO Z Tryz.underlying28 Z) (goMv Z Z (AD (A5 (B7 (α:=Nat×List Bkd) (fun q=>⟨81,[(0,.ptr 10 0 0),(1,mapV mv),(2,.d (AF i)),(7,(.own 900 0 q.2.length)),(26,(.d (.sl none (S.map AF)))),(27,(.d (AF (S.length:Int)))),(28,(.d (AF (q.1:Int))))],HM2 p mv bs M++ [(900,[.rowD 144 8 (q.2.map OT)])]⟩) (fun q=>q.1≤S.length∧q.2=Ea (inM M) ((S.map fun x=>(⟨i,x,OK⟩:Bkd)).take q.1)) (fun q=>S.length - q.1) ((0,[])) (⟨ς _,Z⟩) (A1 hF [10,11,12,13,900] Z Z ⟨Z,Z,Z,Z,Z,Z,Z,trivial⟩) ?_)))))));rintro ⟨k,acc⟩ ⟨hk0,hA⟩;dsimp only at hk0 hA⊢;refine AC (AE (J (BR Z Z Z) (AD (AC (Ae Z (fun h29=>?_) (fun h29=>?_))))))
 ·have hk1:k<S.length:=Bf h29;refine A3 (AC (A5 (AC (AE (J (Be (k) Z Z (Z) (Ah hk1) Tryz.underlying28 Z BE Z) (J (Cr Z Z Aq Z) (AB Z Z (AD ?_))))))));refine AC (AE (goMv Z Z (D1 32 13 0 Z Z (goMv Z Z (J (HQ M S[k] false (inM M S[k]) Z Z Z If HP Td Z Z) (J (OC Z Z) (AD (KN Z (fun h35=>?_) (fun h35=>?_)))))))))
  ·refine AE ?_;have hal:acc.length≤100000:=by rw [hA];refine ωe (FL _ _) ?_;rw [Υ,ψ];omega
   refine goMv Z Z (goMv Z Z (goMv Z Z ?_));refine J (FZ Y6 pl144 Z Z Z) (V (D7 1 M8 Z Z Z Z Z Z Z Z) (V (Hz (acc) ([⟨i,S[k],OK⟩]) Z Z Z Z Z Z Z Z M8 (by simp only [Φ];omega) Z Z Z Z) (AB Z Z (AD (AE (J (BA Z Z (AT (k+1) (by omega)) Z) (goMv Z Z (AD ?_))))))));exact ⟨(k+1,acc++ [⟨i,S[k],OK⟩]),⟨by show k+1≤_;omega,by show acc++ [⟨i,S[k],OK⟩]=Ea (inM M) ((S.map fun x=>(⟨i,x,OK⟩:Bkd)).take (k+1));rw [I3 (by simpa using hk1),ωd,θ (by show (!inM M S[k])=true;simpa using h35),hA]⟩,by show S.length - (k+1)<S.length - k;omega,A1 hF [10,11,12,13,900] Z (Z) ⟨Z,Z,Z,Z,Z,Z,Z,trivial⟩⟩
  ·refine A3 (AE (J (BA Z Z (AT (k+1) (by omega)) Z) (goMv Z Z (AD ?_))));exact ⟨(k+1,acc),⟨by show k+1≤_;omega,by show acc=Ea (inM M) ((S.map fun x=>(⟨i,x,OK⟩:Bkd)).take (k+1));rw [I3 (by simpa using hk1),ωd,ϑ (by show ¬(!inM M S[k])=true;simpa using h35),ωk,hA]⟩,by show S.length - (k+1)<S.length - k;omega,A1 hF [10,11,12,13,900] Z (Z) ⟨Z,Z,Z,Z,Z,Z,Z,trivial⟩⟩
 ·refine BF (AC (AC ?_));have hA1:acc=Ea (inM M) (S.map fun x=>(⟨i,x,OK⟩:Bkd)):=by rw [hA,Θ (by rw [ψ];have h:=h29;omega)]
  have hal1:acc.length≤100000:=by rw [hA1];refine ωe (FL _ _) ?_;rw [ψ];omega
  refine AE ?_;refine goMv Z Z (J (KL Z Z) (J (A4 Z Jn Z Z Z) (J (A9 Z Z Z Vf Z) (J (CO Z Tryz.underlying227 Z) (goMv Z Z (AD (A5 (B7 (α:=Nat×List Bkd) (fun q=>⟨81,[(0,.ptr 10 0 0),(1,mapV mv),(2,.d (AF i)),(7,(.own 900 0 q.2.length)),(46,(.d (.sl none ((linL p).map Mz)))),(47,(.d (AF ((linL p).length:Int)))),(48,(.d (AF (q.1:Int))))],HM2 p mv bs M++ [(900,[.rowD 144 8 (q.2.map OT)])]⟩) (fun q=>q.1≤(linL p).length∧q.2=acc++Ea (inM M) (((linL p).take q.1).flatMap (E4 i))) (fun q=>(linL p).length - q.1) ((0,acc)) (⟨ς _,by simp [Ea]⟩) (A1 hF [10,11,12,13,900] Z Z ⟨Z,Z,Z,Z,Z,Z,Z,trivial⟩) ?_))))))));rintro ⟨m,acc2⟩ ⟨hm0,hB⟩;dsimp only at hm0 hB⊢;refine AC (AE (J (BR Z Z Z) (AD (AC (Ae Z (fun h49=>?_) (fun h49=>?_))))))
  ·have hm1:m<(linL p).length:=Bf h49;refine A3 (AC (A5 (AC (AE ?_))));have hql:=ah _ (κ hm1);have hfl:=Jk (f:=E4 i) (n:=1000) (l:=(linL p).take m) (fun x hx=>hRl x (ωy hx));have hbl:acc2.length≤1200000:=by rw [hB,Δ];have:=FL (inM M) (((linL p).take m).flatMap (E4 i));rw [Υ] at hfl;have h3:min m (linL p).length*1000≤1000*1000:=ψc _ (by omega);omega
   refine J (Be (m) Z Z (Z) (Ah hm1) Tryz.underlying227 Z VR Z) (J (HE Z Z rw233 Z) (V (CF 2 Y3 Z Z Z Z) (V (Bi Z Z Z Z Z Z Z VR) (AD (AC (AE ?_))))));refine J (A4 Z WO Z Z Z) (J (A9 Z Z Z BH Z) (goMv Z Z (J (B2 (WK (linL p)[m].q i (by omega)) Z Z) (AB Z Z (AD (AC (AE (J (A4 Z WO Z Z Z) ?_))))))));refine J (A9 Z Z Z BH Z) (goMv Z Z (J (Pi Z Z (maxI _) Z) (J (LL ((linL p)[m].q) (prefN i (linL p)[m].q) Z Z Z (Zh _ _) (Zg _ _) Tryz.underlying28 BE (fun _=>rfl) Z) (J (CO Z Tryz.underlying28 Z) (goMv Z Z (AD (A5 (B7 (α:=Nat×List Bkd) (fun q=>⟨81,[(0,.ptr 10 0 0),(1,mapV mv),(2,.d (AF i)),(7,(.own 900 0 q.2.length)),(12,(.ptr 2 0 0)),(46,(.d (.sl none ((linL p).map Mz)))),(47,(.d (AF ((linL p).length:Int)))),(48,(.d (AF (m:Int)))),(60,(.d (.sl none ((Cb i (linL p)[m].q).map AF)))),(61,(.d (AF ((Cb i (linL p)[m].q).length:Int)))),(62,(.d (AF (q.1:Int))))],HM2 p mv bs M++ [(900,[.rowD 144 8 (q.2.map OT)]),(2,[.blk 233 [.d (AF (linL p)[m].r.k),.d (Ao (linL p)[m].r.acc.o),.d (AF (linL p)[m].r.acc.k),.d (Ao (linL p)[m].r.acc.a),.d (Ao (linL p)[m].r.f),.d (Ao (linL p)[m].r.t),.d (AF (linL p)[m].n),.d (.sl none ((linL p)[m].q.map AF))]])]⟩) (fun q=>q.1≤(Cb i (linL p)[m].q).length∧q.2=acc2++Ea (inM M) ((E4 i (linL p)[m]).take q.1)) (fun q=>(Cb i (linL p)[m].q).length - q.1) ((0,acc2)) (⟨ς _,by simp [Ea]⟩) (A1 hF [10,11,12,13,900,2] Z Z ⟨Z,Z,Z,Z,Z,Z,Z,Z,Z,Z,Z,trivial⟩) ?_))))))));rintro ⟨j,acc3⟩ ⟨hj0,hC⟩;dsimp only at hj0 hC⊢;refine AC (AE (J (BR Z Z Z) (AD (AC (Ae Z (fun h63=>?_) (fun h63=>?_))))))
   ·have hj1:j<(Cb i (linL p)[m].q).length:=Bf h63;refine A3 (AC (A5 (AC (AE (J (Be (j) Z Z (Z) (Ah hj1) Tryz.underlying28 Z BE Z) (J (Cr Z Z Aq Z) (AB Z Z (AD ?_))))))));refine AC (AE (goMv Z Z (D1 66 13 0 Z Z (goMv Z Z (J (HQ M (Cb i (linL p)[m].q)[j] false (inM M (Cb i (linL p)[m].q)[j]) Z Z Z If HP Td Z Z) (J (OC Z Z) (AD (KN Z (fun h69=>?_) (fun h69=>?_)))))))))
    ·refine AE ?_;have hcl3:acc3.length≤1300000:=by rw [hC,Δ];have h3:=FL (inM M) ((E4 i (linL p)[m]).take j);have h4:=hRl _ (κ hm1);rw [Υ] at h3;omega
     refine goMv Z Z (goMv Z Z (goMv Z Z (J (A4 Z Jm Z Z Z) (J (BM Z Z C7 Z Z Z) ?_))));refine J (FZ Y6 pl144 Z Z Z) (V (D7 3 M8 Z Z Z Z Z Z Z Z) (V (Hz (acc3) ([⟨i,(Cb i (linL p)[m].q)[j],(linL p)[m].r⟩]) Z Z Z Z Z Z Z Z M8 (by simp only [Φ];omega) Z Z Z Z) (AB Z Z (AD (AE (J (BA Z Z (AT (j+1) (by have h5:(Cb i (linL p)[m].q).length≤1000:=by {unfold Cb;rw [Υ];omega};omega)) Z) (goMv Z Z (AD ?_))))))));exact ⟨(j+1,acc3++ [⟨i,(Cb i (linL p)[m].q)[j],(linL p)[m].r⟩]),⟨by show j+1≤_;omega,by show acc3++ [⟨i,(Cb i (linL p)[m].q)[j],(linL p)[m].r⟩]=acc2++Ea (inM M) ((E4 i (linL p)[m]).take (j+1));rw [I3 (by unfold E4;simpa using hj1),hC,ψl];congr 2;unfold E4;rw [ωd,θ (by show (!inM M (Cb i (linL p)[m].q)[j])=true;simpa using h69)]⟩,by show (Cb i (linL p)[m].q).length - (j+1)<(Cb i (linL p)[m].q).length - j;omega,A1 hF [10,11,12,13,900,2] Z (Z) ⟨Z,Z,Z,Z,Z,Z,Z,Z,Z,Z,Z,trivial⟩⟩
    ·refine A3 (AE (J (BA Z Z (AT (j+1) (by have h5:(Cb i (linL p)[m].q).length≤1000:=by {unfold Cb;rw [Υ];omega};omega)) Z) (goMv Z Z (AD ?_))));exact ⟨(j+1,acc3),⟨by show j+1≤_;omega,by show acc3=acc2++Ea (inM M) ((E4 i (linL p)[m]).take (j+1));rw [I3 (by unfold E4;simpa using hj1),hC];unfold E4;rw [ωd,ϑ (by show ¬(!inM M (Cb i (linL p)[m].q)[j])=true;simpa using h69),ωk]⟩,by show (Cb i (linL p)[m].q).length - (j+1)<(Cb i (linL p)[m].q).length - j;omega,A1 hF [10,11,12,13,900,2] Z (Z) ⟨Z,Z,Z,Z,Z,Z,Z,Z,Z,Z,Z,trivial⟩⟩
   ·have hfin:acc3=acc2++Ea (inM M) (E4 i (linL p)[m]):=by rw [hC,Θ (by unfold E4;rw [ψ];have h:=h63;omega)]
    refine BF (AE (J (BA Z Z (AT (m+1) (by omega)) Z) (goMv Z Z (AD ?_))));exact ⟨(m+1,acc3),⟨by show m+1≤_;omega,by show acc3=acc++Ea (inM M) (((linL p).take (m+1)).flatMap (E4 i));rw [GO hm1,TR,←ψl,←hB];exact hfin⟩,by show (linL p).length - (m+1)<(linL p).length - m;omega,A1 hF [10,11,12,13,900] Z (Z) ⟨Z,Z,Z,Z,Z,Z,Z,trivial⟩⟩
  ·refine BF (AC ?_);have hfa:acc2=Ea (inM M) ((S.map fun x=>(⟨i,x,OK⟩:Bkd))++(linL p).flatMap (E4 i)):=by rw [hB,hA1,Θ (by have h:=h49;omega),TR]
   refine L4 (emb:=OT) 7 900 acc2 Z Z Z Z Z Z Z (AE (goMv Z Z (AB Z Z (AD (A8 ?_)))));exact ⟨_,[10,11,12,13],_,A6 Z,Z,Z,by rw [hfa],Z⟩
def JH (p:Prb) (f:Int ->Bool) (i:Int):List Bkd:=if f i then Ea f (Ny p i) else []
def blks (p:Prb) (f:Int ->Bool):List Bkd:=(HK p).flatMap (JH p f)
theorem Pt {p:Prb} (hb:EW p) (h1:p.it.length≤1000) (h2:p.ro.length≤1000) (i:Int):(Ny p i).length≤1100000:=by
 unfold Ny XM;rw [Δ,ψ,Ef];have h3:=QE hb i;have h4:=Jk (f:=E4 i) (n:=1000) (l:=linL p) (fun x hx=>ωe (R9 i x hx) h1);have h5:=Hg p;have h6:(linL p).length*1000≤1000*1000:=ψc _ (by omega);omega
theorem TT {p:Prb} (hb:EW p) (h1:p.it.length≤1000) (h2:p.ro.length≤1000) (f:Int ->Bool) (i:Int):(JH p f i).length≤1100000:=by
 unfold JH;split
 ·exact ωe (FL _ _) (Pt hb h1 h2 i)
 ·simp
theorem le_step {a k N:Nat} (h:a≤k*N):a≤(k+1)*N:=ωe h (ψc _ (Nat.le_succ _))
theorem am {α:Type} {a b:List α} {k N:Nat} (h:a.length≤k*N) (h2:b.length≤N):(a++b).length≤(k+1)*N:=by rw [Δ,φf,Nat.one_mul];exact Nat.add_le_add h h2
theorem cO (p:Prb) (mv:Nat) (bs:Option (List Nat×Nat)) (M:List (Int×Bool)) (hb:EW p) (h1:p.it.length≤1000) (h2:p.ro.length≤1000):AM Tryz.prog 72 [.ptr 10 0 0,mapV mv] (HM2 p mv bs M) fun r H'=>r= .d (.sl none ((blks p (inM M)).map OT))∧H'=HM2 p mv bs M:=by
 have hbl:∀i,(JH p (inM M) i).length≤1100000:=TT hb h1 h2 _;have hor:(HK p).length≤1000:=by unfold HK;rw [ψ];exact ωe (DZ p) h1
 have hbs:blks p (inM M)=(HK p).flatMap (JH p (inM M)):=rfl;rw [hbs];refine BB Tryz.func72 Z Z Tryz.ntmps72 Z Z Z fun F hF=>(AC (AE (AB Z Z ?_)));refine AD (AC (AE (AB Z Z (AD (AC (AC (OD 5 900 M8 Z Z Z Z (AE ?_))))))));refine goMv Z Z (J (KL Z Z) (J (A4 Z fi229_1 Z Z Z) (J (A9 Z Z Z BH Z) (J (CO Z Tryz.underlying28 Z) (goMv Z Z (AD (A5 (B7 (α:=Nat×List Bkd) (fun q=>⟨28,[(0,.ptr 10 0 0),(1,mapV mv),(5,(.own 900 0 q.2.length)),(11,(.d (.sl none ((HK p).map AF)))),(12,(.d (AF ((HK p).length:Int)))),(13,(.d (AF (q.1:Int))))],HM2 p mv bs M++ [(900,[.rowD 144 8 (q.2.map OT)])]⟩) (fun q=>q.1≤(HK p).length∧q.2=((HK p).take q.1).flatMap (JH p (inM M))∧q.2.length≤q.1*1100000) (fun q=>(HK p).length - q.1) ((0,[])) (⟨ς _,Z,ν _⟩) (A1 hF [10,11,12,13,900] Z Z ⟨Z,Z,Z,Z,Z,Z,trivial⟩) ?_))))))));rintro ⟨k,acc⟩ ⟨hk0,hA,hL⟩;dsimp only at hk0 hA hL⊢;refine AC (AE (J (BR Z Z Z) (AD (AC (Ae Z (fun h14=>?_) (fun h14=>?_))))))
 ·have hk1:k<(HK p).length:=Bf h14;refine A3 (AC (A5 (AC (AE (J (Be (k) Z Z (Z) (Ah hk1) Tryz.underlying28 Z BE Z) (J (Cr Z Z Aq Z) (AB Z Z ?_)))))));refine AD (AC (AE (goMv Z Z (D1 17 13 0 Z Z (goMv Z Z (J (HQ M (HK p)[k] false (inM M (HK p)[k]) Z Z Z If HP Td Z Z) (AD (KN Z (fun h19=>?_) (fun h19=>?_)))))))))
  ·refine AE (goMv Z Z (goMv Z Z (goMv Z Z (goMv Z Z (V (E1 (Up p mv bs M (HK p)[k] hb h1 h2) Z [10,11,12,13] ⟨Z,Z,Z,Z,trivial⟩ Z Z Z Z Z Z Z Z Z) ?_)))));have hrl:=ωe (FL (inM M) _) (Pt hb h1 h2 (HK p)[k]);refine V (Ev (acc) (Ea (inM M) (Ny p (HK p)[k])) Z Z Z Z Z Z (fun _=>rfl) M8 (by omega) Z Z Z Z) (AB Z Z (AD (AE (J (BA Z Z (AT (k+1) (by have h:=hor;omega)) Z) (goMv Z Z (AD ?_))))));exact ⟨(k+1,acc++Ea (inM M) (Ny p (HK p)[k])),⟨by show k+1≤_;omega,by show acc++Ea (inM M) (Ny p (HK p)[k])=((HK p).take (k+1)).flatMap (JH p (inM M));rw [GO hk1,←hA];unfold JH;rw [θ (by simpa using h19)],am hL (ωe (FL (inM M) _) (Pt hb h1 h2 (HK p)[k]))⟩,by show (HK p).length - (k+1)<(HK p).length - k;omega,A1 hF [10,11,12,13,900] Z (Z) ⟨Z,Z,Z,Z,Z,Z,trivial⟩⟩
  ·refine A3 (AE (J (BA Z Z (AT (k+1) (by have h:=hor;omega)) Z) (goMv Z Z (AD ?_))));exact ⟨(k+1,acc),⟨by show k+1≤_;omega,by show acc=((HK p).take (k+1)).flatMap (JH p (inM M));rw [GO hk1,←hA];unfold JH;rw [ϑ (by simpa using h19),ωk],le_step hL⟩,by show (HK p).length - (k+1)<(HK p).length - k;omega,A1 hF [10,11,12,13,900] Z (Z) ⟨Z,Z,Z,Z,Z,Z,trivial⟩⟩
 ·refine BF (AC ?_);have hfa:acc=(HK p).flatMap (JH p (inM M)):=by rw [hA,Θ (by have h:=h14;omega)]
  refine L4 (emb:=OT) 5 900 acc Z Z Z Z Z Z Z (AE (goMv Z Z (AB Z Z (AD (A8 ?_)))));exact ⟨_,[10,11,12,13],_,A6 Z,Z,Z,by rw [hfa],Z⟩
def fSq (p:Prb) (r:AP) (l:List (Int×Bool)):Int:=(l.map fun e=>if e.2=true then Cg (Bm p e.1) r else 0).sum
theorem KS {p:Prb} {r:AP} {l m:List (Int×Bool)} (h:l.Perm m):fSq p r l=fSq p r m:=Zr h _
theorem Wl (p:Prb) (r:AP) (e:Int×Bool) (l:List (Int×Bool)):fSq p r (e::l)=(if e.2=true then Cg (Bm p e.1) r else 0)+fSq p r l:=by simp [fSq]
theorem MS (p:Prb) (r:AP) (k:Int) (v:Bool) (l:List (Int×Bool)):fSq p r ((k,v)::l)=(if v=true then Cg (Bm p k) r else 0)+fSq p r l:=Wl p r (k,v) l
theorem TM {p:Prb} {l:List Int} (h:D5 p l=0):Al p=0:=by
 unfold D5 at h;split at h
 ·exact h
 ·rename_i hn;simpa using hn
theorem bt (i:AK) (r:AP): -1000000000000000≤Cg i r∧Cg i r≤1000000000000000:=by
 unfold Cg
 split
 ·rename_i h;simpa [Mx] using ML h.1 r
 ·omega
theorem To (p:Prb) (r:AP) {l:List (Int×Bool)} (h:l.length≤1000): -1000000000000000000≤fSq p r l∧fSq p r l≤1000000000000000000:=by
 have:=O6 (l:=l) (f:=fun e=>if e.2=true then Cg (Bm p e.1) r else 0) (B:=1000000000000000) (fun e _=>by
  show _≤(if e.2=true then _ else _)∧_;have:=bt (Bm p e.1) r
  split<;>omega) 1000 h (by omega)
 unfold fSq;omega
def Pe (p:Prb) (M:List (Int×Bool)) (x:Lin):List A2:=if x.n+fSq p x.r M<0 then [⟨x.r,0 - (x.n+fSq p x.r M)⟩] else []
def L7 (p:Prb) (M:List (Int×Bool)):List A2:=(linL p).flatMap (Pe p M)
theorem ai {p:Prb} (hp:Al p=0) (x:Lin) (hx:x∈linL p):0≤x.n∧x.n≤4000000000000000:=by
 unfold linL at hx;obtain ⟨y,hy,rfl⟩:=ϱ.1 hx;have:=K3 (C3 hp).1 y ((Km p.ro).mem_iff.1 hy);show 0≤max y.n 0∧max y.n 0≤_;omega
abbrev HM3 (p:Prb) (mv:Nat) (M:List (Int×Bool)):Hp:=HA p++ [(12,[BL AF Ai M]),(13,[.addr 12 0 (.map (some mv))])]
theorem Pd (p:Prb) (mv:Nat) (M:List (Int×Bool)) (hp:Al p=0) (hb:EW p) (hM:M.length≤1000):AM Tryz.prog 74 [.ptr 10 0 0,mapV mv] (HM3 p mv M) fun r H'=>r= .d (.sl none ((L7 p M).map Cy))∧H'=HM3 p mv M:=by
 have hb1:=hb.1;have hLl:=Hg p;refine BB Tryz.func74 Z Z Tryz.ntmps74 Z Z Z fun F hF=>(AC (AE (AB Z Z ?_)));refine AD (AC (AE (AB Z Z (AD (AC (AC (OD 5 900 sl69 Z Z Z Z (AE ?_))))))));refine goMv Z Z (J (KL Z Z) (J (A4 Z Jn Z Z Z) (J (A9 Z Z Z Vf Z) (J (CO Z Tryz.underlying227 Z) (goMv Z Z (AD (A5 (B7 (α:=Nat×List A2) (fun q=>⟨53,[(0,.ptr 10 0 0),(1,mapV mv),(5,(.own 900 0 q.2.length)),(14,(.d (.sl none ((linL p).map Mz)))),(15,(.d (AF ((linL p).length:Int)))),(16,(.d (AF (q.1:Int))))],HM3 p mv M++ [(900,[.rowD 73 7 (q.2.map Cy)])]⟩) (fun q=>q.1≤(linL p).length∧q.2=((linL p).take q.1).flatMap (Pe p M)∧q.2.length≤q.1) (fun q=>(linL p).length - q.1) ((0,[])) (⟨ς _,Z,ν _⟩) (A1 hF [10,11,12,13,900] Z Z ⟨Z,Z,Z,Z,Z,Z,trivial⟩) ?_))))))));rintro ⟨k,acc⟩ ⟨hk0,hA,hL⟩;dsimp only at hk0 hA hL⊢;refine AC (AE (J (BR Z Z Z) (AD (AC (Ae Z (fun h17=>?_) (fun h17=>?_))))))
 ·have hk1:k<(linL p).length:=Bf h17;refine A3 (AC (A5 (AC (AE ?_))));have hxn:=ai hp _ (κ hk1);refine J (Be (k) Z Z (Z) (Ah hk1) Tryz.underlying227 Z VR Z) (J (HE Z Z rw233 Z) ?_);refine V (CF 1 Y3 Z Z Z Z) (V (Bi Z Z Z Z Z Z Z VR) (AD (AC (AE (J (A4 Z fi233_1 Z Z Z) (J (A9 Z Z Z Ke Z) (AB Z Z (AD ?_))))))));refine AC (AC (AE (goMv Z Z (D1 22 13 0 Z Z (V (Fy 2 Z Z Z If Z Z Z Z) (AD (A5 (B7 (α:=List Nat×Int) (fun q=>⟨53,[(0,.ptr 10 0 0),(1,mapV mv),(5,(.own 900 0 acc.length)),(7,(.ptr 1 0 0)),(8,(.d (AF q.2))),(14,(.d (.sl none ((linL p).map Mz)))),(15,(.d (AF ((linL p).length:Int)))),(16,(.d (AF (k:Int)))),(23,(.ptr 2 0 0))],HM3 p mv M++ [(900,[.rowD 73 7 (acc.map Cy)]),(1,[.blk 233 [.d (AF (linL p)[k].r.k),.d (Ao (linL p)[k].r.acc.o),.d (AF (linL p)[k].r.acc.k),.d (Ao (linL p)[k].r.acc.a),.d (Ao (linL p)[k].r.f),.d (Ao (linL p)[k].r.t),.d (AF (linL p)[k].n),.d (.sl none ((linL p)[k].q.map AF))]]),(2,[.iter 12 0 M.length q.1])]⟩) (fun q=>q.2+fSq p (linL p)[k].r (Bt M (List.range M.length) q.1)=(linL p)[k].n+fSq p (linL p)[k].r M) (fun q=>(Bt M (List.range M.length) q.1).length) (([],(linL p)[k].n)) (by show (linL p)[k].n+fSq p (linL p)[k].r (Bt M (List.range M.length) [])=_;rw [DK (by simp)]) (A1 hF [10,11,12,13,900,1,2] Z Z ⟨Z,Z,Z,Z,Z,Z,Z,Z,Z,trivial⟩) ?_))))))));rintro ⟨seen,left⟩ hI;dsimp only at hI⊢;refine AC (AE (Kf (M) Z Z Z Z (fun hl24=>?_) (fun j24 b24 k24 v24 hm24 hb24 hB24 hp24=>⟨_,Z,?_⟩)))
  ·have hfin:left=(linL p)[k].n+fSq p (linL p)[k].r M:=by have h1:=hI;rw [hl24] at h1;have h2:fSq p (linL p)[k].r []=0:=rfl;omega
   refine J (Ct Z Z Z) (AD ?_);refine AC (D9 Z Z (BF (AC (AE (goMv Z Z (J (BR Z Z Z) (AD (Ae Z (fun h42=>?_) (fun h42=>?_)))))))))
   ·refine AE ?_;have hv4:=To p (linL p)[k].r hM;refine goMv Z Z (J (A4 Z Jm Z Z Z) (J (BM Z Z C7 Z Z Z) (goMv Z Z (J (ZF Z (Ω _ (by omega)) Z) ?_))));refine J (FZ zl73 pl73 Z Z Z) (V (D7 3 sl69 Z Z Z Z Z Z Z Z) (V (Hz (acc) ([⟨(linL p)[k].r,0 - left⟩]) Z Z Z Z Z Z Z Z sl69 (by simp only [Φ];omega) Z Z Z Z) (AB Z Z (AD (AE (J (BA Z Z (AT (k+1) (by omega)) Z) (goMv Z Z (AD ?_))))))));exact ⟨(k+1,acc++ [⟨(linL p)[k].r,0 - left⟩]),⟨by show k+1≤_;omega,by show acc++ [⟨(linL p)[k].r,0 - left⟩]=((linL p).take (k+1)).flatMap (Pe p M);rw [GO hk1,←hA];unfold Pe;rw [←hfin,θ (by simpa using h42)],by show (acc++ [_]).length≤k+1;rw [Δ];simp;omega⟩,by show (linL p).length - (k+1)<(linL p).length - k;omega,A1 hF [10,11,12,13,900] Z (Z) ⟨Z,Z,Z,Z,Z,Z,trivial⟩⟩
   ·refine A3 (AE (J (BA Z Z (AT (k+1) (by omega)) Z) (goMv Z Z (AD ?_))));exact ⟨(k+1,acc),⟨by show k+1≤_;omega,by show acc=((linL p).take (k+1)).flatMap (Pe p M);rw [GO hk1,←hA];unfold Pe;rw [←hfin,ϑ (by simpa using h42),ωk],by show acc.length≤k+1;omega⟩,by show (linL p).length - (k+1)<(linL p).length - k;omega,A1 hF [10,11,12,13,900] Z (Z) ⟨Z,Z,Z,Z,Z,Z,trivial⟩⟩
  ·refine J (Ct Z Z Z) ?_;refine AD (AC (DP Z Z (A3 (A5 (AC (AE (J (Fz (M) j24 b24 Z Z Z hm24 hb24 Z) (J (Ct Z Z Z) ?_))))))));refine J (Ct Z Z Z) (AB Z Z (AB Z Z (AD (AC (AE (goMv Z Z (AD (KN Z (fun h29=>?_) (fun h29=>?_)))))))))
   ·refine Ch [[],[],[1],[1,2],[1,2,3],[],[1,2,3,4,5],[],[7],[1,2,3,4,5,6,7,8],[0,1,2,3,4,5,6,7,8,9],[0,1,2,3,4,5,6,7,8,9,10]] mixed Z (Cq ?_);have hb3:=QE hb k24;have hv1:=To p (linL p)[k].r hM;have hv2:=To p (linL p)[k].r (ωe (WG (m:=M) (B:=List.range M.length) (seen:=seen)) hM);have hv3:=bt (Bm p k24) (linL p)[k].r;refine AJ [8] [] Z Z (fun _=>AG (Ak Z Z)) (AJ [0] [] Z Z (fun _=>AG (Ak Z Z)) (AJ [31] [] Z Z (fun _=>AG (KL Z Z)) (AJ [32] [] Z Z (fun _=>AG (A4 Z Jo Z Z Z)) (Av [33] Z Z (fun _=>AG (A9 Z Z Z Rn Z)) ?_))));refine AJ [9] [] Z Z (fun _=>AG (Ak Z Z)) (Av [34,35] Z Z (fun _=>AG (RM (CQ p.it) k24 A0 (Bm p k24) Z Z Z SB HP za55 Ge (PP p k24) Z)) (AJ [7] [] Z Z (fun _=>AG (A4 Z Jm Z Z Z)) (Av [37] Z Z (fun _=>AG (BM Z Z C7 Z Z Z)) (AJ [36,38] [] Z Z (fun _=>AG (B2 (WX (Bm p k24) (linL p)[k].r (by omega) (by omega) (by omega)) Z Z)) (C5 10 Z Z Z (Af 11 Z Z (J (BA Z Z (Ω _ (by omega)) Z) (AD ⟨Z,?_⟩))))))));refine Af 12 Z Z (AB Z Z (AD ⟨Z,?_⟩));refine C9 ?_;exact ⟨(seen++ [b24],left+Cg (Bm p k24) (linL p)[k].r),(by show left+Cg (Bm p k24) (linL p)[k].r+fSq p (linL p)[k].r (Bt M (List.range M.length) (seen++ [b24]))=_;rw [←hI,KS hp24,MS,θ (by simpa using h29)];omega),by show (Bt M (List.range M.length) (seen++ [b24])).length<(Bt M (List.range M.length) seen).length;rw [hp24.length_eq];exact χk _,A1 hF [10,11,12,13,900,1,2] Z (Z) ⟨Z,Z,Z,Z,Z,Z,Z,Z,Z,trivial⟩⟩
   ·refine A3 ?_;exact ⟨(seen++ [b24],left),(by show left+fSq p (linL p)[k].r (Bt M (List.range M.length) (seen++ [b24]))=_;rw [←hI,KS hp24,MS,ϑ (by simpa using h29)];omega),by show (Bt M (List.range M.length) (seen++ [b24])).length<(Bt M (List.range M.length) seen).length;rw [hp24.length_eq];exact χk _,A1 hF [10,11,12,13,900,1,2] Z (Z) ⟨Z,Z,Z,Z,Z,Z,Z,Z,Z,trivial⟩⟩
 ·refine BF (AC ?_);have hfa:acc=L7 p M:=by rw [hA,Θ (by have h:=h17;omega)];rfl
  refine L4 (emb:=Cy) 5 900 acc Z Z Z Z Z Z Z (AE (goMv Z Z (AB Z Z (AD (A8 ?_)))));exact ⟨_,[10,11,12,13],_,A6 Z,Z,Z,by rw [hfa],Z⟩
def Jh (l:List Int) (x:Int):Bool:=decide (x∈l)
theorem violF_p (p:Prb) (l:List Int) (hb:EW p) (hl:l.length≤1000):AO Tryz.prog 28 [.d (Bs p),.d (.sl none (l.map AF))] (.tup [.sl none ((if D5 p l=0 then L7 p (BC l) else []).map Cy),AF (D5 p l)]):=by
 by_cases hE:D5 p l=0
 ·have hpr:=(Mg p l hb (by omega) hE).by [(2,12)] rfl;have h0:=TM hE;rw [θ hE,hE];have hbk:=fun mv=>Pd p mv (BC l) h0 hb (by unfold BC;rw [ψ];exact hl);refine BB Tryz.func28 Z Z Tryz.ntmps28 Z Z Z fun F hF=>(AC (AE ?_));refine V (Bz 1 Z Z Z Z Z Z Z) (AB Z Z (AB Z Z (AD (AC (AE (J (BM Z Z BW Z Z Z) (goMv Z Z (V (E1 hpr Z [10,11,12] ⟨Z,Z,Z,trivial⟩ Z Z Z Z Z Z Z Z Z) ?_))))))));refine goMv Z Z (J (Ct Z Z Z) (J (Ct Z Z Z) (J (Ct Z Z Z) (AB Z Z (AB Z Z (AB Z Z (AD (AC ?_))))))));refine AC (AE (goMv Z Z (J (D6 Z Z Z) (AD (D9 Z ((by decide)) (A3 (AC (T5 13 12 0 Z Z Z Z Z fun mv=>?_))))))));refine W6 7 13 0 (.inl Z) Z (AE (goMv Z Z (goMv Z Z (V (E1 (hbk mv) Z [10,11,12,13] ⟨Z,Z,Z,Z,trivial⟩ Z Z Z Z Z Z Z Z Z) (AB Z Z (AB Z Z (AD (A8 ?_))))))));exact ⟨_,[],[],A6 Z,Z,Z,Z,Z⟩
 ·have hpr:=Rb p l hb (by omega) hE;rw [ϑ hE];refine BB Tryz.func28 Z Z Tryz.ntmps28 Z Z Z fun F hF=>(AC (AE (V (Bz 1 Z Z Z Z Z Z Z) (AB Z Z (Wc 4 Z (AB Z Z (AD (AC ?_))))))));refine AE (J (BM Z Z BW Z Z Z) (goMv Z Z (J (B2 (hpr) Z Z) (goMv Z Z (J (DD Z Z Z) (J (DD Z Z Z) (J (DD Z Z Z) (AB Z Z ?_))))))));refine AB Z Z (AB Z Z (AD (AC (AC (AE (goMv Z Z (J (D6 Z Z Z) (AD ?_))))))));refine DP Z ((ωi hE)) (AC (AE (goMv Z Z (AB Z Z (Wc 4 Z (AB Z Z (AD (A8 ?_))))))));exact ⟨_,[],[],A6 Z,Z,Z,Z,Z⟩
theorem PC.le {γ:Type} {c:γ ->γ ->Int} (h:PC c) {x y z:γ} (h1:c x y≤0) (h2:c y z≤0):c x z≤0:=by
 by_cases e1:c x y=0
 ·rw [h.eqv x y z e1];exact h2
 ·by_cases e2:c y z=0
  ·have a1:=h.anti y z;have e3:c z y=0:=by omega
   have a2:=h.eqv z y x e3;have a3:=h.anti z x;have a4:=h.anti y x;omega
  ·have:=h.trans x y z (by omega) (by omega);omega
theorem W0 {a b:Int}:¬Ds b a<0↔a≤b:=by unfold Ds;split<;>(try split)<;>omega
theorem RQ {l ys:List Int} (h1:ys.Perm l) (h2:ys.Pairwise fun a b=>¬Ds b a<0):ys=Cm l:=
 List.Perm.eq_of_pairwise (le:=fun a b:Int=>a≤b) (fun a b _ _ g1 g2=>by omega) (h2.imp fun h=>W0.1 h) (JT l) (h1.trans (Cw l).symm)
structure PV (p:Prb):Prop where
 e:Al p=0
 b:EW p
 i:p.it.length≤1000
 r:p.ro.length≤1000
 q:∀i∈p.it,i.po.length≤1000∧i.pa.length≤1000∧i.af.length≤1000
structure Sma where
 ids:List Int
 bl:List Nat
 de:List (List Int)
 rm:List Int
def badS (s:Sma) (x:Nat) (i:Nat):Bool:=x.testBit i && decide (anU (s.bl.getD i 0) x≠0)
def admS (s:Sma) (x:Nat):Bool:=!(List.range s.bl.length).any (badS s x)
def listS (s:Sma) (x:Nat):List Int:=((List.range s.ids.length).filter fun i=>x.testBit i).map fun i=>s.ids.getD i 0
def enumX (n:Nat):Nat ->Nat ->Nat ->List Nat
 | 0,_,x=> [x]
 | l+1,frm,x=>((List.range (n+1 - (l+1) - frm)).map (frm+ ·)).flatMap fun i=>enumX n l (i+1) (x ||| 1<<<i)
section
variable {β:Type} (step:β ->Nat ->β×Bool)
end
section
variable {β:Type}
def cX (s:Sma):List Nat:=(List.range (s.ids.length+1)).flatMap fun k=>(enumX s.ids.length k 0 0).filter (admS s)
end
def smI (p:Prb):List Int:=Cm (HK p)
theorem Ka {p:Prb} (hp:Al p=0):(HK p).Perm (p.it.map AK.id):=by
 unfold HK ordP;rw [θ hp];exact (YV p.it).map _
theorem ZN {p:Prb} (hp:Al p=0):(smI p).Perm (p.it.map AK.id):=(Cw _).trans (Ka hp)
theorem V1 {p:Prb} (hp:Al p=0) (x:Int):x∈smI p↔x∈p.it.map AK.id:=(ZN hp).mem_iff
theorem req_in {p:Prb} (hp:Al p=0) {i:Int} (hi:i∈p.it.map AK.id) {b:Bkd} (hb:b∈Ny p i):b.m∈smI p:=by
 rw [V1 hp];unfold Ny at hb;rcases υ.1 hb with h | h
 ·unfold XM at h;obtain ⟨x,hx,rfl⟩:=ϱ.1 h;have hx':=(Cw _).mem_iff.1 hx;obtain ⟨hk,_,he,_⟩:=bB hi;rw [he] at hx';have hf:=Jj (C3 hp).2.2 _ (ϱ.2 ⟨_,κ hk,Z⟩);unfold Ub at hf
  split at hf
  ·cases hf
  ·rename_i hn
   show x∈_;have hn2:¬J6 (p.it.map AK.id) x=true:=fun h=>hn (List.any_eq_true.2 ⟨x,hx',h⟩)
   simpa [J6] using hn2
 ·obtain ⟨y,hy,h⟩:=χs.1 h;unfold E4 at h;obtain ⟨z,hz,rfl⟩:=ϱ.1 h;have hz':z∈y.q:=ωy hz;unfold linL at hy;obtain ⟨r,_,rfl⟩:=ϱ.1 hy;have hz2:z∈JX (ordP p) r.r:=hz';unfold JX at hz2;obtain ⟨o,ho,rfl⟩:=ϱ.1 hz2;exact (Ka hp).mem_iff.1 (ϱ.2 ⟨o,(ωb.1 ho).1,Z⟩)
structure SmaB (s:Sma):Prop where
 n:s.ids.length≤20
 b:s.bl.length≤20
 u:∀b∈s.bl,b<4294967296
 r:s.rm.length≤1000
 d:s.de.length=s.rm.length
 v:∀r∈s.de,r.length≤32∧∀v∈r,-1000000000000000≤v∧v≤1000000000000000
 m:∀v∈s.rm,0≤v∧v≤4000000000000000
deriving instance DecidableEq for Lin
theorem Wz:Cm []=[]:=ωt (Ef [])
inductive Wf (p:Prb) (S:List Int):Int ->Prop
 | base {x:Int} (h:x∈S):Wf p S x
 | step {i:Int} {b:Bkd} (h:Wf p S i) (hb:b∈Ny p i):Wf p S b.m
theorem Wf.ids {p:Prb} {S:List Int} (hp:Al p=0) (hS:∀x∈S,x∈p.it.map AK.id) {x:Int} (h:Wf p S x):x∈p.it.map AK.id:=by
 induction h with
 | base h=>exact hS _ h
 | step _ hb ih=>exact (V1 hp _).1 (req_in hp ih hb)
theorem TQ {p:Prb} {f:Int ->Bool} {b:Bkd} (h:b∈blks p f):∃i,i∈HK p∧f i=true∧b∈Ny p i∧f b.m=false:=by
 unfold blks at h;obtain ⟨i,hi,h⟩:=χs.1 h;unfold JH at h
 split at h
 ·rename_i hf
  obtain ⟨h1,h2⟩:=ωb.1 h;exact ⟨i,hi,hf,h1,by simpa using h2⟩
 ·cases h
theorem LF {p:Prb} {f:Int ->Bool} (hp:Al p=0) (h:blks p f=[]) {i:Int} (hi:i∈p.it.map AK.id) (hf:f i=true) {b:Bkd} (hb:b∈Ny p i):f b.m=true:=by
 cases hm:f b.m with
 | true=>rfl
 | false=>
  have:b∈blks p f:=χs.2 ⟨i,(Ka hp).mem_iff.2 hi,by unfold JH;rw [θ hf];exact ωb.2 ⟨hb,by rw [hm];rfl⟩⟩;rw [h] at this;cases this
noncomputable def cloS (p:Prb) (S:List Int):List Int:=Cm ((p.it.map AK.id).filter fun x=> @decide (Wf p S x) (Classical.propDecidable _))
theorem M6 {l m:List Int} (h:l.Perm m):Cm l=Cm m:=RQ ((Cw l).trans h) ((JT l).imp fun h=>W0.2 h)
theorem W1 {p:Prb} {S C:List Int} (hp:Al p=0) (hS:∀x∈S,x∈p.it.map AK.id) (hn:C.Nodup) (h:∀x,x∈C↔Wf p S x):Cm C=cloS p S:=by
 unfold cloS;have hi:=Dm (C3 hp).2.1;refine M6 ((List.perm_ext_iff_of_nodup hn (List.Nodup.sublist ψu hi)).2 fun x=>?_);rw [h x,ωb]
 constructor
 ·intro hr;exact ⟨hr.ids hp hS,by simpa using hr⟩
 ·intro hr;simpa using hr.2
theorem P0 {α:Type} {q r:α ->Bool}:∀{l:List α},(∀x∈l,q x=true ->r x=true) ->(∃x,x∈l∧r x=true∧q x=false) ->(l.filter q).length<(l.filter r).length
 | [],_,⟨x,hx,_⟩=>by cases hx
 | a::l,h,⟨x,hx,h1,h2⟩=>by
  have hle:∀{l:List α},(∀x∈l,q x=true ->r x=true) ->(l.filter q).length≤(l.filter r).length:=by
   intro l
   induction l with
   | nil=>intro _;exact ν _
   | cons c l ih=>
    intro h;have h3:=ih fun x hx=>h x (ωn _ hx);have h4:=h c ωo;rw [φh,φh]
    cases hq:q c with
    | false=>cases r c<;>simp<;>omega
    | true=>rw [h4 hq];simp;exact h3
  have ht:=hle (l:=l) fun x hx=>h x (ωn _ hx);rw [φh,φh];rcases Ψ.1 hx with rfl | hx
  ·rw [h1,h2];simp;omega
  ·have ih:=P0 (l:=l) (fun x hx=>h x (ωn _ hx)) ⟨x,hx,h1,h2⟩;have h4:=h a ωo
   cases hq:q a with
   | false=>cases r a<;>simp<;>omega
   | true=>rw [h4 hq];simp;exact ih
structure Cl (p:Prb) (S C:List Int):Prop where
 n:C.Nodup
 s:∀x∈S,x∈C
 r:∀x∈C,Wf p S x
theorem Cl.len {p:Prb} {S C:List Int} (h:Cl p S C) (hp:Al p=0) (hS:∀x∈S,x∈p.it.map AK.id):C.length≤p.it.length:=by
 have hi:=Dm (C3 hp).2.1
 have h1:=((List.perm_ext_iff_of_nodup h.n (List.Nodup.sublist (ψu (p:=fun x=>decide (x∈C))) hi)).2 fun x=>by
  rw [ωb]
  exact ⟨fun hx=>⟨(h.r x hx).ids hp hS,by simpa using hx⟩,fun hx=>by simpa using hx.2⟩).length_eq
 have h2:=ωh (fun x=>decide (x∈C)) (p.it.map AK.id);rw [ψ] at h2;omega
theorem Cl.done {p:Prb} {S C:List Int} (h:Cl p S C) (hp:Al p=0) (hS:∀x∈S,x∈p.it.map AK.id) (h0:blks p (Jh C)=[]):Cm C=cloS p S:=by
 refine W1 hp hS h.n fun x=>⟨h.r x,fun hr=>?_⟩
 induction hr with
 | base hx=>exact h.s _ hx
 | @step i b hr hb ih=>
  have h1:=LF hp h0 (hr.ids hp hS) (ωi ih) hb
  simpa [Jh] using h1
theorem Cl.add {p:Prb} {S C:List Int} (h:Cl p S C) {b:Bkd} (hb:b∈blks p (Jh C)):Cl p S (C++ [b.m])∧b.m∉C:=by
 obtain ⟨i,_,h2,h3,h4⟩:=TQ hb;have hi:i∈C:=by simpa [Jh] using h2
 have hn:b.m∉C:=by simpa [Jh] using h4
 refine ⟨⟨?_,fun x hx=>υ.2 (.inl (h.s x hx)),fun x hx=>?_⟩,hn⟩
 ·rw [χn];refine ⟨h.n,by simp,fun x hx y hy e=>?_⟩;rw [ξ] at hy;subst hy;subst e;exact hn hx
 ·rcases υ.1 hx with hx | hx
  ·exact h.r x hx
  ·rw [ξ.1 hx];exact .step (h.r i hi) h3
theorem Cl.dec {p:Prb} {C D:List Int} {m:Int} (hm:m∈p.it.map AK.id) (h1:m∉C) (h2:m∈D) (h:∀x∈C,x∈D):((p.it.map AK.id).filter fun x=>!Jh D x).length<((p.it.map AK.id).filter fun x=>!Jh C x).length:=
 P0 (fun x _ hx=>by
  have:x∉D:=by simpa [Jh] using hx
  have:x∉C:=fun hc=>this (h x hc)
  simpa [Jh] using this) ⟨m,hm,by simpa [Jh] using h1,by simpa [Jh] using h2⟩
theorem YG {p:Prb} (hb:EW p) (h1:p.it.length≤1000) (h2:p.ro.length≤1000) (f:Int ->Bool):(blks p f).length≤1100000000:=by
 unfold blks;have h5:=Jk (f:=JH p f) (n:=1100000) (l:=HK p) (fun x _=>TT hb h1 h2 f x);have h6:(HK p).length≤1000:=by unfold HK;rw [ψ];exact ωe (DZ p) h1
 have h7:(HK p).length*1100000≤1000*1100000:=ψc _ h6;omega
def DE (M:List (Int×Bool)):List Int:=(M.filter fun e=>e.2).map Prod.fst
theorem MU (k:Int) (v:Bool) (M:List (Int×Bool)):DE ((k,v)::M)=(if v=true then [k] else [])++DE M:=by
 unfold DE;cases v<;>simp
theorem MT {l m:List (Int×Bool)} (h:l.Perm m):(DE l).Perm (DE m):=(h.filter _).map _
theorem Wn (M:List (Int×Bool)):(DE M).length≤M.length:=by unfold DE;rw [ψ];exact ωh _ _
abbrev HM4 (mv:Nat) (B:List Nat) (c:Nat) (M:List (Int×Bool)):Hp:=[(12,[.map (some (B,c)) (BO AF Ai M)]),(13,[.addr 12 0 (.map (some mv))])]
theorem ZJ (mv:Nat) (B:List Nat) (c:Nat) (M:List (Int×Bool)) (hB:B.length=M.length) (hM:M.length≤100000):AM Tryz.prog 73 [mapV mv] (HM4 mv B c M) fun r H'=>r= .own 900 0 (DE M).length∧H'=HM4 mv B c M++ [(900,[.rowD 3 1 ((Cm (DE M)).map AF)])]:=by
 have hT:=Wn M;refine BB Tryz.func73 Z Z Tryz.ntmps73 Z Z Z fun F hF=>?_;refine AC (AE (AB Z Z (AD (AC (AE (AB Z Z (AD (AC ?_))))))));refine AC (OD 3 900 B5 Z Z Z Z (AE (goMv Z Z (D1 6 13 0 Z Z (V (Fy 1 Z Z Z If Z Z Z Z) (AD (A5 (B7 (α:=List Nat×List Int) (fun q=>⟨21,[(3,(.own 900 0 q.2.length)),(7,(.ptr 1 0 0))],HM4 mv B c M++ [(900,[.rowD 3 1 (q.2.map AF)]),(1,[.iter 12 0 c q.1])]⟩) (fun q=>(q.2++DE (Bt M B q.1)).Perm (DE M)) (fun q=>(Bt M B q.1).length) (([],[])) (by show ([]++DE (Bt M B [])).Perm _;rw [DK hB];exact List.Perm.refl _) (A1 hF [12,13,900,1] Z Z ⟨Z,Z,trivial⟩) ?_))))))));rintro ⟨seen,acc⟩ hI;dsimp only at hI⊢;refine AC (AE (Kf (M) Z Z Z Z (fun hl8=>?_) (fun j8 b8 k8 v8 hm8 hb8 hB8 hp8=>⟨_,Z,?_⟩)))
 ·have hfin:acc.Perm (DE M):=by have h1:=hI;rw [hl8] at h1;simpa [DE] using h1
  refine J (Ct Z Z Z) (AD (AC (D9 Z Z (BF (AC (AE ?_))))));have hal2:=hfin.length_eq;refine goMv Z Z (V (RG laysS acc (by omega) Z Z Z Z Z Z Z) (AD (AC (AE (goMv Z Z (AB Z Z (AD (A8 ?_))))))));exact ⟨_,[12,13,900],_,A6 Z,Z,Z,by rw [hfin.length_eq],by rw [M6 hfin];rfl⟩
 ·refine J (Ct Z Z Z) ?_;refine AD (AC (DP Z Z (A3 (A5 (AC (AE (J (Fz (M) j8 b8 Z Z Z hm8 hb8 Z) (J (Ct Z Z Z) ?_))))))));refine J (Ct Z Z Z) (AB Z Z (AB Z Z (AD (AC (AE (goMv Z Z (AD (KN Z (fun h13=>?_) (fun h13=>?_)))))))))
  ·refine AE (goMv Z Z ?_);have hal:acc.length≤100000:=by have h1:=hI.length_eq;rw [Δ] at h1;omega
   refine goMv Z Z (V (D7 30 B5 Z Z Z Z Z Z Z Z) (V (Hz (acc) ([k8]) Z Z Z Z Z Z Z Z B5 (by simp only [Φ];omega) Z Z Z Z) (AB Z Z (AD ?_))));exact ⟨(seen++ [b8],acc++ [k8]),(by show ((acc++ [k8])++DE (Bt M B (seen++ [b8]))).Perm _;refine List.Perm.trans (List.Perm.trans ?_ (List.Perm.append_left acc (MT hp8)).symm) hI;rw [MU,θ (by simpa using h13),ψl]),by show (Bt M B (seen++ [b8])).length<(Bt M B seen).length;rw [hp8.length_eq];exact χk _,A1 hF [12,13,900,1] Z (Z) ⟨Z,Z,trivial⟩⟩
  ·refine A3 ?_;exact ⟨(seen++ [b8],acc),(by show (acc++DE (Bt M B (seen++ [b8]))).Perm _;refine List.Perm.trans (List.Perm.trans ?_ (List.Perm.append_left acc (MT hp8)).symm) hI;rw [MU,ϑ (by simpa using h13),List.nil_append]),by show (Bt M B (seen++ [b8])).length<(Bt M B seen).length;rw [hp8.length_eq];exact χk _,A1 hF [12,13,900,1] Z (Z) ⟨Z,Z,trivial⟩⟩
def Uu (M:List (Int×Bool)):Prop:=∀e∈M,e.2=true
def keysM (M:List (Int×Bool)):List Int:=M.map Prod.fst
theorem Wo {M:List (Int×Bool)} (h:Uu M):DE M=keysM M:=by
 unfold DE keysM;rw [List.filter_eq_self.2 h]
theorem WL {M:List (Int×Bool)} (h:Uu M):inM M=Jh (keysM M):=funext fun x=>by
 unfold inM Jh
 by_cases hx:x∈keysM M
 ·rw [ωi hx];exact h _ (Hf (z:=false) hx)
 ·rw [ωp hx];exact IQ hx
theorem cZ {M:List (Int×Bool)} (h:Uu M) (x:Int):Uu (Aw M x true):=fun e he=>by
 obtain ⟨j,hj,rfl⟩:=χb.1 he;have h1:=Ly (m:=M) (a:=x) (b:=true)
 by_cases e:j=mix M x
 ·subst e;have:=h1.1;rw [ω hj] at this;injection this with this;rw [this]
 ·have h2:=h1.2 j e;rw [ω hj] at h2;exact h _ (ζ h2.symm)
theorem ND (M:List (Int×Bool)) (x:Int) (b:Bool):keysM (Aw M x b)=if x∈keysM M then keysM M else keysM M++ [x]:=Ki
theorem Cl.put {p:Prb} {S:List Int} {M:List (Int×Bool)} (h:Cl p S (keysM M)) {x:Int} (hx:Wf p S x):Cl p S (keysM (Aw M x true)):=by
 rw [ND]
 split
 ·exact h
 ·rename_i hn
  refine ⟨?_,fun y hy=>υ.2 (.inl (h.s y hy)),fun y hy=>?_⟩
  ·rw [χn];exact ⟨h.n,by simp,fun a ha b hb e=>by rw [ξ] at hb;subst hb;subst e;exact hn ha⟩
  ·rcases υ.1 hy with hy | hy
   ·exact h.r y hy
   ·rw [ξ.1 hy];exact hx
theorem ZT (l:List Int):Uu (BC l):=fun e he=>by
 unfold BC at he;obtain ⟨x,_,rfl⟩:=ϱ.1 he;rfl
theorem XC (l:List Int):keysM (BC l)=l:=by unfold keysM BC;rw [ωu];exact List.map_id' l
theorem closF_c (p:Prb) (l:List Int) (hb:EW p) (hl:l.length≤1000) (h1:p.it.length≤1000) (h2:p.ro.length≤1000) (hE:D5 p l=0) (hn:l.Nodup) (hS:∀x∈l,x∈p.it.map AK.id):AM Tryz.prog 27 [.d (Bs p),.d (.sl none (l.map AF))] [] fun r H'=>r= .tup [.own 900 0 (cloS p l).length,.d (AF 0)]∧H'=[(900,[.rowD 3 1 ((cloS p l).map AF)])]:=by
 have hpr:=(Mg p l hb (by omega) hE).by [(2,12)] rfl;have h0:=TM hE;have hbk:=fun mv M=>cO p mv (some (List.range M.length,M.length)) M hb h1 h2;refine BB Tryz.func27 Z Z Tryz.ntmps27 Z Z Z fun F hF=>(AC (AE (V (Bz 1 Z Z Z Z Z Z Z) ?_)));refine AB Z Z (AB Z Z (AD (AC (AE (J (BM Z Z BW Z Z Z) (goMv Z Z (V (E1 hpr Z [10,11,12] ⟨Z,Z,Z,trivial⟩ Z Z Z Z Z Z Z Z Z) (goMv Z Z ?_))))))));refine J (Ct Z Z Z) (J (Ct Z Z Z) (J (Ct Z Z Z) (AB Z Z (AB Z Z (AB Z Z (AD (AC (AC ?_))))))));refine AE (goMv Z Z (J (D6 Z Z Z) (AD (D9 Z ((by decide)) (A3 (AC (AC (T5 13 12 0 Z Z Z Z Z fun mv=>?_))))))));refine W6 7 13 0 (.inl Z) Z (AE (goMv Z Z (goMv Z Z (V (E1 (hbk mv (BC l)) Z [10,11,12,13] ⟨Z,Z,Z,Z,trivial⟩ Z Z Z Z Z Z Z Z Z) (AB Z Z (AD (A5 (B7 (α:=List (Int×Bool)) (fun M=>⟨43,[(6,(.ptr 10 0 0)),(7,(mapV mv)),(9,(.d (.sl none ((blks p (inM M)).map OT))))],HM2 p mv (some (List.range M.length,M.length)) M⟩) (fun M=>Uu M∧Cl p l (keysM M)) (fun M=>((p.it.map AK.id).filter fun x=>!Jh (keysM M) x).length) (BC l) (⟨ZT l,by rw [XC];exact ⟨hn,fun _ h=>h,fun _ h=> .base h⟩⟩) (A1 hF [10,11,12,13] Z Z ⟨Z,Z,Z,trivial⟩) ?_))))))));rintro M ⟨hT,hC⟩;refine AC (AC (AE (goMv Z Z ?_)));have hWl:(blks p (inM M)).length≤1100000000:=YG hb h1 h2 _;refine J (CO Z Tryz.underlying141 Z) (J (MO Z Z Z) (AD (Ae Z (fun h27=>?_) (fun h27=>?_))))
 ·refine A3 (AC (A5 (AC ?_)));have hw0:0<(blks p (inM M)).length:=by have h:=h27;omega
  have hmem:∀b∈blks p (inM M),Wf p l b.m∧b.m∉keysM M:=fun b hb=>by rw [WL hT] at hb;exact ⟨(hC.add hb).1.r _ (by simp),(hC.add hb).2⟩
  refine AE (goMv Z Z (J (CO Z Tryz.underlying141 Z) (goMv Z Z (AD (A5 (B7 (α:=Nat×List (Int×Bool)) (fun q=>⟨43,[(6,(.ptr 10 0 0)),(7,(mapV mv)),(31,(.d (.sl none ((blks p (inM M)).map OT)))),(32,(.d (AF ((blks p (inM M)).length:Int)))),(33,(.d (AF (q.1:Int))))],HM2 p mv (some (List.range q.2.length,q.2.length)) q.2⟩) (fun q=>q.1≤(blks p (inM M)).length∧Uu q.2∧Cl p l (keysM q.2)∧(∀x∈keysM M,x∈keysM q.2)∧(0<q.1 ->(blks p (inM M))[0].m∈keysM q.2)) (fun q=>(blks p (inM M)).length - q.1) ((0,M)) (⟨ς _,hT,hC,fun _ h=>h,fun h=>absurd h (χx 0)⟩) (A1 hF [10,11,12,13] Z Z ⟨Z,Z,Z,Z,Z,trivial⟩) ?_))))));rintro ⟨k,M2⟩ ⟨hk0,hT2,hC2,hsub,hfst⟩;dsimp only at hk0 hT2 hC2 hsub hfst⊢;refine AC (AE (J (BR Z Z Z) (AD (AC (Ae Z (fun h34=>?_) (fun h34=>?_))))))
  ·have hk1:k<(blks p (inM M)).length:=Bf h34;refine A3 (AC (A5 ?_));refine AC (AE (J (Be (k) Z Z (Z) (Ah hk1) Tryz.underlying141 Z sz144 Z) (J (HE Z Z rw144 Z) (V (CF 2 Y6 Z Z Z Z) (V (Bi Z Z Z Z Z Z Z sz144) (AD (AE (goMv Z Z ?_))))))));refine D1 37 13 0 Z Z (J (A4 Z fi144_1 Z Z Z) (J (A9 Z Z Z Aq Z) (V (Tj (M2) ((blks p (inM M))[k].m) (true) Z Z Z If HP Z Z) (AD (AE (J (BA Z Z (AT (k+1) (by omega)) Z) (goMv Z Z (AD ?_))))))));exact ⟨(k+1,Aw M2 (blks p (inM M))[k].m true),⟨by show k+1≤_;omega,cZ hT2 _,hC2.put (hmem _ (κ hk1)).1,fun x hx=>by show x∈keysM (Aw M2 _ true);rw [ND];split;exact hsub x hx;exact υ.2 (.inl (hsub x hx)),fun _=>by show _∈keysM (Aw M2 _ true);rw [ND];rcases φl k with hk | hk;subst hk;split;assumption;simp;split;exact hfst hk;exact υ.2 (.inl (hfst hk))⟩,by show (blks p (inM M)).length - (k+1)<(blks p (inM M)).length - k;omega,A1 hF [10,11,12,13] Z (Z) ⟨Z,Z,Z,Z,Z,trivial⟩⟩
  ·have hdec:((p.it.map AK.id).filter fun x=>!Jh (keysM M2) x).length<((p.it.map AK.id).filter fun x=>!Jh (keysM M) x).length:=Cl.dec ((hmem _ (κ hw0)).1.ids h0 hS) (hmem _ (κ hw0)).2 (hfst (by have h:=h34;omega)) hsub;refine BF (AE (goMv Z Z (goMv Z Z (V (E1 (hbk mv M2) Z [10,11,12,13] ⟨Z,Z,Z,Z,trivial⟩ Z Z Z Z Z Z Z Z Z) (AB Z Z (AD ?_))))));exact ⟨M2,⟨hT2,hC2⟩,hdec,A1 hF [10,11,12,13] Z (Z) ⟨Z,Z,Z,trivial⟩⟩
 ·refine BF (AC ?_);have hb0:blks p (Jh (keysM M))=[]:=by rw [←WL hT];exact ωt (by have h:=h27;omega)
  have hML:M.length≤100000:=by have h3:=hC.len h0 hS;unfold keysM at h3;rw [ψ] at h3;omega
  have hfin:Cm (DE M)=cloS p l:=by rw [Wo hT];exact hC.done h0 hS hb0
  have hfl:(DE M).length=(cloS p l).length:=by rw [←hfin,Ef]
  refine AE (goMv Z Z (V (E1 (ZJ mv (List.range M.length) M.length M (by simp) hML) Z [12,13,900] ⟨Z,Z,Z,trivial⟩ Z Z Z Z Z Z Z Z Z) (AB Z Z (AB Z Z (AD (A8 ?_))))));exact ⟨_,[900],_,A6 Z,Z,Z,by rw [hfl],by rw [hfin]⟩
inductive Drp (p:Prb) (S:List Int):Int ->Prop
 | base {i:Int} {b:Bkd} (hb:b∈Ny p i) (h:b.m∉S):Drp p S i
 | step {i:Int} {b:Bkd} (hb:b∈Ny p i) (h:Drp p S b.m):Drp p S i
theorem req_i {p:Prb} {i:Int} {b:Bkd} (hb:b∈Ny p i):b.i=i:=by
 unfold Ny at hb;rcases υ.1 hb with h | h
 ·unfold XM at h;obtain ⟨x,_,rfl⟩:=ϱ.1 h;rfl
 ·obtain ⟨y,_,h⟩:=χs.1 h;unfold E4 at h;obtain ⟨z,_,rfl⟩:=ϱ.1 h;rfl
noncomputable def intS (p:Prb) (S:List Int):List Int:=Cm (S.filter fun x=> @decide (¬Drp p S x) (Classical.propDecidable _))
structure Ci (p:Prb) (S C:List Int):Prop where
 n:C.Nodup
 s:∀x∈C,x∈S
 r:∀x∈S,x∉C ->Drp p S x
theorem Ci.done {p:Prb} {S C:List Int} (h:Ci p S C) (hp:Al p=0) (hn:S.Nodup) (hS:∀x∈S,x∈p.it.map AK.id) (h0:blks p (Jh C)=[]):Cm C=intS p S:=by
 have key:∀x,Drp p S x ->x∉C:=fun x hx=>by
  induction hx with
  | @base i b hb hm=>
   intro hi;have h1:=LF hp h0 (hS _ (h.s _ hi)) (ωi hi) hb;exact hm (h.s _ (by simpa [Jh] using h1))
  | @step i b hb _ ih=>
   intro hi;have h1:=LF hp h0 (hS _ (h.s _ hi)) (ωi hi) hb;exact ih (by simpa [Jh] using h1)
 unfold intS;refine M6 ((List.perm_ext_iff_of_nodup h.n (List.Nodup.sublist ψu hn)).2 fun x=>?_);rw [ωb]
 constructor
 ·intro hx;exact ⟨h.s x hx,by simpa using fun hd=>key x hd hx⟩
 ·intro hx;have h2:¬Drp p S x:=by simpa using hx.2
  exact Classical.byContradiction fun hc=>h2 (h.r x hx.1 hc)
theorem Ci.drop {p:Prb} {S C:List Int} (h:Ci p S C) {b:Bkd} (hb:b∈blks p (Jh C)):Drp p S b.i∧b.i∈C:=by
 obtain ⟨i,_,h2,h3,h4⟩:=TQ hb;have hi:i∈C:=by simpa [Jh] using h2
 have hm:b.m∉C:=by simpa [Jh] using h4
 rw [req_i h3];refine ⟨?_,hi⟩
 by_cases hs:b.m∈S
 ·exact .step h3 (h.r _ hs hm)
 ·exact .base h3 hs
theorem Ci.rest {p:Prb} {S C:List Int} (h:Ci p S C) {x:Int} (hx:Drp p S x):Ci p S (C.filter fun y=>decide (y≠x)):=by
 refine ⟨List.Nodup.sublist ψu h.n,fun y hy=>h.s y (ωb.1 hy).1,fun y hy hn=>?_⟩
 by_cases hc:y∈C
 ·by_cases e:y=x
  ·subst e;exact hx
  ·exact absurd (ωb.2 ⟨hc,by simpa using e⟩) hn
 ·exact h.r y hy hc
theorem a7 (M:List (Int×Bool)) (x:Int):mix M x=(keysM M).idxOf x:=by
 induction M with
 | nil=>rfl
 | cons e r ih=>
  obtain ⟨k,v⟩:=e;show (if x=k then 0 else mix r x+1)=(k::keysM r).idxOf x;rw [ih,List.idxOf_cons]
  by_cases e:x=k
  ·subst e;simp
  ·have:(k==x)=false:=by simpa using fun h=>e h.symm
   rw [ϑ e,this];rfl
theorem av {M:List (Int×Bool)} (hn:(keysM M).Nodup) (x:Int):keysM (mdel M x)=(keysM M).filter fun y=>decide (y≠x):=by
 unfold mdel;rw [a7];show ((M.eraseIdx _).map Prod.fst)=_;rw [WB];show (keysM M).eraseIdx _=_;rw [←List.erase_eq_eraseIdx_of_idxOf Z,List.Nodup.erase_eq_filter hn]
 apply χp
 intro y _
 by_cases e:y=x
 ·subst e;simp
 ·simp [e]
theorem Ci.del {p:Prb} {S:List Int} {M:List (Int×Bool)} (h:Ci p S (keysM M)) {x:Int} (hx:Drp p S x):Ci p S (keysM (mdel M x)):=by
 rw [av h.n];exact h.rest hx
theorem cI {p:Prb} {l:List Int}:(cloS p l).length≤p.it.length:=by
 unfold cloS;rw [Ef];exact ωe (ωh _ _) (by rw [ψ];exact ν _)
end Go.Proofs.YteifpcnphnhaoaaGreat
