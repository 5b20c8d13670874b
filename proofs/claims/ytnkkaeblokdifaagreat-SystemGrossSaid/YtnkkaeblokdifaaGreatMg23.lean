/- The kit's contract of slices.SortFunc at a row of pointers in a region of many blocks; the comparison reads the blocks. No program in sight. -/
import Derived.Test.YtnkkaeblokdifaaGreatMg22
import Derived.Shelf.SlSortCmp.Whole1
namespace Go.Proofs.YtnkkaeblokdifaaGreat
open Go.RowKit Go.Shelf
open Go.Sort (putRow Holds PermIn SortedIn SWO mapBlock onCells putCells)
variable {P:Program}
section
variable {ρr:Ren} {τ:Type}
theorem DV {α:Type} [Inhabited α] {enc:α ->Value} {w:World} {b off m:Nat} {dk:Array α} {os:Array Obj} {b':Nat} (hne:b'≠b) (hlt:b'<w.heap.size):(sortWorld enc w b off m dk os).heap[b']?=w.heap[b']?:=by
 unfold sortWorld;rw [Go.Sort.heap_grow_old _ _ (by rw [Go.Sort.size_putRow];exact hlt)];show (w.heap.modify b _)[b']?=_;rw [Array.getElem?_modify,if_neg (Ne.symm hne)]
theorem MP {α:Type} [Inhabited α] {enc:α ->Value} {w:World} {b off m:Nat} {dk:Array α} {os:Array Obj}:w.heap.size≤(sortWorld enc w b off m dk os).heap.size:=by
 unfold sortWorld Go.Sort.grow;rw [Array.size_append,Go.Sort.size_putRow];exact Nat.le_add_right _ _
theorem W8 (L:SlLaysF.n6 P ρr) {E:TypeId} {g g6:FuncId} {fn:Func} (hfn:P.funcs[g]?=some fn) (hnm:(fn.name== "runtime.NumGoroutine")=false) {c:Code} (hbody:fn.body=some c)
  {bl:τ ->Nat} {px:τ ->List D} {tx:τ ->TypeId} (cf:τ ->τ ->Int) (hO:SWO (ltOf cf)) (xs ys0:List τ) (hsz:xs.length<4611686018427387904) (hc:∀x∈xs,∀y∈xs,AU P g [.d (.ptr (.agg (px x))),.d (.ptr (.agg (px y)))] (.raw (.int .i64 (cf x y))))
  (hu:∀ys:List τ,ys.Perm xs ->ys.Pairwise (fun a b=>¬cf b a<0) ->ys=ys0)
  {F:Fr} {s:AS} {d:Nat} {x y:Operand} {ty:TypeId} {pos:String} {aft:Array Edge} {gd:Option (Nat×Bool)} {at_:Array TypeId} {f b cap n:Nat} {M:MF} {fa:AV} {row:List D} {hp':Hp}
  (hg:ρr.f 6=g6) (hM:hfam s.hp f=some [.multi M]) (hpx:∀x∈xs,M (bl x)=some (.cells (tx x) (px x))) (h1x:∀x∈xs,∀c∈px x,c.one=true) (hx:s.ev x=some (.d (.raw (sV b n cap)))) (hy:s.ev y=some fa) (hfa:∀w O ρ v,A3 w O ρ fa v ->v= .func (.func g) #[] #[]) (hb:M b=some (.row E 1 cap row)) (hrow:row=xs.map fun x=>pD (bl x) 0) (hn:n=xs.length) (hxs:xs≠ []) (hh:CN s.hp f (Cj M b (.row E 1 cap (ys0.map fun x=>pD (bl x) 0)))=some hp') (hd:Nat.blt d s.n=true):
  AR P F ⟨some d,.call {callee:= .value (.func g6),args:= #[x,y],argTypes:=at_},ty,pos,aft,gd⟩ s ⟨s.n,(d,.d (.tup []))::s.env,hp'⟩ (fun _ _=>true):=by
 subst hg hrow hn;intro ρ act w hs
 obtain ⟨fn6,hf1,hf2,hf3⟩:∃fn,P.funcs[ρr.f 6]?=some fn∧(fn.name== "runtime.NumGoroutine")=false∧fn.body.isSome=true:=by
  obtain ⟨nm,hn,hf⟩:=L.f6;exact ⟨_,hf,hn,rfl⟩
 unfold Oper.wp;rw [show (#[x,y]:Array Operand)=[x,y].toArray from rfl,EG hf1 hf2 hf3,Oper.upon_enter]
 suffices key:Calls P (ρr.f 6) ([x,y].map act.eval).toArray w fun e w'=>e= .returned (.tuple #[])∧SR F ⟨s.n,s.env,hp'⟩ ρ act w' by
  refine key.mono fun e w' ⟨e1,hsr⟩=>?_;subst e1;exact ⟨ρ,hsr.put (KZ hd) (.d (.tup rfl fun i c v hc=>by cases hc)),fun _ _ _=>rfl⟩
 have r0:=hs.raw hx;have r1:=hfa _ _ _ _ (hs.ev hy);have h3:=hs.heap
 have hO0:Ar ρ s.hp b:=⟨f,b,_,by rw [Ie hM,hb];rfl,by rw [(hs.rowN hM hb).1];rfl⟩
 obtain ⟨hρ,us,q1,q2,q3⟩:=hs.rowN hM hb;show Calls P (ρr.f 6) #[act.eval x,act.eval y] w _;rw [r1,r0];have hn:0<xs.length:=List.length_pos_iff.2 hxs
 have hus:us=xs.map fun x=>pV (bl x) 0:=by
  apply List.ext_getElem?
  intro i;rw [List.getElem?_map]
  by_cases hi:i<xs.length
  ·rw [List.getElem?_eq_getElem hi];obtain ⟨u,h1,h2,h4⟩:=q2.2.2 i (pD (bl xs[i]) 0) (by rw [List.getElem?_map,List.getElem?_eq_getElem hi];rfl) 0 (pD (bl xs[i]) 0) rfl;rw [Nat.mul_one,Nat.add_zero] at h1;rw [h1]
   cases h4 with
   | raw _=>rfl
  ·have:us.length=xs.length:=by have:=q2.1;rwa [List.length_map,Nat.mul_one] at this
   rw [List.getElem?_eq_none (by omega),List.getElem?_eq_none (by omega)];rfl
 obtain ⟨cur,p1,p2,p3,p3',p4⟩:∃cur,w.heap[b]?=some (.cells cur E (0,0))∧cur.size=cap∧xs.length≤cap∧cap≤maxLen∧cur.toList.take xs.length=us:=by
  rcases q1.2 with ⟨_,h⟩ | ⟨b',cap',cur,e1,_,e2,e3,e4,e5,e6⟩
  ·rw [List.length_map] at h;omega
  ·rw [List.length_map] at e1;injection e1 with e1 e7 e8
   injection e1 with e1
   injection e1 with e1
   subst e1 e8;rw [List.length_map] at e3 e6;exact ⟨cur,e2,by omega,e3,e4,by rwa [Nat.mul_one] at e6⟩
 rw [List.length_map] at*;have hlt:b<w.heap.size:=(Array.getElem?_eq_some_iff.1 p1).1;have hOb:F.O ρ s.hp b:= .inr hO0;have hOl:∀b',F.O ρ s.hp b' ->b'<w.heap.size:=fun b' h=>h3.ltO h
 let x0:τ:=xs[0]
 let ix:Nat ->Nat:=fun i=>if i<xs.length then i else 0
 let el:Nat ->τ:=fun i=>(xs[ix i]?).getD x0
 have hel:∀i,el i∈xs:=fun i=>by
  have hix:ix i<xs.length:=by show (if _ then _ else _)<_;split<;>omega
  show (xs[ix i]?).getD x0∈xs;rw [List.getElem?_eq_getElem hix];exact List.getElem_mem hix
 have heli:∀i (hi:i<xs.length),el i=xs[i]:=fun i hi=>by
  show (xs[ix i]?).getD x0=_;rw [show ix i=i from if_pos hi,List.getElem?_eq_getElem hi];rfl
 let enc:Nat ->Value:=fun i=>pV (bl (el i)) 0
 let cf':Nat ->Nat ->Int:=fun i j=>cf (el i) (el j)
 have hO':SWO (ltOf cf'):=⟨fun x=>hO.irrefl (el x),fun x y z=>hO.trans (el x) (el y) (el z),fun x y z=>hO.ntrans (el x) (el y) (el z)⟩
 have henc1:OneCell enc:=fun _=>rfl;have hd0:∀i,i<xs.length ->(Array.range xs.length)[i]! =i:=fun i hi=>by rw [getElem!_pos _ i (by simpa using hi)];simp
 have hcu:∀i (hi:i<xs.length),cur[i]?=some (pV (bl xs[i]) 0):=fun i hi=>by
  have:us[i]?=cur.toList[i]?:=by rw [←p4,List.getElem?_take_of_lt hi]
  rw [hus,List.getElem?_map,List.getElem?_eq_getElem hi] at this;rw [←Array.getElem?_toList];exact this.symm
 have hH:Holds enc w b 0 (Array.range xs.length):=by
  intro j hj;simp only [Array.size_range] at hj;rw [hd0 _ hj];refine ⟨?_,?_⟩
  ·simp only [World.cell?,p1,Nat.zero_add];rw [hcu j hj];show _=some (pV (bl (el j)) 0);rw [heli j hj];rfl
  ·simp only [World.frozen?,p1]
   simp
 have hcmp:CmpLays1 P g #[] enc cf' b 0 (Array.range xs.length).size w:=by
  intro m os dk _ x y;have hWs:w.heap.size≤(sortWorld enc w b 0 m dk os).heap.size:=MP
  let O':Nat ->Prop:=fun b'=>F.O ρ s.hp b'∧b'≠bl (el x)∧b'≠bl (el y)
  have hne:∀i,bl (el i)≠b:=fun i e=>by
   have:=hpx _ (hel i);rw [e,hb] at this;cases this
  have hptr:∀i,i=x∨i=y ->A1 (sortWorld enc w b 0 m dk os) O' (.ptr (.agg (px (el i)))) (pV (bl (el i)) 0):=fun i hi=>by
   obtain ⟨_,vs,c1,c2,c3,c4⟩:=hs.cellsN hM (hpx _ (hel i));have hl:bl (el i)<w.heap.size:=(Array.getElem?_eq_some_iff.1 c1).1
   have hOn:¬O' (bl (el i)):=fun h=>by
    rcases hi with e | e
    ·exact h.2.1 (by rw [e])
    ·exact h.2.2 (by rw [e])
   show A1 _ _ (.ptr (.agg (px (el i)))) (.pointer (some ⟨bl (el i),0,none⟩));refine A1.ptr (x:= .agg (px (el i))) (fun j=>vs.getD j undef) (Nat.lt_of_lt_of_le hl hWs) hOn (h1x _ (hel i)) (fun j c hj=>?_) fun j c hj=>?_
   ·have hj':j<vs.length:=by rw [c2];exact (List.getElem?_eq_some_iff.1 hj).1
    simp only [World.cell?,DV (hne i) hl,c1,Nat.zero_add]
    simp [hj']
   ·have hj':j<vs.length:=by rw [c2];exact (List.getElem?_eq_some_iff.1 hj).1
    have hv:vs[j]?=some vs[j]:=List.getElem?_eq_getElem hj';have:vs.getD j undef=vs[j]:=by rw [List.getD_eq_getElem?_getD,hv];rfl
    rw [this];exact (c3 j c _ hj hv).mono hWs (fun b' hl hno=>DV (fun e=>hno (e▸hOb)) hl) (fun _ _ h=>h.1)
  refine (UA (hc (el x) (hel x) (el y) (hel y)) (w:=sortWorld enc w b 0 m dk os) (O:=O') (fun b' h=>Nat.lt_of_lt_of_le (hOl b' h.1) hWs) (vs:=[pV (bl (el x)) 0,pV (bl (el y)) 0]) rfl (fun i a v ha hv=>?_)).mono fun e w' ⟨v,e1,e2,e3,e4,e5⟩=>⟨?_,R3 e3 e4 e5⟩
  ·match i,ha,hv with
   | 0,ha,hv=>injection ha with ha;injection hv with hv;subst ha hv;exact .d (hptr x (.inl rfl))
   | 1,ha,hv=>injection ha with ha;injection hv with hv;subst ha hv;exact .d (hptr y (.inr rfl))
  ·cases e2 with
   | raw _=>exact e1
 have eg:∀args w,(callFunc g args).run P w= .ok (.enter g args) w:=enters_of hfn hnm hbody;have key:=Any.slices_SortFunc L enc henc1 cf' hO' g #[] b 0 cap (Array.range xs.length) w eg hcmp hH hlt (by simpa using hsz);rw [Array.size_range] at key;refine key.mono fun e w' ⟨e1,d',n,os,hp,hsort,hw⟩=>?_;subst e1 hw;obtain ⟨s1,_,s3⟩:=hp;rw [Array.size_range] at s1
 have hperm:d'.toList.Perm (List.range xs.length):=by
  have e1:d'.extract 0 xs.length=d':=by rw [←s1];exact Array.extract_size
  have e2:(Array.range xs.length).extract 0 xs.length=Array.range xs.length:=by
   conv=>lhs;arg 3;rw [←Array.size_range (n:=xs.length)]
   exact Array.extract_size
  rw [e1,e2] at s3
  simpa using s3
 refine ⟨rfl,?_⟩
 have hys:d'.toList.map el=ys0:=by
  apply hu
  ·refine (hperm.map el).trans (List.Perm.of_eq ?_)
   apply List.ext_getElem (by simp)
   intro i h5 h6;simp only [List.getElem_map,List.getElem_range];exact heli i h6
  ·rw [List.pairwise_iff_getElem];intro i j hi hj hij;simp only [List.length_map,Array.length_toList] at hi hj;have:=hsort i j (Nat.zero_le _) hij (by omega);rw [getElem!_pos _ j hj,getElem!_pos _ i hi] at this;simp only [ltOf,decide_eq_false_iff_not] at this
   simpa using this
 have hlen':ys0.length=xs.length:=by rw [←hys];simp [s1]
 -- the world: first what lies in the row, then the new blocks
 have hheap:(sortWorld enc w b 0 n d' os).heap[b]?=some (.cells (putCells enc 0 d' cur) E (0,0)):=by
  unfold sortWorld;rw [Go.Sort.heap_grow_old _ _ (by rw [Go.Sort.size_putRow];exact hlt)];show (w.heap.modify b _)[b]?=_;rw [Array.getElem?_modify,if_pos rfl,p1];rfl
 refine hs.writeG f b (.nr b E 1 cap (xs.map fun x=>pD (bl x) 0)) (.nr b E 1 cap (ys0.map fun x=>pD (bl x) 0)) (by rw [Ie hM,hb];rfl) (fun g i=>?_) Z Z Z MP (Nat.le_add_right _ _) (fun b' hl hno=>DV (fun e=>hno (by rw [e,hρ];rfl)) hl) (fun _ _ e=>by cases e) fun hrep=>?_
 ·rw [Df hh]
  by_cases e:g=f
  ·subst e;rw [if_pos rfl,Ie hM]
   by_cases e2:i=b
   ·subst e2;rw [if_pos ⟨rfl,rfl⟩,QC];rfl
   ·rw [if_neg (fun h=>e2 h.2),PF e2]
  ·rw [if_neg e,if_neg (fun h=>e h.1)]
 have hcs:(putCells enc 0 d' cur).size=cap:=by simp only [putCells,Array.size_mapIdx];omega
 have hrow:(putCells enc 0 d' cur).toList.take ys0.length=ys0.map fun x=>pV (bl x) 0:=by
  apply List.ext_getElem?
  intro i
  by_cases hi:i<xs.length
  ·rw [List.getElem?_take_of_lt (by omega),List.getElem?_map,←hys,List.getElem?_map,Array.getElem?_toList,Array.getElem?_toList,Array.getElem?_eq_getElem (by omega),Array.getElem?_eq_getElem (by omega)];simp only [putCells,Array.getElem_mapIdx,Option.map_some];rw [if_pos ⟨Nat.zero_le _,by omega⟩];simp only [Nat.sub_zero];rw [getElem!_pos _ i (by omega)]
  ·rw [List.getElem?_eq_none (by rw [List.length_take];omega),List.getElem?_eq_none (by rw [List.length_map];omega)]
 refine ⟨hρ,ys0.map fun x=>pV (bl x) 0,⟨by simp,.inr ⟨b,cap,_,by simp only [List.length_map],Nat.zero_le _,hheap,by rw [List.length_map,hlen'];exact p3,p3',by rw [hcs];omega,by rw [List.length_map,Nat.mul_one,hrow]⟩⟩,⟨by simp,fun x hx2=>?_,fun i x hx2 j c hc2=>?_⟩,fun x hx2 c hc2=>?_⟩
 ·obtain ⟨y,_,rfl⟩:=List.mem_map.1 hx2;rfl
 ·rw [List.getElem?_map] at hx2
  cases hdi:ys0[i]? with
  | none=>rw [hdi] at hx2;cases hx2
  | some q=>
   rw [hdi] at hx2;injection hx2 with hx2;subst hx2
   match j,hc2 with
   | 0,hc2=>
    injection hc2 with hc2;subst hc2
    exact ⟨pV (bl q) 0,by rw [Nat.mul_one,Nat.add_zero,List.getElem?_map,hdi];rfl,rfl,.raw rfl⟩
 ·obtain ⟨y,_,rfl⟩:=List.mem_map.1 hx2
  cases hc2 with
  | head=>rfl
  | tail _ h=>cases h
theorem Uv (L:SlLaysF.n6 P ρr) {g6:FuncId} {F:Fr} {s:AS} {d:Nat} {x y:Operand} {ty:TypeId} {pos:String} {aft:Array Edge} {gd:Option (Nat×Bool)} {at_:Array TypeId} {fa:AV} 
  (hg:ρr.f 6=g6) (hx:s.ev x=some (.d (.raw (.slice none 0 0)))) (hy:s.ev y=some fa) (hd:Nat.blt d s.n=true):
  AR P F ⟨some d,.call {callee:= .value (.func g6),args:= #[x,y],argTypes:=at_},ty,pos,aft,gd⟩ s ⟨s.n,(d,.d (.tup []))::s.env,s.hp⟩ (fun _ _=>true):=by
 subst hg;intro ρ act w hs
 obtain ⟨fn6,hf1,hf2,hf3⟩:∃fn,P.funcs[ρr.f 6]?=some fn∧(fn.name== "runtime.NumGoroutine")=false∧fn.body.isSome=true:=by
  obtain ⟨nm,hn,hf⟩:=L.f6;exact ⟨_,hf,hn,rfl⟩
 unfold Oper.wp;rw [show (#[x,y]:Array Operand)=[x,y].toArray from rfl,EG hf1 hf2 hf3,Oper.upon_enter];have r0:=hs.raw hx;show Calls P (ρr.f 6) #[act.eval x,act.eval y] w _;rw [r0];refine (AnyF.slices_SortFunc_none {L with} none 0 _ w).mono fun e w' ⟨e1,e2⟩=>?_;subst e1 e2;exact ⟨ρ,hs.put (KZ hd) (.d (.tup rfl fun i c v hc=>by cases hc)),fun _ _ _=>rfl⟩
end
end Go.Proofs.YtnkkaeblokdifaaGreat
/- Layer 30: the network grows: a pool, a node; the pools are sorted. -/
namespace Go.Proofs.YtnkkaeblokdifaaGreat
open Go.RowKit Go.Shelf
set_option maxRecDepth 100000 in
theorem cmpPo_p (x y:Po):AU Tryz.prog 78 [.d (.ptr (.agg (poC x))),.d (.ptr (.agg (poC y)))] (AH (By x.r y.r)):=by
 refine B2 Tryz.func78 Z Z Tryz.ntmps78 Z Z Z fun F hF=>(AF (AJ (AD Z Z (AG (AF (Gp [[],[0],[0,1],[0,1,2],[],[4],[4,5],[4,5,6],[0,1,2,3,4,5,6,7],[0,1,2,3,4,5,6,7,8]] BF rfl (Hh ?_)))))))
 first | refine AE [0] [] Z Z (fun _=>AB (Be Z Z)) ?_ | refine AI [0] Z Z (fun _=>AB (Be Z Z)) ?_
 first | refine AE [5] [] Z Z (fun _=>AB (BS Z Z)) ?_ | refine AI [5] Z Z (fun _=>AB (BS Z Z)) ?_ | refine AE [5] [] Z Z (fun _=>AB (BQ Z Z)) ?_ | refine AI [5] Z Z (fun _=>AB (BQ Z Z)) ?_ | refine AE [5] [] Z Z (fun _=>AB (BT Z Z)) ?_ | refine AI [5] Z Z (fun _=>AB (BT Z Z)) ?_ | refine AE [5] [] Z Z (fun _=>AB (BR Z Z)) ?_ | refine AI [5] Z Z (fun _=>AB (BR Z Z)) ?_
 first | refine AE [6] [] Z Z (fun _=>AB (AM rfl GU Z Z Z)) ?_ | refine AI [6] Z Z (fun _=>AB (AM rfl GU Z Z Z)) ?_ | refine AE [6] [] Z Z (fun _=>AB (AO rfl GU Z Z Z)) ?_ | refine AI [6] Z Z (fun _=>AB (AO rfl GU Z Z Z)) ?_ | refine AE [6] [] Z Z (fun _=>AB (AP rfl GU Z Z Z)) ?_ | refine AI [6] Z Z (fun _=>AB (AP rfl GU Z Z Z)) ?_ | refine AE [6] [] Z Z (fun _=>AB (AN rfl GU Z Z Z)) ?_ | refine AI [6] Z Z (fun _=>AB (AN rfl GU Z Z Z)) ?_ | refine AE [6] [] Z Z (fun _=>AB (AL rfl GU Z Z Z)) ?_ | refine AI [6] Z Z (fun _=>AB (AL rfl GU Z Z Z)) ?_
 first | refine AE [7] [] Z Z (fun _=>AB (Av Z Z Ah rfl)) ?_ | refine AI [7] Z Z (fun _=>AB (Av Z Z Ah rfl)) ?_ | refine AE [7] [] Z Z (fun _=>AB (Aw Z Z Ah Z Z Z)) ?_ | refine AI [7] Z Z (fun _=>AB (Aw Z Z Ah Z Z Z)) ?_ | refine AE [7] [] Z Z (fun _=>AB (Ax Z Z (rfl) rfl Ah rfl)) ?_ | refine AI [7] Z Z (fun _=>AB (Ax Z Z (rfl) rfl Ah rfl)) ?_
 first | refine AE [1] [] Z Z (fun _=>AB (Be Z Z)) ?_ | refine AI [1] Z Z (fun _=>AB (Be Z Z)) ?_
 first | refine AE [9] [] Z Z (fun _=>AB (BS Z Z)) ?_ | refine AI [9] Z Z (fun _=>AB (BS Z Z)) ?_ | refine AE [9] [] Z Z (fun _=>AB (BQ Z Z)) ?_ | refine AI [9] Z Z (fun _=>AB (BQ Z Z)) ?_ | refine AE [9] [] Z Z (fun _=>AB (BT Z Z)) ?_ | refine AI [9] Z Z (fun _=>AB (BT Z Z)) ?_ | refine AE [9] [] Z Z (fun _=>AB (BR Z Z)) ?_ | refine AI [9] Z Z (fun _=>AB (BR Z Z)) ?_
 first | refine AE [10] [] Z Z (fun _=>AB (AM rfl GU Z Z Z)) ?_ | refine AI [10] Z Z (fun _=>AB (AM rfl GU Z Z Z)) ?_ | refine AE [10] [] Z Z (fun _=>AB (AO rfl GU Z Z Z)) ?_ | refine AI [10] Z Z (fun _=>AB (AO rfl GU Z Z Z)) ?_ | refine AE [10] [] Z Z (fun _=>AB (AP rfl GU Z Z Z)) ?_ | refine AI [10] Z Z (fun _=>AB (AP rfl GU Z Z Z)) ?_ | refine AE [10] [] Z Z (fun _=>AB (AN rfl GU Z Z Z)) ?_ | refine AI [10] Z Z (fun _=>AB (AN rfl GU Z Z Z)) ?_ | refine AE [10] [] Z Z (fun _=>AB (AL rfl GU Z Z Z)) ?_ | refine AI [10] Z Z (fun _=>AB (AL rfl GU Z Z Z)) ?_
 first | refine AE [11] [] Z Z (fun _=>AB (Av Z Z Ah rfl)) ?_ | refine AI [11] Z Z (fun _=>AB (Av Z Z Ah rfl)) ?_ | refine AE [11] [] Z Z (fun _=>AB (Aw Z Z Ah Z Z Z)) ?_ | refine AI [11] Z Z (fun _=>AB (Aw Z Z Ah Z Z Z)) ?_ | refine AE [11] [] Z Z (fun _=>AB (Ax Z Z (rfl) rfl Ah rfl)) ?_ | refine AI [11] Z Z (fun _=>AB (Ax Z Z (rfl) rfl Ah rfl)) ?_
 refine GR 8 Z Z Z (BC 9 Z Z (J (B1 (Ky x.r y.r) Z Z) (AG ⟨rfl,?_⟩)));refine BC 10 Z Z (AD Z Z (AG ⟨rfl,?_⟩));refine GQ (Ae ?_);exact ⟨_,[],[],Aa rfl,rfl,rfl,rfl,rfl⟩
theorem GC {M:MF} {bn b':Nat} {m m':BW} (hb:M bn=none) (h:M b'=some m):Cj M bn m' b'=some m:=by
 rw [PF]
 ·exact h
 ·rintro rfl;rw [hb] at h;cases h
theorem LM {M:MF} {bn:Nat} {m':BW} (hb:M bn=none) {h:Hd} {t:TypeId} {k:Nat} {xs:List D} (hr:BX M h t k xs):BX (Cj M bn m') h t k xs:=by
 match h,hr with
 | none,hr=>exact hr
 | some (b',c),hr=>exact ⟨hr.1,GC hb hr.2⟩
theorem CK.fresh {wb mv:Nat} {nb pb:Nat ->Nat} {N:Net} {M:MF} (h:CK wb mv nb pb N M) {bn:Nat} {m:BW} (hb:M bn=none):CK wb mv nb pb N (Cj M bn m):=
 ⟨fun i x hx=>GC hb (h.n i x hx),fun j y hy=>GC hb (h.p j y hy),⟨fun r=>LM hb (h.rs.1 r),h.rs.2⟩,GC hb h.w,h.ni,h.pi,h.e,h.q⟩
def MB (f:Nat ->Nat) (k b:Nat):Nat ->Nat:=fun j=>if j=k then b else f j
theorem DF {f:Nat ->Nat} {k b j:Nat} (h:j<k):MB f k b j=f j:=if_neg (by omega)
theorem Fo {f:Nat ->Nat} {k b:Nat}:MB f k b k=b:=if_pos rfl
theorem OR {f:Nat ->Nat} {k b:Nat}:(List.range (k+1)).map (fun j=>BK (MB f k b j))=(List.range k).map (fun j=>BK (f j))++ [BK b]:=by
 rw [List.range_succ,List.map_append,List.map_singleton,Fo]
 congr 1
 exact List.map_congr_left fun j hj=>by rw [DF (List.mem_range.1 hj)]
abbrev V1 (nh:Hd) (a:Nat) (mh:Hd) (c mv:Nat):BW:= .cells 103 [hdr nh a,hdr mh c,Kb (.map (some mv))]
theorem CK.keepM {wb mv:Nat} {nb pb:Nat ->Nat} {N:Net} {M:MF} (h:CK wb mv nb pb N M) {b:Nat} (hb:Bk M N.mh b=none) {v:BW} {b':Nat} {t:TypeId} {cs:List D} (hm:M b'=some (.cells t cs)):Cj (Bk M N.mh) b v b'=some (.cells t cs):=
 Go.Proofs.YtnkkaeblokdifaaGreat.keepM hb hm fun c hc=>by have:=h.rs.blk (r:= .m) hc;rw [hm] at this;cases this
theorem Kq {α:Type} (l:List α) (y d:α) (j:Nat):(l++ [y]).getD j d=if j=l.length then y else l.getD j d:=by
 rw [List.getD_eq_getElem?_getD,List.getD_eq_getElem?_getD,List.getElem?_append]
 split
 ·rw [if_neg (by omega)]
 ·split
  ·rename_i e;subst e;simp
  ·rw [List.getElem?_eq_none (by simp;omega),List.getElem?_eq_none (by omega)]
theorem getD_mem {α:Type} {l:List α} {d:α} (i:Nat):l.getD i d∈l∨l.getD i d=d:=by
 by_cases h:i<l.length
 ·left;rw [Bd d h];exact List.getElem_mem h
 ·right;rw [List.getD_eq_getElem?_getD,List.getElem?_eq_none (by omega)];rfl
theorem snoc_get {α:Type} {l:List α} {y z:α} {i:Nat} (h:(l++ [y])[i]?=some z):(i<l.length∧l[i]?=some z)∨(i=l.length∧z=y):=by
 rw [List.getElem?_append] at h
 split at h
 ·rename_i hi;exact .inl ⟨hi,h⟩
 ·rename_i hi
  right
  have:i - l.length=0:=by
   have:=(List.getElem?_eq_some_iff.1 h).1
   simp at this;omega
  rw [this] at h;exact ⟨by omega,(Option.some.inj h).symm⟩
theorem CK.addM {wb mv:Nat} {nb pb:Nat ->Nat} {N:Net} {M:MF} (h:CK wb mv nb pb N M) {y:Po} (hy:y.q=[]) (hyh:y.qh=none) {bn:Nat} (hM:M bn=some (SG y)) (hbn:∀j,j<N.po.length ->pb j≠bn) {b cap:Nat} (hb:Bk M N.mh b=none) (hl:N.po.length+1≤cap):
  CK wb mv nb (MB pb N.po.length bn) {N with po:=N.po++ [y],mh:=some (b,cap)} (Cj (Cj (Bk M N.mh) b (.row UB 1 cap ((List.range N.po.length).map (fun j=>BK (pb j))++ [BK bn]))) wb (V1 N.nh N.nd.length (some (b,cap)) (N.po.length+1) mv)):=by
 have hef:∀i,((N.nd.getD i Bc).ef.map (YY (MB pb N.po.length bn)))=(N.nd.getD i Bc).ef.map (YY pb):=fun i=>List.map_congr_left fun e he=>by
  rcases getD_mem (l:=N.nd) (d:=Bc) i with hm | hm
  ·show D.agg [pD (MB pb N.po.length bn e.1) 0,_]=_;rw [DF ((h.e _ hm).1 e he)]
  ·rw [hm] at he;cases he
 have hpl:∀i,((N.nd.getD i Bc).pl.map (plD (MB pb N.po.length bn)))=(N.nd.getD i Bc).pl.map (plD pb):=fun i=>List.map_congr_left fun e he=>by
  rcases getD_mem (l:=N.nd) (d:=Bc) i with hm | hm
  ·show D.agg [pD (MB pb N.po.length bn e.1) 0,_]=_;rw [DF ((h.e _ hm).2 e he)]
  ·rw [hm] at he;cases he
 have hR:∀r,r≠RI.m ->C3 nb (MB pb N.po.length bn) {N with po:=N.po++ [y],mh:=some (b,cap)} r=C3 nb pb N r:=fun r hr=>by
  cases r with
  | e i=>show (⟨_,_,_,(N.nd.getD i Bc).ef.map _⟩:RowM)=_;rw [hef];rfl
  | p i=>show (⟨_,_,_,(N.nd.getD i Bc).pl.map _⟩:RowM)=_;rw [hpl];rfl
  | n=>rfl
  | m=>exact absurd rfl hr
  | q j=>
   show (⟨((N.po++ [y]).getD j CC).qh,_,_,((N.po++ [y]).getD j CC).q.map _⟩:RowM)=⟨(N.po.getD j CC).qh,_,_,(N.po.getD j CC).q.map _⟩
   rw [Kq]
   split
   ·rename_i e
    rw [hy,hyh,List.getD_eq_getElem?_getD,List.getElem?_eq_none (by omega)];rfl
   ·rfl
 have hup:=h.rs.upd (R':=C3 nb (MB pb N.po.length bn) {N with po:=N.po++ [y],mh:=some (b,cap)}) .m hR (b:=b) (cap:=cap) hb rfl (by
  show ((List.range (N.po++ [y]).length).map _).length≤cap
  simp;exact hl)
 have hrow:(C3 nb (MB pb N.po.length bn) {N with po:=N.po++ [y],mh:=some (b,cap)} .m).xs=(List.range N.po.length).map (fun j=>BK (pb j))++ [BK bn]:=by
  show (List.range (N.po++ [y]).length).map _=_;rw [List.length_append,List.length_singleton,OR]
 rw [hrow] at hup
 have hk:∀(b':Nat) (t:TypeId) (cs:List D),t≠103 ->M b'=some (.cells t cs) ->Cj (Cj (Bk M N.mh) b (.row UB 1 cap ((List.range N.po.length).map (fun j=>BK (pb j))++ [BK bn]))) wb (V1 N.nh N.nd.length (some (b,cap)) (N.po.length+1) mv) b'=some (.cells t cs):=fun b' t cs ht hm=>by
  rw [PF]
  ·exact h.keepM hb hm
  ·rintro rfl;rw [h.w] at hm;injection hm with hm;injection hm with hm;exact ht hm.symm
 refine ⟨fun i x hx=>hk _ _ _ (by decide) (h.n i x hx),fun i z hz=>?_,hup.cells (h.keepM hb h.w),?_,h.ni,fun i k hi hk e=>?_,fun x hx=>?_,fun z hz=>?_⟩
 ·rcases snoc_get hz with ⟨h1,h2⟩ | ⟨h1,h2⟩
  ·rw [DF h1];exact hk _ _ _ (by decide) (h.p i z h2)
  ·subst h1 h2;rw [Fo];exact hk _ _ _ (by decide) hM
 ·rw [QC];show _=some (BW.cells _ [_,hdr _ (N.po++ [y]).length,_]);rw [List.length_append];rfl
 ·have hi':i<N.po.length+1:=by simpa using hi
  have hk':k<N.po.length+1:=by simpa using hk
  by_cases e1:i=N.po.length<;>by_cases e2:k=N.po.length
  ·omega
  ·subst e1;rw [Fo,DF (by omega)] at e;exact absurd e.symm (hbn k (by omega))
  ·subst e2;rw [Fo,DF (by omega)] at e;exact absurd e (hbn i (by omega))
  ·rw [DF (by omega),DF (by omega)] at e;exact h.pi i k (by omega) (by omega) e
 ·have:=h.e x hx;refine ⟨fun e he=>?_,fun e he=>?_⟩
  ·have:=this.1 e he;simp;omega
  ·have:=this.2 e he;simp;omega
 ·rcases List.mem_append.1 hz with hz | hz
  ·exact h.q z hz
  ·rw [List.mem_singleton.1 hz,hy];intro i hi;cases hi
theorem CK.perm {wb mv:Nat} {nb pb:Nat ->Nat} {N:Net} {M:MF} (h:CK wb mv nb pb N M) (hn:N.nd=[]) (hqn:∀y∈N.po,y.q=[]∧y.qh=none) {ys:List Nat} (hp:ys.Perm (List.range N.po.length)) {b cap:Nat} (hm:N.mh=some (b,cap)):
  CK wb mv nb (fun k=>pb (ys.getD k 0)) {N with po:=ys.map fun i=>N.po.getD i CC} (Cj M b (.row UB 1 cap (ys.map fun j=>BK (pb j)))):=by
 have hyl:ys.length=N.po.length:=by rw [hp.length_eq,List.length_range]
 have hys:∀k,k<ys.length ->ys.getD k 0<N.po.length:=fun k hk=>by
  rw [Bd 0 hk];exact List.mem_range.1 (hp.mem_iff.1 (List.getElem_mem hk))
 have hrow:=h.rs.blk (r:= .m) hm
 have hrl:=(h.rs.1 .m)
 rw [show (C3 nb pb N .m).h=some (b,cap) from hm] at hrl
 have hlen:N.po.length≤cap:=by
  have:=hrl.1;have e:((List.range N.po.length).map fun j=>BK (pb j)).length=N.po.length:=by simp
  exact e▸this
 have hk:∀(b':Nat) (t:TypeId) (cs:List D),M b'=some (.cells t cs) ->Cj M b (.row UB 1 cap (ys.map fun j=>BK (pb j))) b'=some (.cells t cs):=fun b' t cs hm'=>by
  rw [PF]
  ·exact hm'
  ·rintro rfl;rw [hrow] at hm';cases hm'
 have hq0:∀(l:List Po),(∀y∈l,y.q=[]∧y.qh=none) ->∀j,(l.getD j CC).q=[]∧(l.getD j CC).qh=none:=fun l hl j=>by
  rcases getD_mem (l:=l) (d:=CC) j with hm | hm
  ·exact hl _ hm
  ·rw [hm];exact ⟨rfl,rfl⟩
 have hqn':∀y∈ys.map fun i=>N.po.getD i CC,y.q=[]∧y.qh=none:=fun y hy=>by
  obtain ⟨i,_,rfl⟩:=List.mem_map.1 hy;exact hq0 _ hqn i
 refine ⟨fun i x hx=>?_,fun j y hy=>?_,⟨fun r=>?_,fun r r' b1 c c' h1 h2=>?_⟩,?_,h.ni,fun i k hi hk' e=>?_,fun x hx=>?_,fun y hy=>?_⟩
 ·have:N.nd[i]?=some x:=hx;rw [hn] at this;simp at this
 ·have hy':(ys.map fun i=>N.po.getD i CC)[j]?=some y:=hy;rw [List.getElem?_map] at hy'
  cases hj:ys[j]? with
  | none=>rw [hj] at hy';cases hy'
  | some i=>
   rw [hj] at hy';have e:y=N.po.getD i CC:=(Option.some.inj hy').symm;have hjl:=(List.getElem?_eq_some_iff.1 hj).1;have hi:=hys j hjl;rw [F6 hj] at hi;show Cj M b _ (pb (ys.getD j 0))=_;rw [F6 hj,e,Bd CC hi];exact hk _ _ _ (h.p i _ (List.getElem?_eq_getElem hi))
 ·cases r with
  | e i=> 
   have:N.nd.getD i Bc=Bc:=by rw [hn];rfl
   show BX _ (N.nd.getD i Bc).eh _ _ ((N.nd.getD i Bc).ef.map _);rw [this];rfl
  | p i=> 
   have:N.nd.getD i Bc=Bc:=by rw [hn];rfl
   show BX _ (N.nd.getD i Bc).ph _ _ ((N.nd.getD i Bc).pl.map _);rw [this];rfl
  | q j=>
   show BX _ ((ys.map fun i=>N.po.getD i CC).getD j CC).qh _ _ (((ys.map fun i=>N.po.getD i CC).getD j CC).q.map _);obtain ⟨e1,e2⟩:=hq0 _ hqn' j;rw [e1,e2];rfl
  | n=>
   have hnr:=h.rs.1 .n;show BX _ N.nh _ _ ((List.range N.nd.length).map _)
   cases hh:N.nh with
   | none=>show _=[];rw [hn];rfl
   | some p=>
    obtain ⟨b',c'⟩:=p;rw [show (C3 nb pb N .n).h=some (b',c') from hh] at hnr;refine ⟨by have:=hnr.1;exact this,?_⟩;rw [PF]
    ·exact hnr.2
    ·rintro rfl;exact absurd (h.rs.2 .n .m b' c' cap hh hm) (by intro e;cases e)
  | m=>
   show BX _ N.mh _ _ ((List.range (ys.map fun i=>N.po.getD i CC).length).map fun k=>BK (pb (ys.getD k 0)))
   have e:((List.range (ys.map fun i=>N.po.getD i CC).length).map fun k=>BK (pb (ys.getD k 0)))=ys.map fun j=>BK (pb j):=by
    apply List.ext_getElem (by simp)
    intro k h1 h2;simp only [List.getElem_map,List.getElem_range];rw [Bd 0 (by simpa using h2)]
   rw [e,hm];exact ⟨by rw [List.length_map,hyl];exact hlen,QC _ _ _⟩
 ·have hcase:∀r b1 c,(C3 nb (fun k=>pb (ys.getD k 0)) {N with po:=ys.map fun i=>N.po.getD i CC} r).h=some (b1,c) ->(C3 nb pb N r).h=some (b1,c):=fun r b1 c h1=>by
   cases r with
   | e i=>exact h1
   | p i=>exact h1
   | n=>exact h1
   | m=>exact h1
   | q j=>
    have h1':((ys.map fun i=>N.po.getD i CC).getD j CC).qh=some (b1,c):=h1;rw [(hq0 _ hqn' j).2] at h1';cases h1'
  exact h.rs.2 r r' b1 c c' (hcase _ _ _ h1) (hcase _ _ _ h2)
 ·have:=hk _ _ _ h.w;show _=some (BW.cells _ [_,hdr N.mh (ys.map fun i=>N.po.getD i CC).length,_]);rw [List.length_map,hyl];exact this
 ·have hi':i<ys.length:=by simpa using hi
  have hk2:k<ys.length:=by simpa using hk'
  have:=h.pi _ _ (hys i hi') (hys k hk2) e;rw [Bd 0 hi',Bd 0 hk2] at this;have hnd:ys.Nodup:=hp.nodup_iff.2 List.nodup_range;exact (List.getElem_inj hnd).1 this
 ·have:x∈N.nd:=hx;rw [hn] at this;cases this
 ·intro i hi;rw [(hqn' y hy).1] at hi;cases hi
end Go.Proofs.YtnkkaeblokdifaaGreat
/- Layer 30: the network of a problem, in closed form. Plain laws. -/
namespace Go.Proofs.YtnkkaeblokdifaaGreat
open Go.RowKit
theorem Xn {α β:Type} [DecidableEq α] {m:List (α×β)} {a:α} {b:β} (h:a∉m.map Prod.fst):BM m a b=m++ [(a,b)]:=by
 induction m with
 | nil=>rfl
 | cons p r ih=>
  obtain ⟨k,b'⟩:=p;simp only [List.map_cons,List.mem_cons,not_or] at h;simp only [BM,List.cons_append];rw [if_neg h.1,ih h.2]
theorem DS {α β:Type} [DecidableEq α] {m:List (α×β)} {a:α} {z:β} (h:a∉m.map Prod.fst):Ai m a z=z:=by
 induction m with
 | nil=>rfl
 | cons p r ih=>
  obtain ⟨k,b'⟩:=p;simp only [List.map_cons,List.mem_cons,not_or] at h;simp only [Ai];rw [if_neg h.1,ih h.2]
theorem DI {α β:Type} [DecidableEq α] {m:List (α×β)} {a k:α} {b z:β} (h:a≠k):Ai (m++ [(k,b)]) a z=Ai m a z:=by
 induction m with
 | nil=>simp only [List.nil_append,Ai];rw [if_neg h]
 | cons p r ih=>
  obtain ⟨k',b'⟩:=p;simp only [List.cons_append,Ai,ih]
theorem DR {α β:Type} [DecidableEq α] {m:List (α×β)} {a:α} {b z:β} (h:a∉m.map Prod.fst):Ai (m++ [(a,b)]) a z=b:=by
 induction m with
 | nil=>simp [Ai]
 | cons p r ih=>
  obtain ⟨k',b'⟩:=p;simp only [List.map_cons,List.mem_cons,not_or] at h;simp only [List.cons_append,Ai];rw [if_neg h.1,ih h.2]
def SE {α:Type} (d:α) (f:Nat ->Nat) (l:List α):List (α×Value):=(List.range l.length).map fun i=>(l.getD i d,pV (f i) 0)
theorem MK {α:Type} (d:α) (f:Nat ->Nat) (l:List α):(SE d f l).map Prod.fst=l:=by
 unfold SE;rw [List.map_map];refine List.ext_getElem (by simp) fun j h1 h2=>?_;simp only [List.getElem_map,List.getElem_range,Function.comp];exact Bd d h2
theorem Tc {α:Type} [DecidableEq α] {d:α} {f:Nat ->Nat} {l:List α} {a:α} {b:Nat} (h:a∉l):BM (SE d f l) a (pV b 0)=SE d (MB f l.length b) (l++ [a]):=by
 rw [Xn (by rw [MK];exact h)];unfold SE;rw [List.length_append,List.length_singleton,List.range_succ,List.map_append,List.map_singleton,Fo]
 congr 1
 ·refine List.map_congr_left fun i hi=>?_;have hi':=List.mem_range.1 hi;rw [DF hi',List.getD_eq_getElem?_getD,List.getD_eq_getElem?_getD,List.getElem?_append_left hi']
 ·rw [List.getD_eq_getElem?_getD,List.getElem?_append_right (Nat.le_refl _)];simp
theorem Td {α:Type} [DecidableEq α] [BEq α] [LawfulBEq α] {d:α} {f:Nat ->Nat} {l:List α} (hn:l.Nodup) {a:α} {z:Value} {i:Nat} (hi:i<l.length) (e:l[i]=a):Ai (SE d f l) a z=pV (f i) 0:=by
 refine ZcV (by rw [MK];exact hn) ?_;exact List.mem_map.2 ⟨i,List.mem_range.2 hi,by rw [Bd d hi,e]⟩
theorem tab_no {α:Type} [DecidableEq α] {d:α} {f:Nat ->Nat} {l:List α} {a:α} {z:Value} (h:a∉l):Ai (SE d f l) a z=z:=DS (by rw [MK];exact h)
def JL (rs:List A5) (i j:Nat):Int:=By (rs.getD i DZ) (rs.getD j DZ)
theorem Ox (rs:List A5):PC (JL rs):=Nv.comap fun i=>rs.getD i DZ
def Fv (rs:List A5):List Nat:=(List.range rs.length).mergeSort fun i j=>decide (JL rs i j≤0)
theorem WL (rs:List A5):(Fv rs).Perm (List.range rs.length):=List.mergeSort_perm _ _
theorem VB {rs:List A5} (hn:rs.Nodup) {ys:List Nat} (hp:ys.Perm (List.range rs.length)) (hs:ys.Pairwise fun a b=>¬JL rs b a<0):ys=Fv rs:=by
 have key:∀zs:List Nat,zs.Perm (List.range rs.length) ->(zs.Pairwise fun a b=>¬JL rs b a<0) ->zs.Pairwise fun a b=>JL rs a b<0:=fun zs hz hs=>by
  have hnd:zs.Pairwise fun a b=>a≠b:=hz.nodup_iff.2 List.nodup_range;have hm:∀x∈zs,x<rs.length:=fun x hx=>List.mem_range.1 (hz.mem_iff.1 hx);refine List.Pairwise.imp_of_mem (fun {a b} ha hb h=>?_) (hs.and hnd);have h1:=(Ox rs).anti a b
  by_cases h0:JL rs a b=0
  ·exfalso
   have h3:=Dj.1 h0;rw [Bd DZ (hm a ha),Bd DZ (hm b hb)] at h3;exact h.2 ((List.getElem_inj hn).1 h3)
  ·have:=h.1;omega
 refine D4 (R:=fun a b=>JL rs a b<0) (fun x=>by rw [(Ox rs).refl];omega) (fun x y z=>(Ox rs).trans x y z) (key ys hp hs) (key _ (WL rs) ?_) fun x=>hp.mem_iff.trans (WL rs).mem_iff.symm;have:=List.pairwise_mergeSort (le:=fun i j=>decide (JL rs i j≤0)) (fun a b c h1 h2=>?_) (fun a b=>?_) (List.range rs.length)
 ·refine List.Pairwise.imp (fun {a b} h=>?_) this;have h1:=(Ox rs).anti a b;have h2:JL rs a b≤0:=by simpa using h
  omega
 ·have h1':JL rs a b≤0:=by simpa using h1
  have h2':JL rs b c≤0:=by simpa using h2
  have:JL rs a c≤0:=by
   by_cases e1:JL rs a b=0
   ·rw [(Ox rs).eqv a b c e1];exact h2'
   ·by_cases e2:JL rs b c=0
    ·have a1:=(Ox rs).anti b c;have e3:=(Ox rs).eqv c b a (by omega);have a2:=(Ox rs).anti a c;have a3:=(Ox rs).anti a b;omega
    ·have:=(Ox rs).trans a b c (by omega) (by omega);omega
  simpa using this
 ·have h1:=(Ox rs).anti a b
  by_cases h:JL rs a b≤0
  ·simp [h]
  ·have:JL rs b a≤0:=by omega
   simp [this]
abbrev Br (D:List (A5×Int)) (r:A5):Int:=Ai D r 0
def negQ (ds:List (List (A5×Int))) (r:A5):List Nat:=(List.range ds.length).filter fun i=>decide (Br (ds.getD i []) r<0)
def I0 (x:Roo):Po:=⟨x.r,x.n,0,none,[],0⟩
def Sn (ds:List (List (A5×Int))) (x:Roo):Po:=⟨x.r,x.n,(ds.map fun D=>Br D x.r).sum,none,negQ ds x.r,0⟩
def efK (rs:List A5) (D:List (A5×Int)):List (Nat×Int):=(D.filter fun d=>decide (d.1∈rs)).map fun d=>(rs.idxOf d.1,d.2)
def plK (rs:List A5) (ds:List (List (A5×Int))) (D:List (A5×Int)):List (Nat×Nat):=(D.filter fun d=>decide (d.1∈rs) && decide (d.2<0)).map fun d=>(rs.idxOf d.1,(negQ ds d.1).length)
def Xj (rs:List A5) (ds:List (List (A5×Int))) (x:AT) (D:List (A5×Int)):Nd:=⟨x,none,efK rs D,none,plK rs ds D,true⟩
def H3 (rs:List A5) (its:List AT) (k:Nat):List Nd:=(List.range k).map fun i=>Xj rs ((its.map dltS).take i) (its.getD i itm0) (dltS (its.getD i itm0))
def FI (ro:List Roo) (its:List AT) (k:Nat):Net:=⟨H3 (ro.map Roo.r) its k,ro.map (Sn ((its.map dltS).take k)),none,none⟩
def EM (ro:List Roo) (its:List AT) (k t:Nat):Net:=⟨H3 (ro.map Roo.r) its k++ [Xj (ro.map Roo.r) ((its.map dltS).take k) (its.getD k itm0) ((dltS (its.getD k itm0)).take t)],ro.map (Sn ((its.map dltS).take k++ [(dltS (its.getD k itm0)).take t])),none,none⟩
theorem Oh {α:Type} (p:α ->Bool) (d:α):[d].filter p=if p d=true then [d] else []:=by
 cases h:p d<;>simp [List.filter,h]
theorem TO {rs:List A5} {T:List (A5×Int)} {d:A5×Int} (h:d.1∈rs):efK rs (T++ [d])=efK rs T++ [(rs.idxOf d.1,d.2)]:=by
 unfold efK;rw [List.filter_append,Oh,if_pos (decide_eq_true h),List.map_append];rfl
theorem Pk {rs:List A5} {T:List (A5×Int)} {d:A5×Int} (h:d.1∉rs):efK rs (T++ [d])=efK rs T:=by
 unfold efK;rw [List.filter_append,Oh,if_neg (by simp only [decide_eq_true_eq];exact h),List.append_nil]
theorem XO {rs:List A5} {ds:List (List (A5×Int))} {T:List (A5×Int)} {d:A5×Int} (h:d.1∈rs) (h2:d.2<0):plK rs ds (T++ [d])=plK rs ds T++ [(rs.idxOf d.1,(negQ ds d.1).length)]:=by
 unfold plK;rw [List.filter_append,Oh,if_pos (by rw [decide_eq_true h,decide_eq_true h2];rfl),List.map_append];rfl
theorem PZ {rs:List A5} {ds:List (List (A5×Int))} {T:List (A5×Int)} {d:A5×Int} (h:¬(d.1∈rs∧d.2<0)):plK rs ds (T++ [d])=plK rs ds T:=by
 unfold plK;rw [List.filter_append,Oh,if_neg (by rw [Bool.and_eq_true,decide_eq_true_eq,decide_eq_true_eq];exact h),List.append_nil]
theorem V8 (ds:List (List (A5×Int))) (D:List (A5×Int)) (r:A5):negQ (ds++ [D]) r=negQ ds r++if Br D r<0 then [ds.length] else []:=by
 unfold negQ;rw [List.length_append,List.length_singleton,List.range_succ,List.filter_append]
 congr 1
 ·refine List.filter_congr fun i hi=>?_;have hi':=List.mem_range.1 hi;rw [List.getD_eq_getElem?_getD,List.getElem?_append_left hi',←List.getD_eq_getElem?_getD]
 ·have e:(ds++ [D]).getD ds.length []=D:=by rw [List.getD_eq_getElem?_getD,List.getElem?_append_right (Nat.le_refl _)];simp
  rw [Oh,e]
  by_cases h:Br D r<0
  ·rw [if_pos (decide_eq_true h),if_pos h]
  ·rw [if_neg (by simpa using h),if_neg h]
theorem EJ (ds:List (List (A5×Int))) (D:List (A5×Int)) (x:Roo):Sn (ds++ [D]) x=⟨x.r,x.n,(Sn ds x).sum+Br D x.r,none,(Sn ds x).q++(if Br D x.r<0 then [ds.length] else []),0⟩:=by
 unfold Sn;rw [V8,List.map_append,List.sum_append]
 simp
theorem V4 {ro:List Roo} {its:List AT} {k:Nat}:EM ro its k 0=⟨(FI ro its k).nd++ [⟨its.getD k itm0,none,[],none,[],true⟩],(FI ro its k).po,none,none⟩:=by
 unfold EM FI
 congr 1
 refine List.map_congr_left fun x _=>?_;rw [EJ];unfold Sn
 simp [Br,Ai]
theorem V6 {ro:List Roo} {its:List AT} {k:Nat} (hk:k<its.length):EM ro its k (dltS (its.getD k itm0)).length=FI ro its (k+1):=by
 unfold EM FI H3;rw [List.take_length,List.range_succ,List.map_append,List.map_singleton]
 congr 1
 have:(its.map dltS).take (k+1)=(its.map dltS).take k++ [dltS (its.getD k itm0)]:=by
  rw [List.take_succ_eq_append_getElem (by simpa using hk),List.getElem_map,Bd itm0 hk]
 rw [this]
theorem V5 {ro:List Roo} {its:List AT} {k t:Nat} (ht:t<(dltS (its.getD k itm0)).length) (hr:((dltS (its.getD k itm0))[t]).1∉ro.map Roo.r):EM ro its k (t+1)=EM ro its k t:=by
 unfold EM
 obtain ⟨D,hD⟩:∃D,dltS (its.getD k itm0)=D:=⟨_,rfl⟩
 obtain ⟨d,hd⟩:∃d,(dltS (its.getD k itm0))[t]=d:=⟨_,rfl⟩
 rw [hd] at hr;rw [List.take_succ_eq_append_getElem ht,hd]
 have e1:∀(ds:List (List (A5×Int))) (T:List (A5×Int)),Xj (ro.map Roo.r) ds (its.getD k itm0) (T++ [d])=Xj (ro.map Roo.r) ds (its.getD k itm0) T:=fun ds T=>by
  unfold Xj;rw [Pk hr,PZ (fun h=>hr h.1)]
 rw [e1]
 congr 1
 refine List.map_congr_left fun x hx=>?_;have hne:x.r≠d.1:=fun e=>hr (e▸List.mem_map.2 ⟨x,hx,rfl⟩);rw [EJ,EJ];have:Br ((dltS (its.getD k itm0)).take t++ [d]) x.r=Br ((dltS (its.getD k itm0)).take t) x.r:=DI hne;rw [this]
theorem Zc4 (x:AT):((dltS x).map Prod.fst).Nodup:=by
 unfold dltS
 split
 ·have:=KM (ctr x);show ((Kx (ctr x)).map Prod.fst).Pairwise _;rw [List.pairwise_map];refine this.imp fun {a b} h e=>?_;rw [e,Nv.refl] at h;omega
 ·exact List.nodup_nil
theorem V7 {ro:List Roo} (hro:(ro.map Roo.r).Nodup) {its:List AT} {k t j:Nat} (hk:k≤its.length) (ht:t<(dltS (its.getD k itm0)).length) (hj:j<ro.length) (hr:(ro.map Roo.r).idxOf ((dltS (its.getD k itm0))[t]).1=j) (hm:((dltS (its.getD k itm0))[t]).1∈ro.map Roo.r) {x:Nd} {y:Po} (hx:(EM ro its k t).nd[k]?=some x) (hy:(EM ro its k t).po[j]?=some y):
  EM ro its k (t+1)=⟨(EM ro its k t).nd.set k (jnX x j y.q.length ((dltS (its.getD k itm0))[t]).2),(EM ro its k t).po.set j (jnY y k ((dltS (its.getD k itm0))[t]).2),none,none⟩:=by
 obtain ⟨d,hd⟩:∃d,(dltS (its.getD k itm0))[t]=d:=⟨_,rfl⟩
 rw [hd] at hr hm⊢
 have hdn:d.1∉((dltS (its.getD k itm0)).take t).map Prod.fst:=fun h=>by
  have h1:=Zc4 (its.getD k itm0);rw [←List.take_append_drop t (dltS (its.getD k itm0)),List.drop_eq_getElem_cons ht,hd,List.map_append,List.map_cons,List.nodup_append] at h1;exact h1.2.2 _ h _ (List.mem_cons_self ..) rfl
 have hl:(H3 (ro.map Roo.r) its k).length=k:=by unfold H3;simp
 have hdsl:((its.map dltS).take k).length=k:=by simp;omega
 have ex:x=Xj (ro.map Roo.r) ((its.map dltS).take k) (its.getD k itm0) ((dltS (its.getD k itm0)).take t):=by
  have hx':(H3 (ro.map Roo.r) its k++ [Xj (ro.map Roo.r) ((its.map dltS).take k) (its.getD k itm0) ((dltS (its.getD k itm0)).take t)])[k]?=some x:=hx;rw [List.getElem?_append_right (by omega),hl,Nat.sub_self] at hx';exact (Option.some.inj hx').symm
 have hy':(ro.map (Sn ((its.map dltS).take k++ [(dltS (its.getD k itm0)).take t])))[j]?=some y:=hy;rw [List.getElem?_map,List.getElem?_eq_getElem hj] at hy';have ey:y=Sn ((its.map dltS).take k++ [(dltS (its.getD k itm0)).take t]) ro[j]:=(Option.some.inj hy').symm
 have hrj:ro[j].r=d.1:=by
  have h1:=List.getElem_idxOf (List.idxOf_lt_length_of_mem hm);simp only [hr,List.getElem_map] at h1;exact h1
 have ha0:Br ((dltS (its.getD k itm0)).take t) d.1=0:=DS hdn
 have hyq:y.q.length=(negQ ((its.map dltS).take k) d.1).length:=by
  rw [ey,EJ,hrj,ha0];show (negQ _ _++_).length=_;rw [hrj];simp
 unfold EM;rw [List.take_succ_eq_append_getElem ht,hd]
 congr 1
 ·rw [List.set_append_right _ _ (by omega),hl,Nat.sub_self,List.set_cons_zero]
  congr 2
  rw [ex];unfold Xj jnX;rw [TO hm,hr,hyq]
  by_cases h0:d.2<0
  ·rw [XO hm h0,hr,if_pos h0]
  ·rw [PZ (fun h=>h0 h.2),if_neg h0]
 ·refine List.ext_getElem? fun i=>?_;rw [List.getElem?_set]
  by_cases e:j=i
  ·subst e;rw [if_pos rfl,if_pos (by simpa using hj),List.getElem?_map,List.getElem?_eq_getElem hj];show some _=some _
   congr 1
   rw [ey];unfold jnY;rw [EJ,EJ,hrj];have h1:Br ((dltS (its.getD k itm0)).take t++ [d]) d.1=d.2:=DR hdn;rw [h1,ha0,hdsl,hrj.symm];simp only [Int.add_zero,Po.mk.injEq,true_and,and_true]
   by_cases h0:d.2<0
   ·simp [h0]
   ·simp [h0]
  ·rw [if_neg e,List.getElem?_map,List.getElem?_map]
   cases hi:ro[i]? with
   | none=>rfl
   | some z=>
    show some _=some _
    congr 1
    have hil:=(List.getElem?_eq_some_iff.1 hi)
    have hne:z.r≠d.1:=fun e2=>e (by
     have h1:(ro.map Roo.r)[j]'(by simpa using hj)=(ro.map Roo.r)[i]'(by simpa using hil.1):=by
      rw [List.getElem_map,List.getElem_map,hil.2,hrj,e2]
     exact (List.getElem_inj hro).1 h1)
    rw [EJ,EJ];have:Br ((dltS (its.getD k itm0)).take t++ [d]) z.r=Br ((dltS (its.getD k itm0)).take t) z.r:=DI hne;rw [this]
end Go.Proofs.YtnkkaeblokdifaaGreat
/- Layer 30: what the building of a network needs. -/
namespace Go.Proofs.YtnkkaeblokdifaaGreat
open Go.RowKit Go.Shelf
set_option maxRecDepth 100000
def nrm1:D ->D
 | .sl (some true) []=> .raw (.slice none 0 0)
 | x=>x
def nrm:D ->D
 | .agg cs=> .agg (cs.map nrm1)
 | x=>nrm1 x
theorem X8 (x:D):(nrm1 x).one=x.one:=by
 unfold nrm1
 split<;>rfl
theorem A1.nrm1 {w:World} {O:Nat ->Prop} {x:D} {v:Value} (h:A1 w O x v):A1 w O (nrm1 x) v:=by
 unfold Go.Proofs.YtnkkaeblokdifaaGreat.nrm1
 split
 ·cases h with
  | sl k hn hz hln hc hm hk ha hp=>
   rename_i a n cap
   have h1:=hn true rfl
   have h2:a=none:=by cases a with
    | none=>rfl
    | some _=>cases h1
   subst h2;have h3:=hz rfl;have h4:n=0:=hln.symm;subst h3 h4;exact .raw rfl
 ·exact h
theorem A1.nrm {w:World} {O:Nat ->Prop} {x:D} {v:Value} (h:A1 w O x v):A1 w O (nrm x) v:=by
 unfold Go.Proofs.YtnkkaeblokdifaaGreat.nrm
 split
 ·rename_i cs
  cases h with
  | agg hl h1 hr=>
   refine .agg (by rw [hl,List.length_map]) (fun c hc=>?_) fun i c v hc hv=>?_
   ·obtain ⟨d,hd,rfl⟩:=List.mem_map.1 hc;rw [X8];exact h1 d hd
   ·rw [List.getElem?_map] at hc
    cases hd:cs[i]? with
    | none=>rw [hd] at hc;cases hc
    | some d=>
     rw [hd] at hc;injection hc with hc;subst hc
     exact (hr i d v hd hv).nrm1
 ·exact h.nrm1
section
variable {P:Program} {F:Fr} {Q:Exit ->AS ->Prop} {ops:Array Oper} {l:List Oper} {n:Nat} {env:List (Nat×AV)} {hp:Hp}
theorem X5 (t:Nat) {x:D} (ht:get env t=some (.d x)) (h:Aq P F ops l Q ⟨n,(t,.d (nrm x))::env,hp⟩):Aq P F ops l Q ⟨n,env,hp⟩:=fun ρ act w hs=>h ρ act w ⟨hs.size,hs.defs,fun t' a ha=>by
 rcases KX ha with ⟨rfl,rfl⟩ | ⟨_,ha⟩
 ·have hr:=hs.env t _ ht
  generalize act.tmps.getD t undef=v at hr⊢
  cases hr with
  | d h=>exact .d h.nrm
 ·exact hs.env t' a ha,hs.heap⟩
end
def Wh (M:MF) (h:Hd) (E:TypeId) (ys:List D):MF:=match h with
 | none=>M
 | some (b,c)=>Cj M b (.row E 1 c ys)
theorem Vk {f:Nat} {M:MF}:∀(H H':Hp),hfam H f=some [.multi M] ->CN H f M=some H' ->H'=H:=by
 intro H
 induction H with
 | nil=>intro H' h;cases h
 | cons p r ih=>
  obtain ⟨k,l⟩:=p;intro H' h1 h2;simp only [hfam] at h1;simp only [CN] at h2
  cases hk:Nat.beq k f with
  | true=>
   rw [hk] at h1 h2;injection h1 with h1
   subst h1;simp only [isM] at h2;injection h2 with h2;exact h2.symm
  | false=>
   rw [hk] at h1 h2;dsimp only at h1 h2
   cases hr:CN r f M with
   | none=>rw [hr] at h2;cases h2
   | some r'=>
    rw [hr] at h2;injection h2 with h2
    rw [←h2,ih r' h1 hr]
theorem W9 {P:Program} {ρr:Ren} {τ:Type} (L:SlLaysF.n6 P ρr) {E:TypeId} {g g6:FuncId} {fn:Func} (hfn:P.funcs[g]?=some fn) (hnm:(fn.name== "runtime.NumGoroutine")=false) {c:Code} (hbody:fn.body=some c)
  {bl:τ ->Nat} {px:τ ->List D} {tx:τ ->TypeId} (cf:τ ->τ ->Int) (hO:Go.Sort.SWO (ltOf cf)) (xs ys0:List τ) (hsz:xs.length<4611686018427387904) (hc:∀x∈xs,∀y∈xs,AU P g [.d (.ptr (.agg (px x))),.d (.ptr (.agg (px y)))] (.raw (.int .i64 (cf x y))))
  (hu:∀ys:List τ,ys.Perm xs ->ys.Pairwise (fun a b=>¬cf b a<0) ->ys=ys0)
  {F:Fr} {s:AS} {d:Nat} {x y:Operand} {ty:TypeId} {pos:String} {aft:Array Edge} {gd:Option (Nat×Bool)} {at_:Array TypeId} {f n:Nat} {h:Hd} {M:MF} {fa:AV} {row:List D} {hp':Hp}
  (hg:ρr.f 6=g6) (hM:hfam s.hp f=some [.multi M]) (hpx:∀x∈xs,M (bl x)=some (.cells (tx x) (px x))) (h1x:∀x∈xs,∀c∈px x,c.one=true) (hx:s.ev x=some (.d (hdr h n))) (hy:s.ev y=some fa) (hfa:∀w O ρ v,A3 w O ρ fa v ->v= .func (.func g) #[] #[]) (hb:BX M h E 1 row) (hrow:row=xs.map fun x=>pD (bl x) 0) (hn:n=xs.length) (hxh:h≠none ->xs≠ []) (hh:CN s.hp f (Wh M h E (ys0.map fun x=>pD (bl x) 0))=some hp') (hd:Nat.blt d s.n=true):
  AR P F ⟨some d,.call {callee:= .value (.func g6),args:= #[x,y],argTypes:=at_},ty,pos,aft,gd⟩ s ⟨s.n,(d,.d (.tup []))::s.env,hp'⟩ (fun _ _=>true):=by
 match h,hx,hb,hh,hxh with
 | none,hx,hb,hh,_=>
  rw [Vk _ _ hM hh];exact Uv L hg hx hy hd
 | some (b,cap),hx,hb,hh,hxh=>exact W8 L hfn hnm hbody cf hO xs ys0 hsz hc hu hg hM hpx h1x hx hy hfa hb.2 hrow hn (hxh (by simp)) hh hd
theorem rep0 (wb mv:Nat) (nb pb:Nat ->Nat) {M:MF} (hw:M wb=some (V1 none 0 none 0 mv)):CK wb mv nb pb ⟨[],[],none,none⟩ M:=by
 refine ⟨fun i x hx=>by simp at hx,fun j y hy=>by simp at hy,⟨fun r=>?_,fun r r' b c c' h1 h2=>?_⟩,hw,fun i j hi _=>by simp at hi,fun i j hi _=>by simp at hi,fun x hx=>(by cases hx),fun y hy=>(by cases hy)⟩
 ·cases r<;>rfl
 ·cases r<;>cases h1
structure Gr (p:Prb):Prop where
 i:p.it.length≤30
 r:p.ro.length≤100
 x:∀x∈p.it,x.po.length≤12∧x.pa.length≤12∧x.af.length≤12
def ZC (x:AT):Prop:=x.po.length≤12∧x.pa.length≤12∧x.af.length≤12
theorem Gr.b {p:Prb} (h:Gr p):D1 p:=⟨by have:=h.r;omega,by have:=h.i;omega,fun i hi=>by have:=h.x i hi;omega⟩
theorem P5 {α β:Type} {l:List (α×β)} (h:(l.map Prod.fst).Nodup):l.Nodup:=by
 have h':(l.map Prod.fst).Pairwise (fun a b=>a≠b):=h;rw [List.pairwise_map] at h';exact h'.imp fun {a b} h e=>h (by rw [e])
theorem KK {x:AT} (h:ZC x):(dltS x).length≤60:=by
 unfold dltS
 split
 ·have h1:(dltL x).length≤(ctr x).length:=by
   have h2:(Kx (ctr x)).length≤(sumL (ctr x)).length:=by
    have hp:(Kx (ctr x)).Perm ((sumL (ctr x)).filter fun d=>decide (d.2≠0)):=by
     refine (List.perm_ext_iff_of_nodup ?_ ?_).2 fun d=>?_
     ·have:=KM (ctr x);refine this.imp fun {a b} h e=>?_;rw [e,Nv.refl] at h;omega
     ·exact (P5 (Ik (ctr x))).filter _
     ·rw [Hi,List.mem_filter];simp
    rw [hp.length_eq];exact List.length_filter_le _ _
   exact Nat.le_trans h2 (LH _)
  have:=NN x;have:=h.1;have:=h.2.1;omega
 ·exact Nat.zero_le _
theorem KL (x:AT):QL (dltS x):=by
 unfold dltS
 split
 ·rename_i hE
  intro d hd;exact bnd_E hE d ((Hi _ _).1 hd).1
 ·intro d hd;cases hd
theorem Uc {D:List (A5×Int)} (h:QL D) (r:A5): -1000000000000000≤Br D r∧Br D r≤1000000000000000:=by
 unfold Br
 induction D with
 | nil=>simp [Ai]
 | cons d D ih=>
  obtain ⟨k,b⟩:=d;simp only [Ai]
  split
  ·exact h (k,b) (List.mem_cons_self ..)
  ·exact ih fun x hx=>h x (List.mem_cons_of_mem _ hx)
theorem Th:∀{ds:List (List (A5×Int))} (_:∀D∈ds,QL D) (r:A5),-(ds.length*1000000000000000)≤(ds.map fun D=>Br D r).sum∧(ds.map fun D=>Br D r).sum≤ds.length*1000000000000000
 | [],_,r=>by simp
 | D::ds,h,r=>by
  have h1:=Uc (h D (List.mem_cons_self ..)) r;have h2:=Th (ds:=ds) (fun D hD=>h D (List.mem_cons_of_mem _ hD)) r;simp only [List.map_cons,List.sum_cons,List.length_cons];omega
theorem Jx (ds:List (List (A5×Int))) (r:A5):(negQ ds r).length≤ds.length:=by
 unfold negQ;refine Nat.le_trans (List.length_filter_le _ _) ?_
 simp
theorem U5 (rs:List A5) (D:List (A5×Int)):(efK rs D).length≤D.length:=by
 unfold efK;rw [List.length_map];exact List.length_filter_le _ _
theorem UD (rs:List A5) (ds:List (List (A5×Int))) (D:List (A5×Int)):(plK rs ds D).length≤D.length:=by
 unfold plK;rw [List.length_map];exact List.length_filter_le _ _
theorem YW {N:Net} {i:Nat} {x:Nd} (h:N.nd[i]?=some x):(Ap N).nd[i]?=some (Dz x):=by
 show (N.nd.map Dz)[i]?=_;rw [List.getElem?_map,h];rfl
theorem YV {N:Net} {i:Nat} {y:Po} (h:N.po[i]?=some y):(Ap N).po[i]?=some (CZ y):=by
 show (N.po.map CZ)[i]?=_;rw [List.getElem?_map,h];rfl
theorem Yw {ro:List Roo} {its:List AT} (hi:its.length≤30) (hx:∀x∈its,ZC x) {k t j:Nat} (hk:k<its.length) {N:Net} (h:Ap N=EM ro its k t) {x:Nd} {y:Po} (h1:N.nd[k]?=some x) (h2:N.po[j]?=some y):
  (-1000000000000000000≤y.sum∧y.sum≤1000000000000000000)∧x.ef.length≤100000∧x.pl.length≤100000∧y.q.length≤100000:=by
 have a1:=YW h1;have a2:=YV h2;rw [h] at a1 a2;have hl:(H3 (ro.map Roo.r) its k).length=k:=by unfold H3;simp
 have hdl:(dltS (its.getD k itm0)).length≤60:=KK (hx _ (by rw [Bd itm0 hk];exact List.getElem_mem hk));have a1':(H3 (ro.map Roo.r) its k++ [Xj (ro.map Roo.r) ((its.map dltS).take k) (its.getD k itm0) ((dltS (its.getD k itm0)).take t)])[k]?=some (Dz x):=a1;rw [List.getElem?_append_right (by omega),hl,Nat.sub_self] at a1';have ex:Dz x=_:=(Option.some.inj a1').symm;have e1:x.ef=(Dz x).ef:=rfl;have e2:x.pl=(Dz x).pl:=rfl;have a2':(ro.map (Sn ((its.map dltS).take k++ [(dltS (its.getD k itm0)).take t])))[j]?=some (CZ y):=a2;rw [List.getElem?_map] at a2'
 cases hj:ro[j]? with
 | none=>rw [hj] at a2';cases a2'
 | some z=>
  rw [hj] at a2';have ey:CZ y=Sn ((its.map dltS).take k++ [(dltS (its.getD k itm0)).take t]) z:=(Option.some.inj a2').symm;have e3:y.sum=(CZ y).sum:=rfl;have e4:y.q=(CZ y).q:=rfl;have hds:((its.map dltS).take k++ [(dltS (its.getD k itm0)).take t]).length≤31:=by simp;omega
  have hb:=Th (ds:=(its.map dltS).take k++ [(dltS (its.getD k itm0)).take t]) (fun D hD=>by
   rcases List.mem_append.1 hD with hD | hD
   ·obtain ⟨x,_,rfl⟩:=List.mem_map.1 (List.mem_of_mem_take hD);exact KL x
   ·rw [List.mem_singleton.1 hD];exact (KL _).take t) z.r
  have hq:=Jx ((its.map dltS).take k++ [(dltS (its.getD k itm0)).take t]) z.r;have he:=U5 (ro.map Roo.r) ((dltS (its.getD k itm0)).take t);have hp:=UD (ro.map Roo.r) ((its.map dltS).take k) ((dltS (its.getD k itm0)).take t);rw [List.length_take] at he hp;rw [e1,e2,e3,e4,ex,ey];unfold Sn Xj;dsimp only
  generalize (List.map (fun D=>Br D z.r) (List.take k (List.map dltS its)++ [List.take t (dltS (its.getD k itm0))])).sum=S at hb⊢
  generalize (List.take k (List.map dltS its)++ [List.take t (dltS (its.getD k itm0))]).length=m at*
  omega
theorem T_step {ro:List Roo} (hro:(ro.map Roo.r).Nodup) {its:List AT} {k t j:Nat} (hk:k<its.length) (ht:t<(dltS (its.getD k itm0)).length) {N N':Net} (h:Ap N=EM ro its k t) (hr:(ro.map Roo.r).idxOf ((dltS (its.getD k itm0))[t]).1=j) (hm:((dltS (its.getD k itm0))[t]).1∈ro.map Roo.r) {x x':Nd} {y y':Po} (h1:N.nd[k]?=some x) (h2:N.po[j]?=some y)
  (e1:N'.nd=N.nd.set k x') (ex:Dz x'=Dz (jnX x j y.q.length ((dltS (its.getD k itm0))[t]).2)) (e2:N'.po=N.po.set j y') (ey:CZ y'=CZ (jnY y k ((dltS (its.getD k itm0))[t]).2)):Ap N'=EM ro its k (t+1):=by
 have a1:=YW h1;have a2:=YV h2
 have hj:j<ro.length:=by
  have:=List.idxOf_lt_length_of_mem hm;rw [hr] at this;simpa using this
 rw [h] at a1 a2;rw [V7 hro (Nat.le_of_lt hk) ht hj hr hm a1 a2,←h];unfold Ap;dsimp only;rw [e1,e2,List.map_set,List.map_set,ex,ey]
 rfl
theorem FF.del {M:MF} {R:RI ->RowM} (h:FF M R) {b:Nat} {t:TypeId} {cs:List D} (hb:M b=some (.cells t cs)):FF (ET M b) R:=by
 refine ⟨fun r=>?_,h.2⟩;have h1:=h.1 r
 cases hh:(R r).h with
 | none=>rw [hh] at h1;exact h1
 | some p=>
  obtain ⟨b',c⟩:=p;rw [hh] at h1;refine ⟨h1.1,?_⟩;rw [Gd]
  ·exact h1.2
  ·rintro rfl;have:=h1.2;rw [hb] at this;cases this
theorem CK.addN2 {wb mv:Nat} {nb pb:Nat ->Nat} {N:Net} {M:MF} (h:CK wb mv nb pb N M) {x:Nd} (hx1:x.ef=[]) (hx2:x.eh=none) (hx3:x.pl=[]) (hx4:x.ph=none) {bn:Nat} (hM:M bn=some (SH x)) (hbn:∀j,j<N.nd.length ->nb j≠bn) {b cap:Nat} (hb:Bk (ET M wb) N.nh b=none) (hl:N.nd.length+1≤cap) {wb':Nat} (hw':Cj (Bk (ET M wb) N.nh) b (.row XN 1 cap ((List.range N.nd.length).map (fun j=>BK (nb j))++ [BK bn])) wb'=none):
  CK wb' mv (MB nb N.nd.length bn) pb {N with nd:=N.nd++ [x],nh:=some (b,cap)} (Cj (Cj (Bk (ET M wb) N.nh) b (.row XN 1 cap ((List.range N.nd.length).map (fun j=>BK (nb j))++ [BK bn]))) wb' (V1 (some (b,cap)) (N.nd.length+1) N.mh N.po.length mv)):=by
 have hq:∀j,((N.po.getD j CC).q.map fun i=>BK (MB nb N.nd.length bn i))=(N.po.getD j CC).q.map fun i=>BK (nb i):=fun j=>List.map_congr_left fun e he=>by
  rcases getD_mem (l:=N.po) (d:=CC) j with hm | hm
  ·rw [DF (h.q _ hm e he)]
  ·rw [hm] at he;cases he
 have hR:∀r,r≠RI.n ->C3 (MB nb N.nd.length bn) pb {N with nd:=N.nd++ [x],nh:=some (b,cap)} r=C3 nb pb N r:=fun r hr=>by
  cases r with
  | q j=>show (⟨_,_,_,(N.po.getD j CC).q.map _⟩:RowM)=_;rw [hq];rfl
  | m=>rfl
  | n=>exact absurd rfl hr
  | e i=>
   show (⟨((N.nd++ [x]).getD i Bc).eh,_,_,((N.nd++ [x]).getD i Bc).ef.map _⟩:RowM)=⟨(N.nd.getD i Bc).eh,_,_,(N.nd.getD i Bc).ef.map _⟩
   rw [Kq]
   split
   ·rename_i e
    rw [hx1,hx2,List.getD_eq_getElem?_getD,List.getElem?_eq_none (by omega)];rfl
   ·rfl
  | p i=>
   show (⟨((N.nd++ [x]).getD i Bc).ph,_,_,((N.nd++ [x]).getD i Bc).pl.map _⟩:RowM)=⟨(N.nd.getD i Bc).ph,_,_,(N.nd.getD i Bc).pl.map _⟩
   rw [Kq]
   split
   ·rename_i e
    rw [hx3,hx4,List.getD_eq_getElem?_getD,List.getElem?_eq_none (by omega)];rfl
   ·rfl
 have hd:=h.rs.del h.w
 have hup:=hd.upd (R':=C3 (MB nb N.nd.length bn) pb {N with nd:=N.nd++ [x],nh:=some (b,cap)}) .n hR (b:=b) (cap:=cap) hb rfl (by
  show ((List.range (N.nd++ [x]).length).map _).length≤cap
  simp;exact hl)
 have hrow:(C3 (MB nb N.nd.length bn) pb {N with nd:=N.nd++ [x],nh:=some (b,cap)} .n).xs=(List.range N.nd.length).map (fun j=>BK (nb j))++ [BK bn]:=by
  show (List.range (N.nd++ [x]).length).map _=_;rw [List.length_append,List.length_singleton,OR]
 rw [hrow] at hup
 have hk:∀(b':Nat) (t:TypeId) (cs:List D),t≠103 ->M b'=some (.cells t cs) ->Cj (Cj (Bk (ET M wb) N.nh) b (.row XN 1 cap ((List.range N.nd.length).map (fun j=>BK (nb j))++ [BK bn]))) wb' (V1 (some (b,cap)) (N.nd.length+1) N.mh N.po.length mv) b'=some (.cells t cs):=fun b' t cs ht hm=>by
  refine GC hw' ?_
  have h1:ET M wb b'=some (.cells t cs):=by
   rw [Gd]
   ·exact hm
   ·rintro rfl;rw [h.w] at hm;injection hm with hm;injection hm with hm;exact ht hm.symm
  exact Go.Proofs.YtnkkaeblokdifaaGreat.keepM hb h1 fun c hc=>by have:=hd.blk (r:= .n) hc;rw [h1] at this;cases this
 refine ⟨fun i z hz=>?_,fun j y hy=>hk _ _ _ (by decide) (h.p j y hy),⟨fun r=>LM hw' (hup.1 r),hup.2⟩,?_,fun i k hi hk e=>?_,h.pi,fun z hz=>?_,fun y hy=>?_⟩
 ·rcases snoc_get hz with ⟨h1,h2⟩ | ⟨h1,h2⟩
  ·rw [DF h1];exact hk _ _ _ (by decide) (h.n i z h2)
  ·subst h1 h2;rw [Fo];exact hk _ _ _ (by decide) hM
 ·rw [QC];show _=some (BW.cells _ [hdr _ (N.nd++ [x]).length,_,_]);rw [List.length_append];rfl
 ·have hi':i<N.nd.length+1:=by simpa using hi
  have hk':k<N.nd.length+1:=by simpa using hk
  by_cases e1:i=N.nd.length<;>by_cases e2:k=N.nd.length
  ·omega
  ·subst e1;rw [Fo,DF (by omega)] at e;exact absurd e.symm (hbn k (by omega))
  ·subst e2;rw [Fo,DF (by omega)] at e;exact absurd e (hbn i (by omega))
  ·rw [DF (by omega),DF (by omega)] at e;exact h.ni i k (by omega) (by omega) e
 ·rcases List.mem_append.1 hz with hz | hz
  ·exact h.e z hz
  ·have e:=List.mem_singleton.1 hz;subst e;refine ⟨fun e he=>?_,fun e he=>?_⟩
   ·rw [hx1] at he;cases he
   ·rw [hx3] at he;cases he
 ·intro i hi;have:=h.q y hy i hi
  simp;omega
section
variable {P:Program} {F:Fr} {s:AS} {d:Nat} {ty T T' E:TypeId} {pos:String} {aft:Array Edge} {g:Option (Nat×Bool)} {x:Operand}
theorem Q1 {p:Option Addr} (hT:P.underlying T=some (.pointer E)) (hx:s.ev x=some (.d (.raw (.pointer p)))) (hd:Nat.blt d s.n=true):AA P F ⟨some d,.binOp .neq T x (.const (.pointer none)) T',ty,pos,aft,g⟩ s d (.d (.raw (.bool (!p.isNone)))):=
 C1 _ hd fun ρ act w hs=>by
  have hv:=hs.raw hx;have hp:P.pointee T=E:=by unfold Program.pointee;rw [hT]
  have hc:act.eval (.const (.pointer none))= .pointer none:=rfl;exact ⟨.bool (!p.isNone),by simp [execOp,hv,hc,Hg,binOp,run_equal_pointer_nil w T p (by rw [hp];exact hT)],.d (.raw rfl)⟩
end
section
variable {P:Program} {F:Fr} {s:AS} {d:Nat} {ty T:TypeId} {pos:String} {aft:Array Edge} {g:Option (Nat×Bool)} {x:Operand}
theorem Uw (gg jg:Nat) {f j off f2 j2 m:Nat} {t:TypeId} {cs:List AV} (hx:s.ev x=some (.ptr f j off)) (ho:hget s.hp f j=some (.blk t cs)) (hc:cs[off]?=some (.d (.raw (.map (some m))))) (hg:hget s.hp gg jg=some (.addr f2 j2 (.map (some m)))) (hT:Az P T=true) (hd:Nat.blt d s.n=true):
  AA P F ⟨some d,.load T x,ty,pos,aft,g⟩ s d (.map f2 j2):=by
 have h:=AW (F:=F) (ty:=ty) (pos:=pos) (aft:=aft) (g:=g) hx ho hc hT hd;refine ⟨h.1,h.2.1,fun ρ act w hs=>?_⟩;refine Zda (fun a w' ⟨v,e1,e2,e3⟩=>⟨v,e1,?_,e3⟩) (h.2.2 ρ act w hs)
 cases e2 with
 | d e2=>cases e2 with
  | raw _=>
   obtain ⟨_,hv⟩:=hs.heap.sim gg jg _ hg;exact .map hv
end
def CX (p:Prb):List Roo:=(Fv (p.ro.map Roo.r)).map fun i=>p.ro.getD i DD
def Kt (y:Po):Po:={y with mi:=y.q.length}
def Xh (p:Prb):Net:=⟨(FI (CX p) (ordP p) (ordP p).length).nd,(FI (CX p) (ordP p) (ordP p).length).po.map Kt,none,none⟩
theorem Xb {α:Type} {l:List Roo} {f:Roo ->α} (h:(l.map f).Nodup) (k:Nat):((l.take k).map f).Nodup:=by
 exact h.sublist ((List.take_sublist k l).map f)
theorem Xc {l:List Roo} {f:Roo ->A5} (h:(l.map f).Nodup) {k:Nat} (hk:k<l.length):f l[k]∉(l.take k).map f:=fun hm=>by
 have h1:=Xb h (k+1);rw [Cp hk,List.nodup_append] at h1;exact h1.2.2 _ hm _ (List.mem_singleton_self _) rfl
abbrev nilP:D:= .raw (.pointer none)
theorem MU {p:Prb} (hE:Ao p=0):(p.ro.map Roo.r).Nodup:=by
 have h0:=Uh.1 (KW hE).1;rw [List.Nodup,List.pairwise_map,List.pairwise_iff_getElem];intro i j hi hj hij e;have:=h0 j (List.mem_range.2 hj);unfold MY at this;rw [Bd DD hj] at this
 split at this
 ·contradiction
 ·split at this
  ·cases this
  ·split at this
   ·cases this
   ·rename_i hn;exact hn (Mn hj hij e)
theorem pm_in {rs:List A5} (hn:rs.Nodup) {ys:List Nat} (hp:ys.Perm (List.range rs.length)) {f:Nat ->Nat} {r:A5} {z:Value} (hm:r∈ys.map fun i=>rs.getD i DZ):Ai (SE DZ f rs) r z=pV (f (ys.getD ((ys.map fun i=>rs.getD i DZ).idxOf r) 0)) 0:=by
 have hj:=List.idxOf_lt_length_of_mem hm;have he:=List.getElem_idxOf hj
 generalize (ys.map fun i=>rs.getD i DZ).idxOf r=j at hj he⊢
 rw [List.length_map] at hj;rw [List.getElem_map] at he;have hi:ys[j]<rs.length:=List.mem_range.1 (hp.mem_iff.1 (List.getElem_mem hj));rw [Bd DZ hi] at he;rw [Bd 0 hj];exact Td hn hi he
theorem pm_out {rs:List A5} {ys:List Nat} (hp:ys.Perm (List.range rs.length)) {f:Nat ->Nat} {r:A5} {z:Value} (hm:r∉ys.map fun i=>rs.getD i DZ):Ai (SE DZ f rs) r z=z:=by
 refine tab_no fun h=>hm ?_;obtain ⟨i,hi,e⟩:=List.getElem_of_mem h;exact List.mem_map.2 ⟨i,hp.mem_iff.2 (List.mem_range.2 hi),by rw [Bd DZ hi,e]⟩
theorem Sb (p:Prb):(CX p).map Roo.r=(Fv (p.ro.map Roo.r)).map fun i=>(p.ro.map Roo.r).getD i DZ:=by
 unfold CX;rw [List.map_map];refine List.map_congr_left fun i hi=>?_;have hi':=List.mem_range.1 ((WL (p.ro.map Roo.r)).mem_iff.1 hi);have hi2:i<p.ro.length:=by simpa using hi'
 show (p.ro.getD i DD).r=_;rw [Bd DD hi2,Bd DZ hi',List.getElem_map]
set_option maxHeartbeats 2000000 in
theorem Or (p:Prb) (hf:Gr p) (hE:Ao p≠0):A2 Tryz.prog 34 [.d (Cc p)] [] fun r H'=>r= .d (.tup [nilP,AH (Ao p)])∧H'=[]:=by
 have hck:=HY p hf.b;refine B2 Tryz.func34 Z Z Tryz.ntmps34 Z Z Z fun F hF=>?_;refine AF (AJ (U (C5 1 Z Z Z Z Z Z Z) (AD Z Z (AD Z Z (AG (AF (AF (AJ ?_))))))))
 first | refine J (Av Z Z A4 rfl) ?_ | refine J (Aw Z Z A4 Z Z Z) ?_ | refine J (Ax Z Z (rfl) rfl A4 rfl) ?_
 refine J (B1 (hck) Z Z) (AD Z Z (AG (AF (AJ (AC Z Z ?_)))))
 first | refine J (Fa Z Z Z) ?_ | refine J (F9 Z Z Z) ?_ | refine J (FM Z Z Z) ?_ | refine J (Fb Tryz.underlying34 Z Z Z) ?_ | refine J (Fd Tryz.underlying34 Z Z Z) ?_ | refine J (st_neqN Tryz.underlying34 Z Z) ?_ | refine J (Fc Tryz.underlying34 Z Z Z) ?_ | refine J (st_neqFN Tryz.underlying34 Z Z) ?_
 refine AG (EB rfl ((by simpa using hE)) (AF (AJ (AC Z Z (AD Z Z (AD Z Z (AG (Ae ?_))))))));exact ⟨_,[],[],Aa rfl,rfl,rfl,rfl,rfl⟩
theorem poC_one (y:Po):∀c∈poC y,c.one=true:=by
 intro c hc;simp only [List.mem_cons,List.not_mem_nil,or_false] at hc;rcases hc with rfl | rfl | rfl | rfl | rfl | rfl | rfl | rfl | rfl | rfl<;>rfl
theorem Ls {p:Prb} {i:Nat} (hi:i<p.ro.length):(p.ro.map Roo.r).getD i DZ=(p.ro.getD i DD).r:=by
 rw [Bd DD hi,Bd DZ (by simpa using hi),List.getElem_map]
theorem Wg (p:Prb):∀i∈List.range p.ro.length,∀j∈List.range p.ro.length,AU Tryz.prog 78 [.d (.ptr (.agg (poC (I0 (p.ro.getD i DD))))),.d (.ptr (.agg (poC (I0 (p.ro.getD j DD)))))] (.raw (.int .i64 (JL (p.ro.map Roo.r) i j))):=fun i hi j hj=>by
 have h:=cmpPo_p (I0 (p.ro.getD i DD)) (I0 (p.ro.getD j DD))
 have e:JL (p.ro.map Roo.r) i j=By (p.ro.getD i DD).r (p.ro.getD j DD).r:=by
  unfold JL;rw [Ls (List.mem_range.1 hi),Ls (List.mem_range.1 hj)]
 rw [e];exact h
theorem sort_px {p:Prb} {wb mv:Nat} {pb:Nat ->Nat} {mh:Hd} {M:MF} (hR:CK wb mv (fun _=>0) pb ⟨[],p.ro.map I0,none,mh⟩ M):∀i∈List.range p.ro.length,M (pb i)=some (.cells 113 (poC (I0 (p.ro.getD i DD)))):=fun i hi=>by
 have hi':=List.mem_range.1 hi;refine hR.p i (I0 (p.ro.getD i DD)) ?_;show (p.ro.map I0)[i]?=_;rw [List.getElem?_map,List.getElem?_eq_getElem hi',Bd DD hi'];rfl
theorem Wf {p:Prb} {wb mv:Nat} {pb:Nat ->Nat} {mh:Hd} {M:MF} (hR:CK wb mv (fun _=>0) pb ⟨[],p.ro.map I0,none,mh⟩ M):
  CK wb mv (fun _=>0) (fun k=>pb ((Fv (p.ro.map Roo.r)).getD k 0)) ⟨[],(CX p).map I0,none,mh⟩ (Wh M mh UB ((Fv (p.ro.map Roo.r)).map fun x=>pD (pb x) 0)):=by
 have hp:(Fv (p.ro.map Roo.r)).Perm (List.range (p.ro.map I0).length):=by
  have:=WL (p.ro.map Roo.r);rw [List.length_map] at this⊢;exact this
 have hpo:(Fv (p.ro.map Roo.r)).map (fun i=>(p.ro.map I0).getD i CC)=(CX p).map I0:=by
  unfold CX;rw [List.map_map];refine List.map_congr_left fun i hi=>?_;have hi':=List.mem_range.1 (hp.mem_iff.1 hi);have hi2:i<p.ro.length:=by simpa using hi'
  show _=I0 (p.ro.getD i DD);rw [Bd CC hi',Bd DD hi2,List.getElem_map]
 cases hmh:mh with
 | some q=>
  obtain ⟨b,c⟩:=q;subst hmh;have h:=hR.perm rfl (fun y hy=>by obtain ⟨x,_,rfl⟩:=List.mem_map.1 hy;exact ⟨rfl,rfl⟩) hp rfl;dsimp only at h;rw [hpo] at h;exact h
 | none=>
  subst hmh;have h0:BX M none UB 1 ((List.range (p.ro.map I0).length).map fun j=>BK (pb j)):=hR.rs.1 .m;have h1:=SA h0 rfl;rw [List.length_range,List.length_map] at h1;have h2:p.ro=[]:=List.eq_nil_of_length_eq_zero h1
  have h3:(CX p).map I0=p.ro.map I0:=by
   have h4:Fv (p.ro.map Roo.r)=[]:=List.eq_nil_of_length_eq_zero (by rw [hp.length_eq,List.length_range,List.length_map,h1]);rw [←hpo,h4,h2];rfl
  rw [h3];rw [h2] at hR⊢;exact ⟨hR.n,fun j y hy=>by simp at hy,⟨fun r=>by cases r<;>rfl,fun r r' b c c' e1 e2=>by cases r<;>cases e1⟩,hR.w,hR.ni,fun i j hi _ _=>by simp at hi,hR.e,hR.q⟩
theorem V3 (ros:List Roo) (its:List AT) {mh:Hd}:Ap ⟨[],ros.map I0,none,mh⟩=FI ros its 0:=by
 unfold Ap FI H3;dsimp only;rw [List.map_map]
 rfl
theorem P2 {p:Prb} (hE:Ao p=0):((ordP p).map AT.id).Nodup:=by
 have h1:ordP p=sortO p.it:=if_pos hE;rw [h1];exact ((QD p.it).map AT.id).nodup_iff.2 (WP (KW hE).2.1)
theorem MT {p:Prb} (hE:Ao p=0):((CX p).map Roo.r).Nodup:=by
 have h1:(CX p).Perm p.ro:=by
  unfold CX;refine ((WL (p.ro.map Roo.r)).map _).trans (List.Perm.of_eq ?_);rw [List.length_map]
  apply List.ext_getElem (by simp)
  intro i h1 h2;simp only [List.getElem_map,List.getElem_range];exact Bd DD (by simpa using h2)
 exact (h1.map Roo.r).nodup_iff.2 (MU hE)
theorem O1 {l:List AT} (h:(l.map AT.id).Nodup) {k:Nat} (hk:k<l.length):l[k].id∉(l.take k).map AT.id:=fun hm=>by
 have h1:((l.take (k+1)).map AT.id).Nodup:=h.sublist ((List.take_sublist (k+1) l).map AT.id);rw [Cp hk,List.nodup_append] at h1;exact h1.2.2 _ hm _ (List.mem_singleton_self _) rfl
theorem nd_len {N:Net} {ros:List Roo} {its:List AT} {k:Nat} (h:Ap N=FI ros its k):N.nd.length=k:=by
 have h1:=congrArg (fun N=>N.nd.length) h;have h2:(N.nd.map Dz).length=(H3 (ros.map Roo.r) its k).length:=h1;rw [List.length_map] at h2;rw [h2];unfold H3;simp
theorem po_len {N:Net} {ros:List Roo} {its:List AT} {k:Nat} (h:Ap N=FI ros its k):N.po.length=ros.length:=by
 have h1:=congrArg (fun N=>N.po.length) h;have h2:(N.po.map CZ).length=(ros.map (Sn ((its.map dltS).take k))).length:=h1
 rwa [List.length_map,List.length_map] at h2
theorem T_zeroX {N:Net} {ros:List Roo} {its:List AT} {k:Nat} {x:AT} {nh:Hd} (hX:its.getD k itm0=x) (h:Ap N=FI ros its k):Ap {N with nd:=N.nd++ [⟨x,none,[],none,[],true⟩],nh:=nh}=EM ros its k 0:=by
 subst hX;rw [V4,←h];unfold Ap;dsimp only;rw [List.map_append];rfl
theorem T_skipX {ros:List Roo} {its:List AT} {k t:Nat} {X:AT} (hX:its.getD k itm0=X) (ht:t<(dltS X).length) (hr:((dltS X)[t]).1∉ros.map Roo.r):EM ros its k (t+1)=EM ros its k t:=by
 subst hX;exact V5 ht hr
theorem T_stepX {ro:List Roo} {its:List AT} {k t j:Nat} {X:AT} (hX:its.getD k itm0=X) (hro:(ro.map Roo.r).Nodup) (hk:k<its.length) (ht:t<(dltS X).length) {N N':Net} (h:Ap N=EM ro its k t) (hr:(ro.map Roo.r).idxOf ((dltS X)[t]).1=j) (hm:((dltS X)[t]).1∈ro.map Roo.r) {x x':Nd} {y y':Po} (h1:N.nd[k]?=some x) (h2:N.po[j]?=some y)
  (e1:N'.nd=N.nd.set k x') (ex:Dz x'=Dz (jnX x j y.q.length ((dltS X)[t]).2)) (e2:N'.po=N.po.set j y') (ey:CZ y'=CZ (jnY y k ((dltS X)[t]).2)):Ap N'=EM ro its k (t+1):=by
 subst hX;exact T_step hro hk ht h hr hm h1 h2 e1 ex e2 ey
theorem T_nd {N:Net} {ros:List Roo} {its:List AT} {k t:Nat} (h:Ap N=EM ros its k t):N.nd.length=k+1:=by
 have h1:=congrArg (fun N=>N.nd.length) h;have h2:(N.nd.map Dz).length=(H3 (ros.map Roo.r) its k++ [_]).length:=h1;rw [List.length_map,List.length_append] at h2;rw [h2];unfold H3;simp
theorem T_po {N:Net} {ros:List Roo} {its:List AT} {k t:Nat} (h:Ap N=EM ros its k t):N.po.length=ros.length:=by
 have h1:=congrArg (fun N=>N.po.length) h;have h2:(N.po.map CZ).length=(ros.map _).length:=h1
 rwa [List.length_map,List.length_map] at h2
theorem T_lastX {ros:List Roo} {its:List AT} {k:Nat} {X:AT} (hX:its.getD k itm0=X) (hk:k<its.length):EM ros its k (dltS X).length=FI ros its (k+1):=by
 subst hX;exact V6 hk
theorem ids_of {N:Net} {ros:List Roo} {its:List AT} (h:Ap N=FI ros its its.length):BY N=its.map AT.id:=by
 have h1:N.nd.map Dz=H3 (ros.map Roo.r) its its.length:=congrArg (fun N=>N.nd) h;have h2:BY N=(N.nd.map Dz).map fun x=>x.it.id:=by unfold BY;rw [List.map_map];rfl
 rw [h2,h1];unfold H3;rw [List.map_map]
 apply List.ext_getElem (by simp)
 intro i a b;simp only [List.getElem_map,List.getElem_range,Function.comp];show (its.getD i itm0).id=_;rw [Bd itm0 (by simpa using b)]
theorem YR {po po':List Po} {j:Nat} {y:Po} (hj:j<po.length) (h:po'=(po.take j).map Kt++po.drop j) (hy:po'[j]?=some y):po'.set j (Kt y)=(po.take (j+1)).map Kt++po.drop (j+1):=by
 subst h;have hl:((po.take j).map Kt).length=j:=by rw [List.length_map,List.length_take];omega
 rw [List.getElem?_append_right (by omega),hl,Nat.sub_self,List.drop_eq_getElem_cons hj] at hy;have e:y=po[j]:=(Option.some.inj hy).symm;rw [List.set_append_right _ _ (by omega),hl,Nat.sub_self,List.drop_eq_getElem_cons hj,List.set_cons_zero,Cp hj,e,List.append_assoc];rfl
theorem net_fin {p:Prb} {its:List AT} {ros:List Roo} (h1:ordP p=its) (h2:CX p=ros):Xh p=⟨(FI ros its its.length).nd,(FI ros its its.length).po.map Kt,none,none⟩:=by
 unfold Xh;rw [h1,h2]
theorem Xe {N N5:Net} {ros:List Roo} {its:List AT} (hT:Ap N=FI ros its its.length) (h1:N5.nd=N.nd) (h2:N5.po=N.po.map Kt):Ap N5=⟨(FI ros its its.length).nd,(FI ros its its.length).po.map Kt,none,none⟩:=by
 rw [←hT];unfold Ap;dsimp only;rw [h1,h2,List.map_map,List.map_map]
 rfl
set_option maxHeartbeats 2000000 in
theorem Rn (p:Prb) (hf:Gr p) (hE:Ao p=0):A2 Tryz.prog 34 [.d (Cc p)] [] fun r H'=>∃wb mv nb pb N M bs,r= .d (.tup [pD wb 0,AH 0])∧H'=HW mv bs (F8 nb (BY N)) M∧CK wb mv nb pb N M∧Ap N=Xh p:=by
 have hck:=HY p hf.b;rw [hE] at hck;have hrn:=MU hE;have hrl:=hf.r;refine B2 Tryz.func34 Z Z Tryz.ntmps34 Z Z Z fun F hF=>?_;refine AF (AJ (U (C5 1 Z Z Z Z Z Z Z) (AD Z Z (AD Z Z (AG (AF (AF (AJ ?_))))))))
 first | refine J (Av Z Z A4 rfl) ?_ | refine J (Aw Z Z A4 Z Z Z) ?_ | refine J (Ax Z Z (rfl) rfl A4 rfl) ?_
 refine J (B1 (hck) Z Z) (AD Z Z (AG (AF (AJ (AC Z Z ?_)))))
 first | refine J (Fa Z Z Z) ?_ | refine J (F9 Z Z Z) ?_ | refine J (FM Z Z Z) ?_ | refine J (Fb Tryz.underlying34 Z Z Z) ?_ | refine J (Fd Tryz.underlying34 Z Z Z) ?_ | refine J (st_neqN Tryz.underlying34 Z Z) ?_ | refine J (Fc Tryz.underlying34 Z Z Z) ?_ | refine J (st_neqFN Tryz.underlying34 Z Z) ?_
 refine AG (Fs rfl (rfl) (Ak (AF (AJ ?_))));refine U (Ys 50 Z Z Z Z) (Qy 51 50 0 Z Z Z Z Z fun mv=>(UP 26 51 0 (.inl rfl) rfl (J (DH zl103 pl103 Z Z Z) (X5 27 rfl (U (C5 2 Z Z Z Z Z Z Z) (AD Z Z (AG (AF ?_))))))));refine a_multi 40 Z Z Z (NY 5 2 40 (ds:=[hdr none 0,hdr none 0,Kb (.map (some mv))]) hF Z Z Z Z Z Z Z Z Z Z Z (fun _=>rfl) fun wb hwb=>(AJ (U (Ys 3 Z Z Z Z) (AD Z Z (AG (AF (AF (AJ ?_))))))))
 first | refine J (AM rfl Hr Z Z Z) ?_ | refine J (AO rfl Hr Z Z Z) ?_ | refine J (AP rfl Hr Z Z Z) ?_ | refine J (AN rfl Hr Z Z Z) ?_ | refine J (AL rfl Hr Z Z Z) ?_
 first | refine J (AY Z Z HF rfl) ?_ | refine J (AW Z Z Z HF rfl) ?_ | refine J (AX Z Z (rfl) rfl HF rfl) ?_
 first | refine J (Cz rfl Tryz.underlying28 rfl) ?_ | refine J (C9 Z Z Tryz.underlying28 rfl) ?_ | refine J (DB rfl Tryz.underlying28 rfl) ?_ | refine J (Cy rfl Tryz.underlying28 rfl) ?_ | refine J (Cr rfl Tryz.underlying28 rfl) ?_ | refine J (Cw rfl Tryz.underlying28 rfl) ?_
 refine AC Z Z (AG (Al (DG (α:=Nat×(Nat ->Nat)×Hd×MF) (fun q=>⟨142,[(1,(.ptr 1 0 0)),(5,(.d (pD wb 0))),(6,(.map 3 0)),(31,(.d (.sl none (p.ro.map Ff)))),(32,(.d (AH (p.ro.length:Int)))),(33,(.d (AH (q.1:Int))))],[(1,[.blk 31 [.d (.sl none (p.ro.map Ff)),.d (.sl none (p.it.map BH))]]),(3,[CL EX Kb (SE DZ q.2.1 ((p.ro.take q.1).map Roo.r))]),(40,[.multi q.2.2.2]),(50,[CL AH Kb (F8 (fun _=>0) [])]),(51,[.addr 50 0 (.map (some mv))])]⟩) (fun q=>q.1≤p.ro.length∧CK wb mv (fun _=>0) q.2.1 ⟨[],(p.ro.take q.1).map I0,none,q.2.2.1⟩ q.2.2.2∧(q.2.2.1≠none ->0<q.1)) (fun q=>p.ro.length - q.1) ((0,(fun _=>0),none,Cj (fun _=>none) wb (V1 none 0 none 0 mv))) (⟨Nat.zero_le _,rep0 _ _ _ _ (show Cj (fun _=>none) wb (V1 none 0 none 0 mv) wb=_ from QC _ _ _),fun h=>absurd rfl h⟩) (BA hF [1,3,40,50,51] Z Z ⟨rfl,rfl,rfl,rfl,rfl,rfl,trivial⟩) ?_)));rintro ⟨k,pb,mh,M⟩ ⟨hk0,hR,hmh⟩;dsimp only at hk0 hR hmh⊢;refine AF (AJ ?_)
 first | refine J (CD Z Z Z) ?_ | refine J (CE Z Z Z) ?_
 refine AG (AF ?_)
 first | refine Ay rfl (fun h34=>?_) (fun h34=>?_) | refine At rfl (fun h34=>?_) (fun h34=>?_)
 ·have hk1:k<p.ro.length:=DA h34;refine Ak (AF (Al (AF ?_)));have hpl:((p.ro.take k).map I0).length=k:=by rw [List.length_map,List.length_take];omega
  have hpr:((p.ro.take k).map Roo.r).length=k:=by rw [List.length_map,List.length_take];omega
  refine AJ ?_
  first | refine J (CT (k) Z Z (rfl) (A0 hk1) Tryz.underlying28 rfl PN rfl) ?_ | refine J (CU (k) Z Z (rfl) (A0 hk1) rfl Tryz.underlying28 PN rfl) ?_
  first | refine J (Av Z Z PW rfl) ?_ | refine J (Aw Z Z PW Z Z Z) ?_ | refine J (Ax Z Z (rfl) rfl PW rfl) ?_
  refine U (DO 4 PI Z Z Z Z) (U (CF Z Z Z Z Z Z Z PN) (AG (AF (AJ (AC Z Z ?_)))))
  first | refine J (AM rfl Dm Z Z Z) ?_ | refine J (AO rfl Dm Z Z Z) ?_ | refine J (AP rfl Dm Z Z Z) ?_ | refine J (AN rfl Dm Z Z Z) ?_ | refine J (AL rfl Dm Z Z Z) ?_
  first | refine J (Av Z Z Ah rfl) ?_ | refine J (Aw Z Z Ah Z Z Z) ?_ | refine J (Ax Z Z (rfl) rfl Ah rfl) ?_
  first | refine J (AM rfl Dm Z Z Z) ?_ | refine J (AO rfl Dm Z Z Z) ?_ | refine J (AP rfl Dm Z Z Z) ?_ | refine J (AN rfl Dm Z Z Z) ?_ | refine J (AL rfl Dm Z Z Z) ?_
  first | refine J (Av Z Z Ah rfl) ?_ | refine J (Aw Z Z Ah Z Z Z) ?_ | refine J (Ax Z Z (rfl) rfl Ah rfl) ?_
  first | refine J (AM rfl PA Z Z Z) ?_ | refine J (AO rfl PA Z Z Z) ?_ | refine J (AP rfl PA Z Z Z) ?_ | refine J (AN rfl PA Z Z Z) ?_ | refine J (AL rfl PA Z Z Z) ?_
  first | refine J (AY Z Z BI rfl) ?_ | refine J (AW Z Z Z BI rfl) ?_ | refine J (AX Z Z (rfl) rfl BI rfl) ?_
  refine J (DH zl113 pl113 Z Z Z) (X5 44 rfl (U (C5 5 Z Z Z Z Z Z Z) (X7 45 5 40 (ds:=poC (I0 p.ro[k])) hF Z Z Z Z Z Z Z Z Z Z Z (fun _=>rfl) fun bn hbn=>?_)))
  first | refine U (FR (SE DZ pb ((p.ro.take k).map Roo.r)) (p.ro[k].r) (pV bn 0) Z Z Z RD DU Z Z) ?_ | refine U (ED (SE DZ pb ((p.ro.take k).map Roo.r)) (p.ro[k].r) (pV bn 0) Z Z Z RD DU Z Z) ?_
  refine AG ?_;have hrnk:p.ro[k].r∉(p.ro.take k).map Roo.r:=Xc hrn hk1;rw [Tc hrnk,hpr,←Cp hk1];have hget:Ai (SE DZ (MB pb k bn) ((p.ro.take (k+1)).map Roo.r)) p.ro[k].r (.pointer none)=pV bn 0:=by rw [Td (i:=k) (Xb hrn (k+1)) (by rw [List.length_map,List.length_take];omega) (by rw [List.getElem_map,List.getElem_take]),Fo]
  have hR1:=hR.fresh (m:=SG (I0 p.ro[k])) hbn;have hpb:((List.range k).map pb).length=k:=by simp
  have hwb1:Cj M bn (SG (I0 p.ro[k])) wb=some (V1 none 0 mh ((List.range k).map pb).length mv):=by rw [hpb];have h:_=some (V1 none 0 mh ((p.ro.take k).map I0).length mv):=hR1.w;rw [hpl] at h;exact h
  have hmr:BX (Cj M bn (SG (I0 p.ro[k]))) mh UB 1 (((List.range k).map pb).map BK):=by have h:BX _ mh UB 1 ((List.range ((p.ro.take k).map I0).length).map fun j=>BK (pb j)):=hR1.rs.1 .m;rw [hpl] at h;rw [List.map_map];exact h
  refine Gp [[],[],[1],[1,2],[1,2,3],[],[],[6],[5,6,7],[5,6,7,8],[1,2,3,4,5,6,7,8,9],[0,1,2,3,4,5,6,7,8,9,10],[0,1,2,3,4,5,6,7,8,9,10,11],[0,1,2,3,4,5,6,7,8,9,10,11,12]] BF rfl (Hh ?_)
  first | refine AE [5] [] Z Z (fun _=>AB (Be Z Z)) ?_ | refine AI [5] Z Z (fun _=>AB (Be Z Z)) ?_
  first | refine AE [5] [] Z Z (fun _=>AB (Be Z Z)) ?_ | refine AI [5] Z Z (fun _=>AB (Be Z Z)) ?_
  first | refine AE [47] [] Z Z (fun _=>AB (BS Z Z)) ?_ | refine AI [47] Z Z (fun _=>AB (BS Z Z)) ?_ | refine AE [47] [] Z Z (fun _=>AB (BQ Z Z)) ?_ | refine AI [47] Z Z (fun _=>AB (BQ Z Z)) ?_ | refine AE [47] [] Z Z (fun _=>AB (BT Z Z)) ?_ | refine AI [47] Z Z (fun _=>AB (BT Z Z)) ?_ | refine AE [47] [] Z Z (fun _=>AB (BR Z Z)) ?_ | refine AI [47] Z Z (fun _=>AB (BR Z Z)) ?_
  first | refine AE [48] [] Z Z (fun _=>AB (AM rfl JU Z Z Z)) ?_ | refine AI [48] Z Z (fun _=>AB (AM rfl JU Z Z Z)) ?_ | refine AE [48] [] Z Z (fun _=>AB (AO rfl JU Z Z Z)) ?_ | refine AI [48] Z Z (fun _=>AB (AO rfl JU Z Z Z)) ?_ | refine AE [48] [] Z Z (fun _=>AB (AP rfl JU Z Z Z)) ?_ | refine AI [48] Z Z (fun _=>AB (AP rfl JU Z Z Z)) ?_ | refine AE [48] [] Z Z (fun _=>AB (AN rfl JU Z Z Z)) ?_ | refine AI [48] Z Z (fun _=>AB (AN rfl JU Z Z Z)) ?_ | refine AE [48] [] Z Z (fun _=>AB (AL rfl JU Z Z Z)) ?_ | refine AI [48] Z Z (fun _=>AB (AL rfl JU Z Z Z)) ?_
  refine AE [49] [40] Z Z (fun _=>AB (Ej (f:=40) Z Z (hwb1) rfl UM rfl)) ?_
  first | refine AE [6] [] Z Z (fun _=>AB (Be Z Z)) ?_ | refine AI [6] Z Z (fun _=>AB (Be Z Z)) ?_
  first | refine AE [8] [] Z Z (fun _=>AB (AM rfl Dm Z Z Z)) ?_ | refine AI [8] Z Z (fun _=>AB (AM rfl Dm Z Z Z)) ?_ | refine AE [8] [] Z Z (fun _=>AB (AO rfl Dm Z Z Z)) ?_ | refine AI [8] Z Z (fun _=>AB (AO rfl Dm Z Z Z)) ?_ | refine AE [8] [] Z Z (fun _=>AB (AP rfl Dm Z Z Z)) ?_ | refine AI [8] Z Z (fun _=>AB (AP rfl Dm Z Z Z)) ?_ | refine AE [8] [] Z Z (fun _=>AB (AN rfl Dm Z Z Z)) ?_ | refine AI [8] Z Z (fun _=>AB (AN rfl Dm Z Z Z)) ?_ | refine AE [8] [] Z Z (fun _=>AB (AL rfl Dm Z Z Z)) ?_ | refine AI [8] Z Z (fun _=>AB (AL rfl Dm Z Z Z)) ?_
  first | refine AE [52] [4] Z Z (fun _=>AB (Av Z Z Ah rfl)) ?_ | refine AE [52] [4] Z Z (fun _=>AB (Aw Z Z Ah Z Z Z)) ?_ | refine AE [52] [4] Z Z (fun _=>AB (Ax Z Z (rfl) rfl Ah rfl)) ?_
  refine AE [51,53] [3] Z Z (fun _=>AB (LC (SE DZ (MB pb k bn) ((p.ro.take (k+1)).map Roo.r)) p.ro[k].r (.pointer none) (pV bn 0) Z Z Z RD DU WV hget rfl)) (Gn [54] [6] [(55,_)] Z Z (fun _=>Gq (Fq 6 sl100 Z Z Z Z Z Z Z Z)) (.inr ⟨55,_,rfl,rfl,rfl,rfl,rfl⟩) Z Z Z Z Z (Gn [50,55] [61,40,6] [(56,_)] Z Z (fun _=>Gq (Je 50 61 40 hmr Z Z (by simp) Z Z Z Z Z (If (emb:=BK) ((List.range k).map pb) [bn] Z Z Z Z Z Z Z Z sl100 (by simp;omega) Z Z Z Z))) (.inr ⟨56,_,rfl,rfl,rfl,rfl,rfl⟩) Z Z Z Z Z (GR 11 Z Z Z (BC 12 Z Z (IG 56 61 40 hF Z Z Z (by simp) (by simp) Z Z Z Z Z Z Z (fun _ _=>rfl) fun b1 c1 hb1 hc1=>?_)))))
  first | refine J (BS Z Z) ?_ | refine J (BQ Z Z) ?_ | refine J (BT Z Z) ?_ | refine J (BR Z Z) ?_
  refine AG ⟨rfl,?_⟩;refine BC 13 Z Z ?_
  first | refine J (AM rfl JU Z Z Z) ?_ | refine J (AO rfl JU Z Z Z) ?_ | refine J (AP rfl JU Z Z Z) ?_ | refine J (AN rfl JU Z Z Z) ?_ | refine J (AL rfl JU Z Z Z) ?_
  refine AG ⟨rfl,?_⟩;refine BC 14 Z Z (U (Yv (f:=40) Z Z Z Z (hR1.keepM hb1 hwb1) ((by show _<3;omega)) rfl sz100) (AG ⟨rfl,?_⟩));refine GQ ?_;have e1:((List.range ((p.ro.take k).map I0).length).map (fun j=>BK (pb j))++ [BK bn])=((List.range k).map pb++ [bn]).map BK:=by rw [hpl,List.map_append,List.map_map];rfl
  have e2:((List.range k).map pb++ [bn]).length=((p.ro.take k).map I0).length+1:=by simp;omega
  have hR2:=hR1.addM (y:=I0 p.ro[k]) (bn:=bn) Z Z (QC _ _ _) (fun j hj e=>by have h1:=hR.p j _ (List.getElem?_eq_getElem hj);rw [e,hbn] at h1;cases h1) hb1 (cap:=c1) (by have h:=hc1;simp at h⊢;omega);dsimp only at hR2;rw [e1,←e2,←Cp hk1,hpl] at hR2;refine AJ (J (Bi Z Z (IntWalk.i64_in _ (by omega)) rfl) (AC Z Z (AG ?_)));exact ⟨(k+1,MB pb k bn,some (b1,c1),_),⟨by show k+1≤_;omega,hR2,fun _=>Nat.succ_pos _⟩,by show p.ro.length - (k+1)<p.ro.length - k;omega,BA hF [1,3,40,50,51] rfl (rfl) ⟨rfl,rfl,rfl,rfl,rfl,rfl,trivial⟩⟩
 ·refine CW (AF ?_);have hkk:k=p.ro.length:=by have h:=h34;omega
  subst hkk;rw [List.take_length] at hR⊢;have hwb2:M wb=some (V1 none 0 mh p.ro.length mv):=by have h:_=some (V1 none 0 mh (p.ro.map I0).length mv):=hR.w;rw [List.length_map] at h;exact h
  have hR3:=Wf hR;have hmr:BX M mh UB 1 ((List.range p.ro.length).map fun j=>BK (pb j)):=by have h:BX _ mh UB 1 ((List.range (p.ro.map I0).length).map fun j=>BK (pb j)):=hR.rs.1 .m;rw [List.length_map] at h;exact h
  refine AJ (AC Z Z ?_)
  first | refine J (BS Z Z) ?_ | refine J (BQ Z Z) ?_ | refine J (BT Z Z) ?_ | refine J (BR Z Z) ?_
  first | refine J (AM rfl JU Z Z Z) ?_ | refine J (AO rfl JU Z Z Z) ?_ | refine J (AP rfl JU Z Z Z) ?_ | refine J (AN rfl JU Z Z Z) ?_ | refine J (AL rfl JU Z Z Z) ?_
  refine J (Ej (f:=40) Z Z (hwb2) rfl UM rfl) (U (W9 laysPo Tryz.func78 Z Z (f:=40) (bl:=pb) (px:=fun j=>poC (I0 (p.ro.getD j DD))) (tx:=fun _=>113) (JL (p.ro.map Roo.r)) (Ox _).swo (List.range p.ro.length) (Fv (p.ro.map Roo.r)) (by simp;omega) (Wg p) (fun ys h1 h2=>VB hrn (by rw [List.length_map];exact h1) h2) Z Z (sort_px hR) (fun _ _=>poC_one _) Z Z Ph hmr rfl (by simp) (fun h=>by have h1:=hmh h;intro h2;have h3:=congrArg List.length h2;rw [List.length_range,List.length_nil] at h3;omega) Z Z) (AG (AF (AF ?_))))
  obtain ⟨its,hits⟩:∃its,ordP p=its:=⟨_,rfl⟩
  have hoi:=LS p hf.b;rw [hits] at hoi
  obtain ⟨ros,hros⟩:∃ros,CX p=ros:=⟨_,rfl⟩
  have hitl:its.length≤30:=by rw [←hits];exact Nat.le_trans (EK p) hf.i
  have hrol:ros.length≤100:=by rw [←hros];unfold CX;rw [List.length_map,(WL _).length_eq,List.length_range,List.length_map];exact hrl
  have hitx:∀x∈its,ZC x:=fun x hx=>hf.x x (HZ (p:=p) (by rw [hits];exact hx));have hin:(its.map AT.id).Nodup:=by rw [←hits];exact P2 hE
  have hroN:(ros.map Roo.r).Nodup:=by rw [←hros];exact MT hE
  have hpin:=fun (r:A5) (h:r∈ros.map Roo.r)=>pm_in (z:= .pointer none) hrn (WL (p.ro.map Roo.r)) (f:=pb) (r:=r) (by rw [←Sb,hros];exact h);have hpout:=fun (r:A5) (h:r∉ros.map Roo.r)=>pm_out (z:= .pointer none) (WL (p.ro.map Roo.r)) (f:=pb) (r:=r) (by rw [←Sb,hros];exact h);rw [←Sb,hros] at hpin;rw [hros] at hR3
  generalize Wh M mh UB ((Fv (p.ro.map Roo.r)).map fun x=>pD (pb x) 0)=M2 at hR3⊢
  obtain ⟨pb2,hpb2⟩:∃f:Nat ->Nat,(fun k=>pb ((Fv (p.ro.map Roo.r)).getD k 0))=f:=⟨_,rfl⟩
  rw [hpb2] at hR3;have hpin2:∀r,r∈ros.map Roo.r ->Ai (SE DZ pb (p.ro.map Roo.r)) r (.pointer none)=pV (pb2 ((ros.map Roo.r).idxOf r)) 0:=fun r h=>by rw [hpin r h,←hpb2]
  obtain ⟨pm,hpm⟩:∃m,SE DZ pb (p.ro.map Roo.r)=m:=⟨_,rfl⟩
  rw [hpm] at hpin2 hpout⊢;refine AJ ?_
  first | refine J (Av Z Z A4 rfl) ?_ | refine J (Aw Z Z A4 Z Z Z) ?_ | refine J (Ax Z Z (rfl) rfl A4 rfl) ?_
  refine J (B1 (hoi) Z Z) ?_
  first | refine J (Cz rfl Tryz.underlying33 rfl) ?_ | refine J (C9 Z Z Tryz.underlying33 rfl) ?_ | refine J (DB rfl Tryz.underlying33 rfl) ?_ | refine J (Cy rfl Tryz.underlying33 rfl) ?_ | refine J (Cr rfl Tryz.underlying33 rfl) ?_ | refine J (Cw rfl Tryz.underlying33 rfl) ?_
  refine AC Z Z (AG (Al (DG (α:=Nat×Nat×(Nat ->Nat)×Net×MF) (fun q=>⟨142,[(1,(.ptr 1 0 0)),(5,(.d (pD q.2.1 0))),(6,(.map 3 0)),(66,(.d (.sl none ((its.map AT.id).map AH)))),(67,(.d (AH ((its.map AT.id).length:Int)))),(68,(.d (AH (q.1:Int))))],[(1,[.blk 31 [.d (.sl none (p.ro.map Ff)),.d (.sl none (p.it.map BH))]]),(3,[CL EX Kb pm]),(40,[.multi q.2.2.2.2]),(50,[CL AH Kb (F8 q.2.2.1 ((its.take q.1).map AT.id))]),(51,[.addr 50 0 (.map (some mv))])]⟩) (fun q=>q.1≤its.length∧CK q.2.1 mv q.2.2.1 pb2 q.2.2.2.1 q.2.2.2.2∧Ap q.2.2.2.1=FI ros its q.1) (fun q=>its.length - q.1) ((0,wb,(fun _=>0),⟨[],ros.map I0,none,mh⟩,M2)) (⟨Nat.zero_le _,hR3,V3 ros its⟩) (BA hF [1,3,40,50,51] Z Z ⟨rfl,rfl,rfl,rfl,rfl,rfl,trivial⟩) ?_)));rintro ⟨k,wb,nb,N,M⟩ ⟨hk0,hR,hT⟩;dsimp only at hk0 hR hT⊢;refine AF (AJ ?_)
  first | refine J (CD Z Z Z) ?_ | refine J (CE Z Z Z) ?_
  refine AG (AF ?_)
  first | refine Ay rfl (fun h69=>?_) (fun h69=>?_) | refine At rfl (fun h69=>?_) (fun h69=>?_)
  ·have hk1:k<its.length:=by have h:=h69;rw [List.length_map] at h;exact DA h
   refine Ak (AF (Al (AF ?_)))
   obtain ⟨X,hX⟩:∃X,its.getD k itm0=X:=⟨_,rfl⟩
   have hXk:its[k]=X:=by rw [←hX,Bd itm0 hk1]
   have hidk:X.id∉(its.take k).map AT.id:=by rw [←hXk];exact O1 hin hk1
   have hitk:Mu its X.id=(X,true):=by have h:=RZ hk1 (O1 hin hk1) rfl;rw [hXk] at h;exact h
   have hip:=item_p p X.id hf.b;rw [hits,hitk] at hip;have hk70:((its.map AT.id).map AH)[k]?=some (AH X.id):=by rw [List.getElem?_map,List.getElem?_map,List.getElem?_eq_getElem hk1,hXk];rfl
   refine AJ ?_
   first | refine J (CT (k) Z Z (rfl) (hk70) Tryz.underlying33 rfl Ep rfl) ?_ | refine J (CU (k) Z Z (rfl) (hk70) rfl Tryz.underlying33 Ep rfl) ?_
   first | refine J (AY Z Z Ab rfl) ?_ | refine J (AW Z Z Z Ab rfl) ?_ | refine J (AX Z Z (rfl) rfl Ab rfl) ?_
   refine AD Z Z (AG (AF (AJ ?_)))
   first | refine J (Av Z Z A4 rfl) ?_ | refine J (Aw Z Z A4 Z Z Z) ?_ | refine J (Ax Z Z (rfl) rfl A4 rfl) ?_
   refine AC Z Z (J (B1 (hip) Z Z) (AC Z Z ?_))
   first | refine J (B6 Z Z Z) ?_ | refine J (B7 Z Z Z) ?_
   first | refine J (B6 Z Z Z) ?_ | refine J (B7 Z Z Z) ?_
   refine U (DO 7 FG Z Z Z Z) (U (CF Z Z Z Z Z Z Z C6) (AD Z Z (AG (AF (AJ ?_)))))
   first | refine J (Av Z Z Af rfl) ?_ | refine J (Aw Z Z Af Z Z Z) ?_ | refine J (Ax Z Z (rfl) rfl Af rfl) ?_
   refine J (DH zl107 pl107 Z Z Z) (X5 79 rfl (U (C5 8 Z Z Z Z Z Z Z) (AD Z Z (AG (AF (NY 13 8 40 (ds:=ndC ⟨X,none,[],none,[],true⟩) hF Z Z Z Z Z Z Z Z Z Z Z (fun _=>rfl) fun bn hbn=>?_))))));have hNk:N.nd.length=k:=nd_len hT;have hR1:=hR.fresh (m:=SH ⟨X,none,[],none,[],true⟩) hbn;have hnb:((List.range k).map nb).length=k:=by simp
   have hwb1:Cj M bn (SH ⟨X,none,[],none,[],true⟩) wb=some (V1 N.nh ((List.range k).map nb).length N.mh N.po.length mv):=by rw [hnb];have h:_=some (V1 N.nh N.nd.length N.mh N.po.length mv):=hR1.w;rw [hNk] at h;exact h
   have hnr:BX (ET (Cj M bn (SH ⟨X,none,[],none,[],true⟩)) wb) N.nh XN 1 (((List.range k).map nb).map BK):=by have h:BX _ N.nh XN 1 ((List.range N.nd.length).map fun j=>BK (nb j)):=(hR1.rs.del hR1.w).1 .n;rw [hNk] at h;rw [List.map_map];exact h
   refine a_split 5 20 40 Z Z Z hwb1 Z Z Z Z (Gp [[],[],[1],[1,2],[1,2,3],[],[],[6],[6,7],[6,7,8],[],[10],[6,7,8,9,10,11],[],[0,1,2,3,4,6,7,8,9,10,11,12],[0,1,2,3,4,6,7,8,9,10,11,12,14],[0,1,2,3,4,6,7,8,9,10,11,12,14,15],[0,1,2,3,4,5,6,7,8,9,10,11,12,14,15,16],[0,1,2,3,4,5,6,7,8,9,10,11,12,14,15,16,17],[0,1,2,3,4,5,6,7,8,9,10,11,12,13,14,15,16,17,18]] BF rfl (Hh ?_))
   first | refine AE [5] [] Z Z (fun _=>AB (Be Z Z)) ?_ | refine AI [5] Z Z (fun _=>AB (Be Z Z)) ?_
   first | refine AE [5] [] Z Z (fun _=>AB (Be Z Z)) ?_ | refine AI [5] Z Z (fun _=>AB (Be Z Z)) ?_
   first | refine AE [82] [] Z Z (fun _=>AB (BS Z Z)) ?_ | refine AI [82] Z Z (fun _=>AB (BS Z Z)) ?_ | refine AE [82] [] Z Z (fun _=>AB (BQ Z Z)) ?_ | refine AI [82] Z Z (fun _=>AB (BQ Z Z)) ?_ | refine AE [82] [] Z Z (fun _=>AB (BT Z Z)) ?_ | refine AI [82] Z Z (fun _=>AB (BT Z Z)) ?_ | refine AE [82] [] Z Z (fun _=>AB (BR Z Z)) ?_ | refine AI [82] Z Z (fun _=>AB (BR Z Z)) ?_
   first | refine AE [83] [] Z Z (fun _=>AB (AM rfl JV Z Z Z)) ?_ | refine AI [83] Z Z (fun _=>AB (AM rfl JV Z Z Z)) ?_ | refine AE [83] [] Z Z (fun _=>AB (AO rfl JV Z Z Z)) ?_ | refine AI [83] Z Z (fun _=>AB (AO rfl JV Z Z Z)) ?_ | refine AE [83] [] Z Z (fun _=>AB (AP rfl JV Z Z Z)) ?_ | refine AI [83] Z Z (fun _=>AB (AP rfl JV Z Z Z)) ?_ | refine AE [83] [] Z Z (fun _=>AB (AN rfl JV Z Z Z)) ?_ | refine AI [83] Z Z (fun _=>AB (AN rfl JV Z Z Z)) ?_ | refine AE [83] [] Z Z (fun _=>AB (AL rfl JV Z Z Z)) ?_ | refine AI [83] Z Z (fun _=>AB (AL rfl JV Z Z Z)) ?_
   refine AE [84] [20,51] Z Z (fun _=>AB (Uw 51 0 Z Z Z Z UL rfl)) ?_
   first | refine AE [10] [] Z Z (fun _=>AB (Be Z Z)) ?_ | refine AI [10] Z Z (fun _=>AB (Be Z Z)) ?_
   first | refine AE [5] [] Z Z (fun _=>AB (Be Z Z)) ?_ | refine AI [5] Z Z (fun _=>AB (Be Z Z)) ?_
   first | refine AE [87] [] Z Z (fun _=>AB (BS Z Z)) ?_ | refine AI [87] Z Z (fun _=>AB (BS Z Z)) ?_ | refine AE [87] [] Z Z (fun _=>AB (BQ Z Z)) ?_ | refine AI [87] Z Z (fun _=>AB (BQ Z Z)) ?_ | refine AE [87] [] Z Z (fun _=>AB (BT Z Z)) ?_ | refine AI [87] Z Z (fun _=>AB (BT Z Z)) ?_ | refine AE [87] [] Z Z (fun _=>AB (BR Z Z)) ?_ | refine AI [87] Z Z (fun _=>AB (BR Z Z)) ?_
   first | refine AE [88] [] Z Z (fun _=>AB (AM rfl GT Z Z Z)) ?_ | refine AI [88] Z Z (fun _=>AB (AM rfl GT Z Z Z)) ?_ | refine AE [88] [] Z Z (fun _=>AB (AO rfl GT Z Z Z)) ?_ | refine AI [88] Z Z (fun _=>AB (AO rfl GT Z Z Z)) ?_ | refine AE [88] [] Z Z (fun _=>AB (AP rfl GT Z Z Z)) ?_ | refine AI [88] Z Z (fun _=>AB (AP rfl GT Z Z Z)) ?_ | refine AE [88] [] Z Z (fun _=>AB (AN rfl GT Z Z Z)) ?_ | refine AI [88] Z Z (fun _=>AB (AN rfl GT Z Z Z)) ?_ | refine AE [88] [] Z Z (fun _=>AB (AL rfl GT Z Z Z)) ?_ | refine AI [88] Z Z (fun _=>AB (AL rfl GT Z Z Z)) ?_
   first | refine AE [89] [20] Z Z (fun _=>AB (AY Z Z Gb rfl)) ?_ | refine AE [89] [20] Z Z (fun _=>AB (AW Z Z Z Gb rfl)) ?_ | refine AE [89] [20] Z Z (fun _=>AB (AX Z Z (rfl) rfl Gb rfl)) ?_
   first | refine AE [13] [] Z Z (fun _=>AB (Be Z Z)) ?_ | refine AI [13] Z Z (fun _=>AB (Be Z Z)) ?_
   refine Gn [91] [9] [(92,_)] Z Z (fun _=>Gq (Fq 9 sl98 Z Z Z Z Z Z Z Z)) (.inr ⟨92,_,rfl,rfl,rfl,rfl,rfl⟩) Z Z Z Z Z (Gn [90,92] [60,40,9] [(93,_)] Z Z (fun _=>Gq (Je 90 60 40 hnr Z Z (by simp) Z Z Z Z Z (If (emb:=BK) ((List.range k).map nb) [bn] Z Z Z Z Z Z Z Z sl98 (by simp;omega) Z Z Z Z))) (.inr ⟨93,_,rfl,rfl,rfl,rfl,rfl⟩) Z Z Z Z Z ?_)
   first | refine AE [13] [] Z Z (fun _=>AB (Be Z Z)) ?_ | refine AI [13] Z Z (fun _=>AB (Be Z Z)) ?_
   first | refine AE [81] [] Z Z (fun _=>AB (BS Z Z)) ?_ | refine AI [81] Z Z (fun _=>AB (BS Z Z)) ?_ | refine AE [81] [] Z Z (fun _=>AB (BQ Z Z)) ?_ | refine AI [81] Z Z (fun _=>AB (BQ Z Z)) ?_ | refine AE [81] [] Z Z (fun _=>AB (BT Z Z)) ?_ | refine AI [81] Z Z (fun _=>AB (BT Z Z)) ?_ | refine AE [81] [] Z Z (fun _=>AB (BR Z Z)) ?_ | refine AI [81] Z Z (fun _=>AB (BR Z Z)) ?_
   first | refine AE [95] [] Z Z (fun _=>AB (AM rfl GT Z Z Z)) ?_ | refine AI [95] Z Z (fun _=>AB (AM rfl GT Z Z Z)) ?_ | refine AE [95] [] Z Z (fun _=>AB (AO rfl GT Z Z Z)) ?_ | refine AI [95] Z Z (fun _=>AB (AO rfl GT Z Z Z)) ?_ | refine AE [95] [] Z Z (fun _=>AB (AP rfl GT Z Z Z)) ?_ | refine AI [95] Z Z (fun _=>AB (AP rfl GT Z Z Z)) ?_ | refine AE [95] [] Z Z (fun _=>AB (AN rfl GT Z Z Z)) ?_ | refine AI [95] Z Z (fun _=>AB (AN rfl GT Z Z Z)) ?_ | refine AE [95] [] Z Z (fun _=>AB (AL rfl GT Z Z Z)) ?_ | refine AI [95] Z Z (fun _=>AB (AL rfl GT Z Z Z)) ?_
   refine Gn [96,93] [20,60] [] Z Z (fun _=>Gq (CF Z Z Z Z Z Z Z sz98)) (.inl ⟨rfl,rfl⟩) Z Z Z Z Z (Gn [85,86] [50] [(97,_)] Z Z (fun _=>Gq (Hy (F8 nb ((its.take k).map AT.id)) (X.id) ((.pointer none)) Z Z Z UU KB za99 Z Z)) (.inr ⟨97,_,rfl,rfl,rfl,rfl,rfl⟩) Z Z Z Z Z ?_)
   first | refine AE [97] [] Z Z (fun _=>AB (B6 Z Z Z)) ?_ | refine AI [97] Z Z (fun _=>AB (B6 Z Z Z)) ?_ | refine AE [97] [] Z Z (fun _=>AB (B7 Z Z Z)) ?_ | refine AI [97] Z Z (fun _=>AB (B7 Z Z Z)) ?_
   refine GR 19 Z Z Z (BC 20 Z Z (U (Hz (F8 nb ((its.take k).map AT.id)) (X.id) ((.pointer none)) (pV bn 0) Z Z Z KB Z Z) (AG ⟨rfl,?_⟩)));refine GQ (AF (T0 93 60 40 20 0 hF Z Z Z (by simp) (by simp) Z Z (fun _ _=>rfl) (fun _ _=>rfl) rfl (fun _ _=>rfl) (fun _ _=>rfl) Z Z (fun _ _=>rfl) (fun _ _=>rfl) (fun _ _=>rfl) (fun _ _=>rfl) fun b1 c1 hb1 hc1=>(NY 5 20 40 (ds:=[hdr (some (b1,c1)) ((List.range k).map nb++ [bn]).length,hdr N.mh N.po.length,Kb (.map (some mv))]) hF Z Z Z Z Z Z Z Z Z Z Z (fun _=>rfl) fun wb2 hwb2=>?_)));have hby:BM (F8 nb ((its.take k).map AT.id)) X.id (pV bn 0)=F8 (MB nb k bn) ((its.take (k+1)).map AT.id):=by have h:=Tc (d:=(0:Int)) (f:=nb) (b:=bn) hidk;rw [show ((its.take k).map AT.id).length=k by rw [List.length_map,List.length_take];omega,←hXk,←Cp hk1] at h;rw [←hXk];exact h
   rw [hby];have e1:((List.range N.nd.length).map (fun j=>BK (nb j))++ [BK bn])=((List.range k).map nb++ [bn]).map BK:=by rw [hNk,List.map_append,List.map_map];rfl
   have e2:((List.range k).map nb++ [bn]).length=N.nd.length+1:=by simp;omega
   have hR2:=hR1.addN2 (x:=⟨X,none,[],none,[],true⟩) (bn:=bn) Z Z Z Z (QC _ _ _) (fun j hj e=>by have h1:=hR.n j _ (List.getElem?_eq_getElem hj);rw [e,hbn] at h1;cases h1) hb1 (cap:=c1) (by have h:=hc1;simp at h;omega) (wb':=wb2) (by rw [e1];exact hwb2);rw [e1,←e2,hNk] at hR2;have hT0:=T_zeroX (x:=X) (nh:=some (b1,c1)) hX hT;have hfk:ZC X:=hitx X (by rw [←hXk];exact List.getElem_mem hk1);have hdl:=KK hfk;refine AJ ?_
   first | refine J (Av Z Z Af rfl) ?_ | refine J (Aw Z Z Af Z Z Z) ?_ | refine J (Ax Z Z (rfl) rfl Af rfl) ?_
   refine J (B1 (KN X (by have h:=hfk.1;omega) (by have h:=hfk.2.1;omega) (by have h:=hfk.2.2;omega)) Z Z) (AC Z Z ?_)
   first | refine J (B6 Z Z Z) ?_ | refine J (B7 Z Z Z) ?_
   first | refine J (B6 Z Z Z) ?_ | refine J (B7 Z Z Z) ?_
   refine AD Z Z (AD Z Z (AG (AF (AJ (AC Z Z ?_)))))
   first | refine J (Cz rfl Tryz.underlying44 rfl) ?_ | refine J (C9 Z Z Tryz.underlying44 rfl) ?_ | refine J (DB rfl Tryz.underlying44 rfl) ?_ | refine J (Cy rfl Tryz.underlying44 rfl) ?_ | refine J (Cr rfl Tryz.underlying44 rfl) ?_ | refine J (Cw rfl Tryz.underlying44 rfl) ?_
   refine AC Z Z (AG (Al (DG (α:=Nat×Net×MF) (fun r=>⟨142,[(1,(.ptr 1 0 0)),(5,(.d (pD wb2 0))),(6,(.map 3 0)),(66,(.d (.sl none ((its.map AT.id).map AH)))),(67,(.d (AH ((its.map AT.id).length:Int)))),(68,(.d (AH (k:Int)))),(13,(.d (pD bn 0))),(104,(.d (.sl none ((dltS X).map NM)))),(105,(.d (AH ((dltS X).length:Int)))),(106,(.d (AH (r.1:Int))))],[(1,[.blk 31 [.d (.sl none (p.ro.map Ff)),.d (.sl none (p.it.map BH))]]),(3,[CL EX Kb pm]),(40,[.multi r.2.2]),(50,[CL AH Kb (F8 (MB nb k bn) ((its.take (k+1)).map AT.id))]),(51,[.addr 50 0 (.map (some mv))])]⟩) (fun r=>r.1≤(dltS X).length∧CK wb2 mv (MB nb k bn) pb2 r.2.1 r.2.2∧Ap r.2.1=EM ros its k r.1) (fun r=>(dltS X).length - r.1) ((0,_,_)) (⟨Nat.zero_le _,hR2,hT0⟩) (BA hF [1,3,40,50,51] Z Z ⟨rfl,rfl,rfl,rfl,rfl,rfl,rfl,rfl,rfl,rfl,trivial⟩) ?_)));rintro ⟨t,N3,M3⟩ ⟨ht0,hR4,hT3⟩;dsimp only at ht0 hR4 hT3⊢;refine AF (AJ ?_)
   first | refine J (CD Z Z Z) ?_ | refine J (CE Z Z Z) ?_
   refine AG (AF ?_)
   first | refine Ay rfl (fun h107=>?_) (fun h107=>?_) | refine At rfl (fun h107=>?_) (fun h107=>?_)
   ·have ht1:t<(dltS X).length:=DA h107;refine Ak (AF (Al (AF (AJ ?_))))
    first | refine J (CT (t) Z Z (rfl) (A0 ht1) Tryz.underlying44 rfl Eo rfl) ?_ | refine J (CU (t) Z Z (rfl) (A0 ht1) rfl Tryz.underlying44 Eo rfl) ?_
    first | refine J (Av Z Z rw55 rfl) ?_ | refine J (Aw Z Z rw55 Z Z Z) ?_ | refine J (Ax Z Z (rfl) rfl rw55 rfl) ?_
    refine U (DO 10 zl55 Z Z Z Z) (U (CF Z Z Z Z Z Z Z Eo) (AG (AF (AJ (AC Z Z ?_)))))
    first | refine J (AM rfl Oy Z Z Z) ?_ | refine J (AO rfl Oy Z Z Z) ?_ | refine J (AP rfl Oy Z Z Z) ?_ | refine J (AN rfl Oy Z Z Z) ?_ | refine J (AL rfl Oy Z Z Z) ?_
    first | refine J (Av Z Z Ah rfl) ?_ | refine J (Aw Z Z Ah Z Z Z) ?_ | refine J (Ax Z Z (rfl) rfl Ah rfl) ?_
    by_cases hm:((dltS X)[t]).1∈ros.map Roo.r
    ·refine J (LC pm ((dltS X)[t]).1 (.pointer none) (pV (pb2 ((ros.map Roo.r).idxOf ((dltS X)[t]).1)) 0) Z Z Z RD DU WV (hpin2 _ hm) rfl) (AD Z Z (AG (AF (AJ (AC Z Z (J (Q1 Tryz.underlying109 Z Z) (AG (EB rfl (rfl) ?_))))))));have hnl3:N3.nd.length=k+1:=T_nd hT3;have hpl3:N3.po.length=ros.length:=T_po hT3
     obtain ⟨x,hx⟩:∃x,N3.nd[k]?=some x:=⟨_,List.getElem?_eq_getElem (by omega)⟩
     have hjl:(ros.map Roo.r).idxOf ((dltS X)[t]).1<N3.po.length:=by rw [hpl3];have h:=List.idxOf_lt_length_of_mem hm;rw [List.length_map] at h;exact h
     obtain ⟨y,hy⟩:∃y,N3.po[(ros.map Roo.r).idxOf ((dltS X)[t]).1]?=some y:=⟨_,List.getElem?_eq_getElem hjl⟩
     have hbd:=Yw hitl hitx hk1 hT3 hx hy;have hda:=KL X _ (List.getElem_mem ht1);have hj:=join_c hR4 hx hy ((dltS X)[t]).2 ⟨by omega,by omega⟩ hbd.1 hbd.2.1 hbd.2.2.1 hbd.2.2.2;rw [Fo] at hj;refine AJ (AC Z Z (AC Z Z ?_))
     first | refine J (AM rfl EW Z Z Z) ?_ | refine J (AO rfl EW Z Z Z) ?_ | refine J (AP rfl EW Z Z Z) ?_ | refine J (AN rfl EW Z Z Z) ?_ | refine J (AL rfl EW Z Z Z) ?_
     first | refine J (AY Z Z BI rfl) ?_ | refine J (AW Z Z Z BI rfl) ?_ | refine J (AX Z Z (rfl) rfl BI rfl) ?_
     refine Mh (Jd hj rfl [40] ⟨rfl,trivial⟩ Z Z Z Z (fun r H' ⟨e1,N',M',e2,_⟩=>by subst e1 e2;exact ⟨rfl,rfl,rfl⟩) rfl) rfl ?_;rintro _ ⟨r,H',⟨rfl,N4,M4,rfl,hR5,hnh4,hmh4,⟨x',hx4,ex4⟩,y',hy4,ey4⟩,rfl⟩;refine AG (AJ (J (Bi Z Z (IntWalk.i64_in _ (by omega)) rfl) (AC Z Z (AG ?_))));exact ⟨(t+1,N4,M4),⟨by show t+1≤_;omega,hR5,T_stepX hX hroN hk1 ht1 hT3 rfl hm hx hy hx4 ex4 hy4 ey4⟩,by show (dltS X).length - (t+1)<(dltS X).length - t;omega,BA hF [1,3,40,50,51] rfl (rfl) ⟨rfl,rfl,rfl,rfl,rfl,rfl,rfl,rfl,rfl,rfl,trivial⟩⟩
    ·refine J (LC pm ((dltS X)[t]).1 (.pointer none) (.pointer none) Z Z Z RD DU WV (hpout _ hm) rfl) (AD Z Z (AG (AF (AJ ?_))));refine AC Z Z (J (Q1 Tryz.underlying109 Z Z) (AG (Fs rfl (rfl) (Ak (AJ (J (Bi Z Z (IntWalk.i64_in _ (by omega)) rfl) (AC Z Z (AG ?_))))))));exact ⟨(t+1,N3,M3),⟨by show t+1≤_;omega,hR4,by show Ap N3=EM ros its k (t+1);rw [T_skipX hX ht1 hm];exact hT3⟩,by show (dltS X).length - (t+1)<(dltS X).length - t;omega,BA hF [1,3,40,50,51] rfl (rfl) ⟨rfl,rfl,rfl,rfl,rfl,rfl,rfl,rfl,rfl,rfl,trivial⟩⟩
   ·refine CW ?_;have hte:t=(dltS X).length:=by have h:=h107;omega
    have hT5:Ap N3=FI ros its (k+1):=by rw [←T_lastX hX hk1,←hte];exact hT3
    refine AJ (J (Bi Z Z (IntWalk.i64_in _ (by omega)) rfl) (AC Z Z (AG ?_)));exact ⟨(k+1,wb2,MB nb k bn,N3,M3),⟨by show k+1≤_;omega,hR4,hT5⟩,by show its.length - (k+1)<its.length - k;omega,BA hF [1,3,40,50,51] rfl (rfl) ⟨rfl,rfl,rfl,rfl,rfl,rfl,trivial⟩⟩
  ·refine CW (AF (AF ?_));have hke:k=its.length:=by have h:=h69;rw [List.length_map] at h;omega
   subst hke;rw [List.take_length];have hwbf:=hR.w;have hpzf:N.mh=none ->N.po.length=0:=fun h=>by have h1:BX M N.mh UB 1 ((List.range N.po.length).map fun j=>BK (pb2 j)):=hR.rs.1 .m;have h2:=SA h1 h;rw [List.length_range] at h2;exact h2
   have hids:=ids_of hT;have hNl:N.po.length=ros.length:=po_len hT;refine AJ (AC Z Z ?_)
   first | refine J (BS Z Z) ?_ | refine J (BQ Z Z) ?_ | refine J (BT Z Z) ?_ | refine J (BR Z Z) ?_
   first | refine J (AM rfl JU Z Z Z) ?_ | refine J (AO rfl JU Z Z Z) ?_ | refine J (AP rfl JU Z Z Z) ?_ | refine J (AN rfl JU Z Z Z) ?_ | refine J (AL rfl JU Z Z Z) ?_
   refine J (Ej (f:=40) Z Z (hwbf) rfl UM rfl) (J (SK hpzf rfl Tryz.underlying100 rfl) (AC Z Z (AG (Al (DG (α:=Nat×Net×MF) (fun r=>⟨142,[(5,(.d (pD wb 0))),(126,(.d (hdr N.mh N.po.length))),(127,(.d (AH (N.po.length:Int)))),(128,(.d (AH (r.1:Int))))],[(40,[.multi r.2.2]),(50,[CL AH Kb (F8 nb (its.map AT.id))]),(51,[.addr 50 0 (.map (some mv))])]⟩) (fun r=>r.1≤N.po.length∧CK wb mv nb pb2 r.2.1 r.2.2∧r.2.1.nd=N.nd∧r.2.1.mh=N.mh∧r.2.1.po=(N.po.take r.1).map Kt++N.po.drop r.1) (fun r=>N.po.length - r.1) ((0,N,M)) (⟨Nat.zero_le _,hR,rfl,rfl,rfl⟩) (BA hF [40,50,51] Z Z ⟨rfl,rfl,rfl,rfl,trivial⟩) ?_)))));rintro ⟨j,N5,M5⟩ ⟨hj0,hR5,hnd5,hmh5,hpo5⟩;dsimp only at hj0 hR5 hnd5 hmh5 hpo5⊢;refine AF (AJ ?_)
   first | refine J (CD Z Z Z) ?_ | refine J (CE Z Z Z) ?_
   refine AG (AF ?_)
   first | refine Ay rfl (fun h129=>?_) (fun h129=>?_) | refine At rfl (fun h129=>?_) (fun h129=>?_)
   ·have hj1:j<N.po.length:=DA h129;refine Ak (AF (Al (AF ?_)));have hl5:N5.po.length=N.po.length:=by rw [hpo5];simp;omega
    have hpr5:BX M5 N.mh UB 1 ((List.range N.po.length).map fun j=>BK (pb2 j)):=by have h:BX M5 N5.mh UB 1 ((List.range N5.po.length).map fun j=>BK (pb2 j)):=hR5.rs.1 .m;rw [hl5,hmh5] at h;exact h
    obtain ⟨rb,rc,hre⟩:=SJ hpr5 (j:=j) (by rw [List.length_range];exact hj1);have hrow:=QK hpr5 hre
    obtain ⟨y,hy⟩:∃y,N5.po[j]?=some y:=⟨_,List.getElem?_eq_getElem (by omega)⟩
    obtain ⟨hyb,hyq⟩:=hR5.pp j y hy;have hqz:=SA hyq;refine AJ (J (SL hre (j) Z Z Z hj1 Tryz.underlying100 W3 rfl) (J (Zdk (f:=40) (e:=j) (off:=0) rfl (by omega) rfl (hrow) ((by rw [List.getElem?_map,List.getElem?_range hj1];rfl)) rfl BE rfl) ?_));refine AD Z Z (AG (AJ (AC Z Z (AC Z Z ?_))))
    first | refine J (BS Z Z) ?_ | refine J (BQ Z Z) ?_ | refine J (BT Z Z) ?_ | refine J (BR Z Z) ?_
    first | refine J (AM rfl EU Z Z Z) ?_ | refine J (AO rfl EU Z Z Z) ?_ | refine J (AP rfl EU Z Z Z) ?_ | refine J (AN rfl EU Z Z Z) ?_ | refine J (AL rfl EU Z Z Z) ?_
    refine J (Ej (f:=40) Z Z (hyb) rfl Gb rfl) (J (SK hqz rfl Tryz.underlying98 rfl) ?_)
    first | refine J (BS Z Z) ?_ | refine J (BQ Z Z) ?_ | refine J (BT Z Z) ?_ | refine J (BR Z Z) ?_
    first | refine J (AM rfl GV Z Z Z) ?_ | refine J (AO rfl GV Z Z Z) ?_ | refine J (AP rfl GV Z Z Z) ?_ | refine J (AN rfl GV Z Z Z) ?_ | refine J (AL rfl GV Z Z Z) ?_
    refine U (Yv (f:=40) Z Z Z Z (hyb) ((by show _<10;omega)) rfl Ep) (AG ?_);have hR6:=hR5.setPo (y':=Kt y) hy Z Z;refine AJ (J (Bi Z Z (IntWalk.i64_in _ (by omega)) rfl) (AC Z Z (AG ?_)));exact ⟨(j+1,{N5 with po:=N5.po.set j (Kt y)},_),⟨by show j+1≤_;omega,hR6,hnd5,hmh5,YR hj1 hpo5 hy⟩,by show N.po.length - (j+1)<N.po.length - j;omega,BA hF [40,50,51] rfl (rfl) ⟨rfl,rfl,rfl,rfl,trivial⟩⟩
   ·refine CW (AF ?_);have hje:j=N.po.length:=by have h:=h129;omega
    subst hje;rw [List.take_length,List.drop_length,List.append_nil] at hpo5;have hids5:BY N5=its.map AT.id:=by unfold BY at hids⊢;rw [hnd5];exact hids
    refine AJ (AC Z Z (AD Z Z (AD Z Z (AG (Ae ?_)))));exact ⟨_,[40,50,51],_,Aa rfl,rfl,rfl,wb,mv,nb,pb2,N5,M5,some (List.range (F8 nb (its.map AT.id)).length,(F8 nb (its.map AT.id)).length),rfl,by rw [hids5];rfl,hR5,by rw [net_fin hits hros];exact Xe hT hnd5 hpo5⟩
end Go.Proofs.YtnkkaeblokdifaaGreat
/- Layer 30: the network while items are removed, in closed form. Plain laws. -/
namespace Go.Proofs.YtnkkaeblokdifaaGreat
open Go.RowKit
def DY (ds:List (List (A5×Int))) (on:Nat ->Bool) (r:A5):Int:=((List.range ds.length).map fun i=>if on i=true then Br (ds.getD i []) r else 0).sum
def Xq (on:Nat ->Bool) (q:List Nat):Nat:=q.findIdx fun i=>!on i
def XM (ds:List (List (A5×Int))) (on:Nat ->Bool) (x:Roo):Po:=⟨x.r,x.n,DY ds on x.r,none,negQ ds x.r,Xq on (negQ ds x.r)⟩
def IH (rs:List A5) (its:List AT) (on:Nat ->Bool) (i:Nat):Nd:={Xj rs ((its.map dltS).take i) (its.getD i itm0) (dltS (its.getD i itm0)) with on:=on i}
def netS (ros:List Roo) (its:List AT) (on:Nat ->Bool):Net:=⟨(List.range its.length).map (IH (ros.map Roo.r) its on),ros.map (XM (its.map dltS) on),none,none⟩
def Ag (on:Nat ->Bool) (i:Nat):Nat ->Bool:=fun j=>if j=i then false else on j
theorem UX (q:List Nat):Xq (fun _=>true) q=q.length:=by
 unfold Xq;exact List.findIdx_eq_length.2 fun x _=>rfl
theorem W5 (ds:List (List (A5×Int))) (r:A5):DY ds (fun _=>true) r=(ds.map fun D=>Br D r).sum:=by
 unfold DY
 congr 1
 apply List.ext_getElem (by simp)
 intro i h1 h2;simp only [List.getElem_map,List.getElem_range,if_true];rw [Bd [] (by simpa using h2)]
theorem Xg (p:Prb):Xh p=netS (CX p) (ordP p) fun _=>true:=by
 unfold Xh netS FI H3;dsimp only;rw [List.map_map]
 congr 1
 refine List.map_congr_left fun x _=>?_;have ht:((ordP p).map dltS).take (ordP p).length=(ordP p).map dltS:=List.take_of_length_le (by simp);show Kt (Sn _ x)=_;unfold Kt Sn XM;rw [ht,W5,UX]
theorem Pi {ros:List Roo} {f g:Roo ->Po} {j:Nat} (hj:j<ros.length) {y:Po} (hn:(ros.map Roo.r).Nodup) (h1:y=g ros[j]) (h2:∀x∈ros,x.r≠ros[j].r ->f x=g x):(ros.map f).set j y=ros.map g:=by
 refine List.ext_getElem? fun i=>?_;rw [List.getElem?_set]
 by_cases e:j=i
 ·subst e;rw [if_pos rfl,if_pos (by simpa using hj),List.getElem?_map,List.getElem?_eq_getElem hj,h1];rfl
 ·rw [if_neg e,List.getElem?_map,List.getElem?_map]
  cases hi:ros[i]? with
  | none=>rfl
  | some z=>
   have hil:=List.getElem?_eq_some_iff.1 hi;show some _=some _
   rw [h2 z (List.mem_of_getElem? hi) fun e2=>e (by
    have h3:(ros.map Roo.r)[j]'(by simpa using hj)=(ros.map Roo.r)[i]'(by simpa using hil.1):=by
     rw [List.getElem_map,List.getElem_map,hil.2,e2]
    exact (List.getElem_inj hn).1 h3)]
theorem Ly {ros:List Roo} {r:A5} (hm:r∈ros.map Roo.r):∃hj:(ros.map Roo.r).idxOf r<ros.length,ros[(ros.map Roo.r).idxOf r].r=r:=by
 have h:=List.idxOf_lt_length_of_mem hm;have h1:=List.getElem_idxOf h;rw [List.getElem_map] at h1;exact ⟨by simpa using h,h1⟩
theorem W7 {ros:List Roo} (hn:(ros.map Roo.r).Nodup) (f:Roo ->Po):∀(D:List (A5×Int)),(D.map Prod.fst).Nodup ->(efK (ros.map Roo.r) D).foldl Lc (ros.map f)=ros.map fun x=>{f x with sum:=(f x).sum - Br D x.r}:=by
 intro D
 induction D using WO with
 | h0=>
  intro _;show ros.map f=_;refine List.map_congr_left fun x _=>?_;show f x={f x with sum:=(f x).sum - 0}
  rw [Int.sub_zero]
 | h1 D d ih=>
  intro hD;rw [List.map_append,List.nodup_append] at hD;have hdn:d.1∉D.map Prod.fst:=fun h=>hD.2.2 _ h _ (List.mem_singleton_self _) rfl;have ih:=ih hD.1
  by_cases hm:d.1∈ros.map Roo.r
  ·rw [TO hm,List.foldl_append,ih];obtain ⟨hj,hr⟩:=Ly hm;show Lc _ ((ros.map Roo.r).idxOf d.1,d.2)=_;rw [Tj (y:=(fun x=>{f x with sum:=(f x).sum - Br D x.r}) ros[(ros.map Roo.r).idxOf d.1]) (by rw [List.getElem?_map,List.getElem?_eq_getElem hj];rfl)];refine Pi hj hn ?_ fun x hx hne=>?_
   ·dsimp only;have h1:Br (D++ [d]) ros[(ros.map Roo.r).idxOf d.1].r=d.2:=by rw [hr];exact DR hdn
    have h2:Br D ros[(ros.map Roo.r).idxOf d.1].r=0:=by rw [hr];exact DS hdn
    rw [h1,h2,Int.sub_zero]
   ·rw [hr] at hne;have:Br (D++ [d]) x.r=Br D x.r:=DI hne;rw [this]
  ·rw [Pk hm,ih];refine List.map_congr_left fun x hx=>?_;have:Br (D++ [d]) x.r=Br D x.r:=DI fun e=>hm (e▸List.mem_map.2 ⟨x,hx,rfl⟩);rw [this]
theorem Xp {ros:List Roo} (hn:(ros.map Roo.r).Nodup) (f:Roo ->Po) (ds:List (List (A5×Int))):∀(D:List (A5×Int)),(D.map Prod.fst).Nodup ->(plK (ros.map Roo.r) ds D).foldl Ni (ros.map f)=ros.map fun x=>{f x with mi:=if Br D x.r<0 then min (f x).mi (negQ ds x.r).length else (f x).mi}:=by
 intro D
 induction D using WO with
 | h0=>
  intro _;show ros.map f=_;refine List.map_congr_left fun x _=>?_;have h0:Br [] x.r=0:=rfl;rw [h0,if_neg (by omega)]
 | h1 D d ih=>
  intro hD;rw [List.map_append,List.nodup_append] at hD;have hdn:d.1∉D.map Prod.fst:=fun h=>hD.2.2 _ h _ (List.mem_singleton_self _) rfl;have ih:=ih hD.1
  by_cases hm:d.1∈ros.map Roo.r∧d.2<0
  ·rw [XO hm.1 hm.2,List.foldl_append,ih];obtain ⟨hj,hr⟩:=Ly hm.1;show Ni _ ((ros.map Roo.r).idxOf d.1,(negQ ds d.1).length)=_;rw [UW (y:=(fun x=>{f x with mi:=if Br D x.r<0 then min (f x).mi (negQ ds x.r).length else (f x).mi}) ros[(ros.map Roo.r).idxOf d.1]) (by rw [List.getElem?_map,List.getElem?_eq_getElem hj];rfl)];refine Pi hj hn ?_ fun x hx hne=>?_
   ·dsimp only;have h1:Br (D++ [d]) ros[(ros.map Roo.r).idxOf d.1].r=d.2:=by rw [hr];exact DR hdn
    have h2:Br D ros[(ros.map Roo.r).idxOf d.1].r=0:=by rw [hr];exact DS hdn
    rw [h1,h2,if_neg (by omega),if_pos hm.2,hr]
   ·rw [hr] at hne;have:Br (D++ [d]) x.r=Br D x.r:=DI hne;rw [this]
  ·rw [PZ hm,ih];refine List.map_congr_left fun x hx=>?_
   by_cases e:x.r=d.1
   ·have hin:d.1∈ros.map Roo.r:=e▸List.mem_map.2 ⟨x,hx,rfl⟩;have h1:Br (D++ [d]) x.r=d.2:=by rw [e];exact DR hdn
    have h2:Br D x.r=0:=by rw [e];exact DS hdn
    rw [h1,h2,if_neg (by omega),if_neg (fun h=>hm ⟨hin,h⟩)]
   ·have:Br (D++ [d]) x.r=Br D x.r:=DI e;rw [this]
theorem Zdc {on:Nat ->Bool} {i j:Nat} (h:j≠i):Ag on i j=on j:=if_neg h
theorem Eg {on:Nat ->Bool} {i:Nat}:Ag on i i=false:=if_pos rfl
theorem Hc {α:Type} (p:α ->Bool) (l m:List α):(l++m).findIdx p=if l.findIdx p<l.length then l.findIdx p else m.findIdx p+l.length:=List.findIdx_append
theorem JF {α:Type} {p q:α ->Bool}:∀{l:List α},(∀x∈l,p x=q x) ->l.findIdx p=l.findIdx q
 | [],_=>rfl
 | a::l,h=>by
  rw [List.findIdx_cons,List.findIdx_cons,h a (List.mem_cons_self ..),JF fun x hx=>h x (List.mem_cons_of_mem _ hx)]
theorem ID {n i:Nat} (h:i<n):∃B:List Nat,List.range n=List.range i++i::B∧∀j∈B,i<j:=by
 refine ⟨List.range' (i+1) (n - i - 1),?_,fun j hj=>?_⟩
 ·rw [List.range_eq_range',List.range_eq_range'];have h1:n=i+(1+(n - i - 1)):=by omega
  conv=>lhs;rw [h1]
  rw [←List.range'_append_1,Nat.zero_add,Nat.add_comm 1 (n - i - 1),List.range'_succ]
 ·rw [List.mem_range'_1] at hj;omega
theorem Jy {ds:List (List (A5×Int))} {i:Nat} (h:i<ds.length) (r:A5):∃B:List Nat,negQ ds r=negQ (ds.take i) r++((if Br (ds.getD i []) r<0 then [i] else [])++B)∧(∀j∈negQ (ds.take i) r,j<i)∧∀j∈B,i<j:=by
 obtain ⟨B,h1,h2⟩:=ID h;refine ⟨B.filter fun i=>decide (Br (ds.getD i []) r<0),?_,fun j hj=>?_,fun j hj=>h2 j (List.mem_filter.1 hj).1⟩
 ·unfold negQ;rw [h1,List.filter_append,List.filter_cons,show (ds.take i).length=i by rw [List.length_take];omega]
  congr 1
  ·refine List.filter_congr fun j hj=>?_;have hj':=List.mem_range.1 hj;rw [List.getD_eq_getElem?_getD,List.getD_eq_getElem?_getD,List.getElem?_take_of_lt hj']
  ·by_cases h0:Br (ds.getD i []) r<0
   ·rw [if_pos (decide_eq_true h0),if_pos h0];rfl
   ·rw [if_neg (by simpa using h0),if_neg h0];rfl
 ·unfold negQ at hj;have:=List.mem_range.1 (List.mem_filter.1 hj).1;rw [List.length_take] at this;omega
theorem miS_off {ds:List (List (A5×Int))} {i:Nat} (h:i<ds.length) (on:Nat ->Bool) (r:A5):Xq (Ag on i) (negQ ds r)=if Br (ds.getD i []) r<0 then min (Xq on (negQ ds r)) (negQ (ds.take i) r).length else Xq on (negQ ds r):=by
 obtain ⟨B,h1,h2,h3⟩:=Jy h r;rw [h1]
 generalize negQ (ds.take i) r=A at h2⊢
 have hA:A.findIdx (fun j=>!Ag on i j)=A.findIdx fun j=>!on j:=JF fun j hj=>by
  rw [Zdc (by have:=h2 j hj;omega)]
 have hB:B.findIdx (fun j=>!Ag on i j)=B.findIdx fun j=>!on j:=JF fun j hj=>by
  rw [Zdc (by have:=h3 j hj;omega)]
 unfold Xq
 by_cases h0:Br (ds.getD i []) r<0
 ·rw [if_pos h0,if_pos h0,Hc (fun j=>!Ag on i j) A,Hc (fun j=>!on j) A,hA]
  split
  ·omega
  ·have:(([i]:List Nat)++B).findIdx (fun j=>!Ag on i j)=0:=by
    rw [List.singleton_append,List.findIdx_cons];rw [Eg];rfl
   rw [this];omega
 ·rw [if_neg h0,if_neg h0,List.nil_append,Hc (fun j=>!Ag on i j) A,Hc (fun j=>!on j) A,hA,hB]
theorem W4 {ds:List (List (A5×Int))} {i:Nat} (h:i<ds.length) {on:Nat ->Bool} (ho:on i=true) (r:A5):DY ds (Ag on i) r=DY ds on r - Br (ds.getD i []) r:=by
 obtain ⟨B,h1,h3⟩:=ID h;unfold DY;rw [h1,List.map_append,List.map_append,List.map_cons,List.map_cons,List.sum_append,List.sum_append,List.sum_cons,List.sum_cons]
 have e1:(List.range i).map (fun j=>if Ag on i j=true then Br (ds.getD j []) r else 0)=(List.range i).map fun j=>if on j=true then Br (ds.getD j []) r else 0:=List.map_congr_left fun j hj=>by
  rw [Zdc (by have:=List.mem_range.1 hj;omega)]
 have e2:B.map (fun j=>if Ag on i j=true then Br (ds.getD j []) r else 0)=B.map fun j=>if on j=true then Br (ds.getD j []) r else 0:=List.map_congr_left fun j hj=>by
  rw [Zdc (by have:=h3 j hj;omega)]
 have e3:(if Ag on i i=true then Br (ds.getD i []) r else 0)=0:=by rw [Eg];rfl
 rw [e1,e2,e3,if_pos ho];omega
theorem Ti:∀(l:List (Nat×Int)) (po:List Po),(l.foldl Lc po).map CZ=l.foldl Lc (po.map CZ)
 | [],_=>rfl
 | e::l,po=>by
  rw [List.foldl_cons,List.foldl_cons,Ti l]
  congr 1
  unfold Lc;rw [List.getElem?_map]
  cases po[e.1]? with
  | none=>rfl
  | some y=>show (po.set e.1 _).map CZ=_;rw [List.map_set];rfl
theorem UV:∀(l:List (Nat×Nat)) (po:List Po),(l.foldl Ni po).map CZ=l.foldl Ni (po.map CZ)
 | [],_=>rfl
 | e::l,po=>by
  rw [List.foldl_cons,List.foldl_cons,UV l]
  congr 1
  unfold Ni;rw [List.getElem?_map]
  cases po[e.1]? with
  | none=>rfl
  | some y=>show (po.set e.1 _).map CZ=_;rw [List.map_set];rfl
theorem rm_S {ros:List Roo} {its:List AT} (hn:(ros.map Roo.r).Nodup) {on:Nat ->Bool} {N:Net} (h:Ap N=netS ros its on) {i:Nat} (hi:i<its.length) (ho:on i=true) {x:Nd} (hx:N.nd[i]?=some x):Ap (rmN N i x)=netS ros its (Ag on i):=by
 have hnd:N.nd.map Dz=(List.range its.length).map (IH (ros.map Roo.r) its on):=congrArg Net.nd h;have hpo:N.po.map CZ=ros.map (XM (its.map dltS) on):=congrArg Net.po h
 have hxe:Dz x=IH (ros.map Roo.r) its on i:=by
  have h1:(N.nd.map Dz)[i]?=some (Dz x):=by rw [List.getElem?_map,hx];rfl
  rw [hnd,List.getElem?_map,List.getElem?_range hi] at h1;exact (Option.some.inj h1).symm
 have hef:x.ef=efK (ros.map Roo.r) (dltS (its.getD i itm0)):=congrArg Nd.ef hxe;have hpl:x.pl=plK (ros.map Roo.r) ((its.map dltS).take i) (dltS (its.getD i itm0)):=congrArg Nd.pl hxe;have hdi:i<(its.map dltS).length:=by simpa using hi
 have hgi:(its.map dltS).getD i []=dltS (its.getD i itm0):=by rw [Bd [] hdi,Bd itm0 hi,List.getElem_map]
 unfold Ap rmN netS;dsimp only
 congr 1
 ·rw [List.map_set,hnd]
  have:Dz (EL x)=IH (ros.map Roo.r) its (Ag on i) i:=by
   have h1:Dz (EL x)=EL (Dz x):=rfl;rw [h1,hxe];unfold IH EL Ag;rw [if_pos rfl]
  rw [this];refine List.ext_getElem? fun j=>?_;rw [List.getElem?_set]
  by_cases e:i=j
  ·subst e;rw [if_pos rfl,if_pos (by simpa using hi),List.getElem?_map,List.getElem?_range hi];rfl
  ·rw [if_neg e,List.getElem?_map,List.getElem?_map]
   cases hj:(List.range its.length)[j]? with
   | none=>rfl
   | some z=>
    have hz:=List.getElem?_eq_some_iff.1 hj;have:z=j:=by have:=hz.2;simp at this;exact this.symm
    subst this;show some _=some _;unfold IH Ag;rw [if_neg (fun h=>e h.symm)]
 ·rw [UV,Ti,hpo,hef,hpl,W7 hn _ _ (Zc4 _),Xp hn _ _ _ (Zc4 _)];refine List.map_congr_left fun z _=>?_;unfold XM;dsimp only;rw [W4 hdi ho,miS_off hdi,hgi]
end Go.Proofs.YtnkkaeblokdifaaGreat
