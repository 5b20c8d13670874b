/- The kit's contract of slices.SortFunc at a row of pointers in a region of many blocks; the comparison reads the blocks. No program in sight. -/
import Derived.Test.YtnkkaeblokdifaaGreatMg22
import Derived.Shelf.SlSortCmp.Whole1
namespace Go.Proofs.YtnkkaeblokdifaaGreat
open Go.RowKit Go.Shelf
open Go.Sort (putRow Holds PermIn SortedIn SWO mapBlock onCells putCells)
variable {P:Program}
section
variable {ρr:Ren} {τ:Type}
theorem DS {α:Type} [Inhabited α] {enc:α ->Value} {w:World} {b off m:Nat} {dk:Array α} {os:Array Obj} {b':Nat} (hne:b'≠b) (hlt:b'<w.heap.size):(sortWorld enc w b off m dk os).heap[b']?=w.heap[b']?:=by
 unfold sortWorld;rw [Go.Sort.heap_grow_old _ _ (by rw [Go.Sort.size_putRow];exact hlt)];show (w.heap.modify b _)[b']?=_;rw [Array.getElem?_modify,if_neg (Ne.symm hne)]
theorem Lw {α:Type} [Inhabited α] {enc:α ->Value} {w:World} {b off m:Nat} {dk:Array α} {os:Array Obj}:w.heap.size≤(sortWorld enc w b off m dk os).heap.size:=by
 unfold sortWorld Go.Sort.grow;rw [Array.size_append,Go.Sort.size_putRow];exact Nat.le_add_right _ _
theorem WN (L:SlLaysF.n6 P ρr) {E:TypeId} {g g6:FuncId} {fn:Func} (hfn:P.funcs[g]?=some fn) (hnm:(fn.name== "runtime.NumGoroutine")=false) {c:Code} (hbody:fn.body=some c)
  {bl:τ ->Nat} {px:τ ->List D} {tx:τ ->TypeId} (cf:τ ->τ ->Int) (hO:SWO (ltOf cf)) (xs ys0:List τ) (hsz:xs.length<4611686018427387904) (hc:∀x∈xs,∀y∈xs,AT P g [.d (.ptr (.agg (px x))),.d (.ptr (.agg (px y)))] (.raw (.int .i64 (cf x y))))
  (hu:∀ys:List τ,ys.Perm xs ->ys.Pairwise (fun a b=>¬cf b a<0) ->ys=ys0)
  {F:Fr} {s:AS} {d:Nat} {x y:Operand} {ty:TypeId} {pos:String} {aft:Array Edge} {gd:Option (Nat×Bool)} {at_:Array TypeId} {f b cap n:Nat} {M:MF} {fa:AV} {row:List D} {hp':Hp}
  (hg:ρr.f 6=g6) (hM:hfam s.hp f=some [.multi M]) (hpx:∀x∈xs,M (bl x)=some (.cells (tx x) (px x))) (h1x:∀x∈xs,∀c∈px x,c.one=true) (hx:s.ev x=some (.d (.raw (sV b n cap)))) (hy:s.ev y=some fa) (hfa:∀w O ρ v,A1 w O ρ fa v ->v= .func (.func g) #[] #[]) (hb:M b=some (.row E 1 cap row)) (hrow:row=xs.map fun x=>pD (bl x) 0) (hn:n=xs.length) (hxs:xs≠ []) (hh:CG s.hp f (Cg M b (.row E 1 cap (ys0.map fun x=>pD (bl x) 0)))=some hp') (hd:Nat.blt d s.n=true):
  AM P F ⟨some d,.call {callee:= .value (.func g6),args:= #[x,y],argTypes:=at_},ty,pos,aft,gd⟩ s ⟨s.n,(d,.d (.tup []))::s.env,hp'⟩ (fun _ _=>true):=by
 subst hg hrow hn;intro ρ act w hs
 obtain ⟨fn6,hf1,hf2,hf3⟩:∃fn,P.funcs[ρr.f 6]?=some fn∧(fn.name== "runtime.NumGoroutine")=false∧fn.body.isSome=true:=by
  obtain ⟨nm,hn,hf⟩:=L.f6;exact ⟨_,hf,hn,rfl⟩
 unfold Oper.wp;rw [show (#[x,y]:Array Operand)=[x,y].toArray from rfl,Dz hf1 hf2 hf3,Oper.upon_enter]
 suffices key:Calls P (ρr.f 6) ([x,y].map act.eval).toArray w fun e w'=>e= .returned (.tuple #[])∧SR F ⟨s.n,s.env,hp'⟩ ρ act w' by
  refine key.mono fun e w' ⟨e1,hsr⟩=>?_;subst e1;exact ⟨ρ,hsr.put (KJ hd) (.d (.tup rfl fun i c v hc=>by cases hc)),fun _ _ _=>rfl⟩
 have r0:=hs.raw hx;have r1:=hfa _ _ _ _ (hs.ev hy);have h3:=hs.heap
 have hO0:Aq ρ s.hp b:=⟨f,b,_,by rw [IV hM,hb];rfl,by rw [(hs.rowN hM hb).1];rfl⟩
 obtain ⟨hρ,us,q1,q2,q3⟩:=hs.rowN hM hb;show Calls P (ρr.f 6) #[act.eval x,act.eval y] w _;rw [r1,r0];have hn:0<xs.length:=List.length_pos_iff.2 hxs
 have hus:us=xs.map fun x=>pV (bl x) 0:=by
  apply List.ext_getElem?
  intro i;rw [List.getElem?_map]
  by_cases hi:i<xs.length
  ·rw [List.getElem?_eq_getElem hi];obtain ⟨u,h1,h2,h4⟩:=q2.2.2 i (pD (bl xs[i]) 0) (by rw [List.getElem?_map,List.getElem?_eq_getElem hi];rfl) 0 (pD (bl xs[i]) 0) rfl;rw [Nat.mul_one,Nat.add_zero] at h1;rw [h1]
   cases h4 with
   | raw _=>rfl
  ·have:us.length=xs.length:=by have:=q2.1;rwa [List.length_map,Nat.mul_one] at this
   rw [List.getElem?_eq_none (by omega),List.getElem?_eq_none (by omega)];rfl
 obtain ⟨cur,p1,p2,p3,p3',p4⟩:∃cur,w.heap[b]?=some (.cells cur E (0,0))∧cur.size=cap∧xs.length≤cap∧cap≤maxLen∧cur.toList.take xs.length=us:=by
  rcases q1.2 with ⟨_,h⟩ | ⟨b',cap',cur,e1,_,e2,e3,e4,e5,e6⟩
  ·rw [List.length_map] at h;omega
  ·rw [List.length_map] at e1;injection e1 with e1 e7 e8
   injection e1 with e1
   injection e1 with e1
   subst e1 e8;rw [List.length_map] at e3 e6;exact ⟨cur,e2,by omega,e3,e4,by rwa [Nat.mul_one] at e6⟩
 rw [List.length_map] at*;have hlt:b<w.heap.size:=(Array.getElem?_eq_some_iff.1 p1).1;have hOb:F.O ρ s.hp b:= .inr hO0;have hOl:∀b',F.O ρ s.hp b' ->b'<w.heap.size:=fun b' h=>h3.ltO h
 let x0:τ:=xs[0]
 let ix:Nat ->Nat:=fun i=>if i<xs.length then i else 0
 let el:Nat ->τ:=fun i=>(xs[ix i]?).getD x0
 have hel:∀i,el i∈xs:=fun i=>by
  have hix:ix i<xs.length:=by show (if _ then _ else _)<_;split<;>omega
  show (xs[ix i]?).getD x0∈xs;rw [List.getElem?_eq_getElem hix];exact List.getElem_mem hix
 have heli:∀i (hi:i<xs.length),el i=xs[i]:=fun i hi=>by
  show (xs[ix i]?).getD x0=_;rw [show ix i=i from if_pos hi,List.getElem?_eq_getElem hi];rfl
 let enc:Nat ->Value:=fun i=>pV (bl (el i)) 0
 let cf':Nat ->Nat ->Int:=fun i j=>cf (el i) (el j)
 have hO':SWO (ltOf cf'):=⟨fun x=>hO.irrefl (el x),fun x y z=>hO.trans (el x) (el y) (el z),fun x y z=>hO.ntrans (el x) (el y) (el z)⟩
 have henc1:OneCell enc:=fun _=>rfl;have hd0:∀i,i<xs.length ->(Array.range xs.length)[i]! =i:=fun i hi=>by rw [getElem!_pos _ i (by simpa using hi)];simp
 have hcu:∀i (hi:i<xs.length),cur[i]?=some (pV (bl xs[i]) 0):=fun i hi=>by
  have:us[i]?=cur.toList[i]?:=by rw [←p4,List.getElem?_take_of_lt hi]
  rw [hus,List.getElem?_map,List.getElem?_eq_getElem hi] at this;rw [←Array.getElem?_toList];exact this.symm
 have hH:Holds enc w b 0 (Array.range xs.length):=by
  intro j hj;simp only [Array.size_range] at hj;rw [hd0 _ hj];refine ⟨?_,?_⟩
  ·simp only [World.cell?,p1,Nat.zero_add];rw [hcu j hj];show _=some (pV (bl (el j)) 0);rw [heli j hj];rfl
  ·simp only [World.frozen?,p1]
   simp
 have hcmp:CmpLays1 P g #[] enc cf' b 0 (Array.range xs.length).size w:=by
  intro m os dk _ x y;have hWs:w.heap.size≤(sortWorld enc w b 0 m dk os).heap.size:=Lw
  let O':Nat ->Prop:=fun b'=>F.O ρ s.hp b'∧b'≠bl (el x)∧b'≠bl (el y)
  have hne:∀i,bl (el i)≠b:=fun i e=>by
   have:=hpx _ (hel i);rw [e,hb] at this;cases this
  have hptr:∀i,i=x∨i=y ->AY (sortWorld enc w b 0 m dk os) O' (.ptr (.agg (px (el i)))) (pV (bl (el i)) 0):=fun i hi=>by
   obtain ⟨_,vs,c1,c2,c3,c4⟩:=hs.cellsN hM (hpx _ (hel i));have hl:bl (el i)<w.heap.size:=(Array.getElem?_eq_some_iff.1 c1).1
   have hOn:¬O' (bl (el i)):=fun h=>by
    rcases hi with e | e
    ·exact h.2.1 (by rw [e])
    ·exact h.2.2 (by rw [e])
   show AY _ _ (.ptr (.agg (px (el i)))) (.pointer (some ⟨bl (el i),0,none⟩));refine AY.ptr (x:= .agg (px (el i))) (fun j=>vs.getD j undef) (Nat.lt_of_lt_of_le hl hWs) hOn (h1x _ (hel i)) (fun j c hj=>?_) fun j c hj=>?_
   ·have hj':j<vs.length:=by rw [c2];exact (List.getElem?_eq_some_iff.1 hj).1
    simp only [World.cell?,DS (hne i) hl,c1,Nat.zero_add]
    simp [hj']
   ·have hj':j<vs.length:=by rw [c2];exact (List.getElem?_eq_some_iff.1 hj).1
    have hv:vs[j]?=some vs[j]:=List.getElem?_eq_getElem hj';have:vs.getD j undef=vs[j]:=by rw [List.getD_eq_getElem?_getD,hv];rfl
    rw [this];exact (c3 j c _ hj hv).mono hWs (fun b' hl hno=>DS (fun e=>hno (e▸hOb)) hl) (fun _ _ h=>h.1)
  refine (Td (hc (el x) (hel x) (el y) (hel y)) (w:=sortWorld enc w b 0 m dk os) (O:=O') (fun b' h=>Nat.lt_of_lt_of_le (hOl b' h.1) hWs) (vs:=[pV (bl (el x)) 0,pV (bl (el y)) 0]) rfl (fun i a v ha hv=>?_)).mono fun e w' ⟨v,e1,e2,e3,e4,e5⟩=>⟨?_,RE e3 e4 e5⟩
  ·match i,ha,hv with
   | 0,ha,hv=>injection ha with ha;injection hv with hv;subst ha hv;exact .d (hptr x (.inl rfl))
   | 1,ha,hv=>injection ha with ha;injection hv with hv;subst ha hv;exact .d (hptr y (.inr rfl))
  ·cases e2 with
   | raw _=>exact e1
 have eg:∀args w,(callFunc g args).run P w= .ok (.enter g args) w:=enters_of hfn hnm hbody;have key:=Any.slices_SortFunc L enc henc1 cf' hO' g #[] b 0 cap (Array.range xs.length) w eg hcmp hH hlt (by simpa using hsz);rw [Array.size_range] at key;refine key.mono fun e w' ⟨e1,d',n,os,hp,hsort,hw⟩=>?_;subst e1 hw;obtain ⟨s1,_,s3⟩:=hp;rw [Array.size_range] at s1
 have hperm:d'.toList.Perm (List.range xs.length):=by
  have e1:d'.extract 0 xs.length=d':=by rw [←s1];exact Array.extract_size
  have e2:(Array.range xs.length).extract 0 xs.length=Array.range xs.length:=by
   conv=>lhs;arg 3;rw [←Array.size_range (n:=xs.length)]
   exact Array.extract_size
  rw [e1,e2] at s3
  simpa using s3
 refine ⟨rfl,?_⟩
 have hys:d'.toList.map el=ys0:=by
  apply hu
  ·refine (hperm.map el).trans (List.Perm.of_eq ?_)
   apply List.ext_getElem (by simp)
   intro i h5 h6;simp only [List.getElem_map,List.getElem_range];exact heli i h6
  ·rw [List.pairwise_iff_getElem];intro i j hi hj hij;simp only [List.length_map,Array.length_toList] at hi hj;have:=hsort i j (Nat.zero_le _) hij (by omega);rw [getElem!_pos _ j hj,getElem!_pos _ i hi] at this;simp only [ltOf,decide_eq_false_iff_not] at this
   simpa using this
 have hlen':ys0.length=xs.length:=by rw [←hys];simp [s1]
 -- the world: first what lies in the row, then the new blocks
 have hheap:(sortWorld enc w b 0 n d' os).heap[b]?=some (.cells (putCells enc 0 d' cur) E (0,0)):=by
  unfold sortWorld;rw [Go.Sort.heap_grow_old _ _ (by rw [Go.Sort.size_putRow];exact hlt)];show (w.heap.modify b _)[b]?=_;rw [Array.getElem?_modify,if_pos rfl,p1];rfl
 refine hs.writeG f b (.nr b E 1 cap (xs.map fun x=>pD (bl x) 0)) (.nr b E 1 cap (ys0.map fun x=>pD (bl x) 0)) (by rw [IV hM,hb];rfl) (fun g i=>?_) Z Z Z Lw (Nat.le_add_right _ _) (fun b' hl hno=>DS (fun e=>hno (by rw [e,hρ];rfl)) hl) (fun _ _ e=>by cases e) fun hrep=>?_
 ·rw [D7 hh]
  by_cases e:g=f
  ·subst e;rw [if_pos rfl,IV hM]
   by_cases e2:i=b
   ·subst e2;rw [if_pos ⟨rfl,rfl⟩,Pt];rfl
   ·rw [if_neg (fun h=>e2 h.2),Od e2]
  ·rw [if_neg e,if_neg (fun h=>e h.1)]
 have hcs:(putCells enc 0 d' cur).size=cap:=by simp only [putCells,Array.size_mapIdx];omega
 have hrow:(putCells enc 0 d' cur).toList.take ys0.length=ys0.map fun x=>pV (bl x) 0:=by
  apply List.ext_getElem?
  intro i
  by_cases hi:i<xs.length
  ·rw [List.getElem?_take_of_lt (by omega),List.getElem?_map,←hys,List.getElem?_map,Array.getElem?_toList,Array.getElem?_toList,Array.getElem?_eq_getElem (by omega),Array.getElem?_eq_getElem (by omega)];simp only [putCells,Array.getElem_mapIdx,Option.map_some];rw [if_pos ⟨Nat.zero_le _,by omega⟩];simp only [Nat.sub_zero];rw [getElem!_pos _ i (by omega)]
  ·rw [List.getElem?_eq_none (by rw [List.length_take];omega),List.getElem?_eq_none (by rw [List.length_map];omega)]
 refine ⟨hρ,ys0.map fun x=>pV (bl x) 0,⟨by simp,.inr ⟨b,cap,_,by simp only [List.length_map],Nat.zero_le _,hheap,by rw [List.length_map,hlen'];exact p3,p3',by rw [hcs];omega,by rw [List.length_map,Nat.mul_one,hrow]⟩⟩,⟨by simp,fun x hx2=>?_,fun i x hx2 j c hc2=>?_⟩,fun x hx2 c hc2=>?_⟩
 ·obtain ⟨y,_,rfl⟩:=List.mem_map.1 hx2;rfl
 ·rw [List.getElem?_map] at hx2
  cases hdi:ys0[i]? with
  | none=>rw [hdi] at hx2;cases hx2
  | some q=>
   rw [hdi] at hx2;injection hx2 with hx2;subst hx2
   match j,hc2 with
   | 0,hc2=>
    injection hc2 with hc2;subst hc2
    exact ⟨pV (bl q) 0,by rw [Nat.mul_one,Nat.add_zero,List.getElem?_map,hdi];rfl,rfl,.raw rfl⟩
 ·obtain ⟨y,_,rfl⟩:=List.mem_map.1 hx2
  cases hc2 with
  | head=>rfl
  | tail _ h=>cases h
theorem Ua (L:SlLaysF.n6 P ρr) {g6:FuncId} {F:Fr} {s:AS} {d:Nat} {x y:Operand} {ty:TypeId} {pos:String} {aft:Array Edge} {gd:Option (Nat×Bool)} {at_:Array TypeId} {fa:AV} 
  (hg:ρr.f 6=g6) (hx:s.ev x=some (.d (.raw (.slice none 0 0)))) (hy:s.ev y=some fa) (hd:Nat.blt d s.n=true):
  AM P F ⟨some d,.call {callee:= .value (.func g6),args:= #[x,y],argTypes:=at_},ty,pos,aft,gd⟩ s ⟨s.n,(d,.d (.tup []))::s.env,s.hp⟩ (fun _ _=>true):=by
 subst hg;intro ρ act w hs
 obtain ⟨fn6,hf1,hf2,hf3⟩:∃fn,P.funcs[ρr.f 6]?=some fn∧(fn.name== "runtime.NumGoroutine")=false∧fn.body.isSome=true:=by
  obtain ⟨nm,hn,hf⟩:=L.f6;exact ⟨_,hf,hn,rfl⟩
 unfold Oper.wp;rw [show (#[x,y]:Array Operand)=[x,y].toArray from rfl,Dz hf1 hf2 hf3,Oper.upon_enter];have r0:=hs.raw hx;show Calls P (ρr.f 6) #[act.eval x,act.eval y] w _;rw [r0];refine (AnyF.slices_SortFunc_none {L with} none 0 _ w).mono fun e w' ⟨e1,e2⟩=>?_;subst e1 e2;exact ⟨ρ,hs.put (KJ hd) (.d (.tup rfl fun i c v hc=>by cases hc)),fun _ _ _=>rfl⟩
end
end Go.Proofs.YtnkkaeblokdifaaGreat
/- Layer 30: the network grows: a pool, a node; the pools are sorted. -/
namespace Go.Proofs.YtnkkaeblokdifaaGreat
open Go.RowKit Go.Shelf
set_option maxRecDepth 100000 in
theorem cmpPo_p (x y:Po):AT Tryz.prog 78 [.d (.ptr (.agg (poC x))),.d (.ptr (.agg (poC y)))] (AF (Bv x.r y.r)):=by
 refine B6 Tryz.func78 Z Z Tryz.ntmps78 Z Z Z fun F hF=>(AG (AJ (AD Z Z (AI (AG (Gs [[],[0],[0,1],[0,1,2],[],[4],[4,5],[4,5,6],[0,1,2,3,4,5,6,7],[0,1,2,3,4,5,6,7,8]] BF rfl (IK ?_)))))))
 first | refine AE [0] [] Z Z (fun _=>AB (Bb Z Z)) ?_ | refine AH [0] Z Z (fun _=>AB (Bb Z Z)) ?_
 first | refine AE [5] [] Z Z (fun _=>AB (B1 Z Z)) ?_ | refine AH [5] Z Z (fun _=>AB (B1 Z Z)) ?_ | refine AE [5] [] Z Z (fun _=>AB (BY Z Z)) ?_ | refine AH [5] Z Z (fun _=>AB (BY Z Z)) ?_ | refine AE [5] [] Z Z (fun _=>AB (B2 Z Z)) ?_ | refine AH [5] Z Z (fun _=>AB (B2 Z Z)) ?_ | refine AE [5] [] Z Z (fun _=>AB (BZ Z Z)) ?_ | refine AH [5] Z Z (fun _=>AB (BZ Z Z)) ?_
 first | refine AE [6] [] Z Z (fun _=>AB (AO rfl GK Z Z Z)) ?_ | refine AH [6] Z Z (fun _=>AB (AO rfl GK Z Z Z)) ?_ | refine AE [6] [] Z Z (fun _=>AB (AQ rfl GK Z Z Z)) ?_ | refine AH [6] Z Z (fun _=>AB (AQ rfl GK Z Z Z)) ?_ | refine AE [6] [] Z Z (fun _=>AB (AR rfl GK Z Z Z)) ?_ | refine AH [6] Z Z (fun _=>AB (AR rfl GK Z Z Z)) ?_ | refine AE [6] [] Z Z (fun _=>AB (AP rfl GK Z Z Z)) ?_ | refine AH [6] Z Z (fun _=>AB (AP rfl GK Z Z Z)) ?_ | refine AE [6] [] Z Z (fun _=>AB (AN rfl GK Z Z Z)) ?_ | refine AH [6] Z Z (fun _=>AB (AN rfl GK Z Z Z)) ?_
 first | refine AE [7] [] Z Z (fun _=>AB (At Z Z Ah rfl)) ?_ | refine AH [7] Z Z (fun _=>AB (At Z Z Ah rfl)) ?_ | refine AE [7] [] Z Z (fun _=>AB (Au Z Z Ah Z Z Z)) ?_ | refine AH [7] Z Z (fun _=>AB (Au Z Z Ah Z Z Z)) ?_ | refine AE [7] [] Z Z (fun _=>AB (Av Z Z (rfl) rfl Ah rfl)) ?_ | refine AH [7] Z Z (fun _=>AB (Av Z Z (rfl) rfl Ah rfl)) ?_
 first | refine AE [1] [] Z Z (fun _=>AB (Bb Z Z)) ?_ | refine AH [1] Z Z (fun _=>AB (Bb Z Z)) ?_
 first | refine AE [9] [] Z Z (fun _=>AB (B1 Z Z)) ?_ | refine AH [9] Z Z (fun _=>AB (B1 Z Z)) ?_ | refine AE [9] [] Z Z (fun _=>AB (BY Z Z)) ?_ | refine AH [9] Z Z (fun _=>AB (BY Z Z)) ?_ | refine AE [9] [] Z Z (fun _=>AB (B2 Z Z)) ?_ | refine AH [9] Z Z (fun _=>AB (B2 Z Z)) ?_ | refine AE [9] [] Z Z (fun _=>AB (BZ Z Z)) ?_ | refine AH [9] Z Z (fun _=>AB (BZ Z Z)) ?_
 first | refine AE [10] [] Z Z (fun _=>AB (AO rfl GK Z Z Z)) ?_ | refine AH [10] Z Z (fun _=>AB (AO rfl GK Z Z Z)) ?_ | refine AE [10] [] Z Z (fun _=>AB (AQ rfl GK Z Z Z)) ?_ | refine AH [10] Z Z (fun _=>AB (AQ rfl GK Z Z Z)) ?_ | refine AE [10] [] Z Z (fun _=>AB (AR rfl GK Z Z Z)) ?_ | refine AH [10] Z Z (fun _=>AB (AR rfl GK Z Z Z)) ?_ | refine AE [10] [] Z Z (fun _=>AB (AP rfl GK Z Z Z)) ?_ | refine AH [10] Z Z (fun _=>AB (AP rfl GK Z Z Z)) ?_ | refine AE [10] [] Z Z (fun _=>AB (AN rfl GK Z Z Z)) ?_ | refine AH [10] Z Z (fun _=>AB (AN rfl GK Z Z Z)) ?_
 first | refine AE [11] [] Z Z (fun _=>AB (At Z Z Ah rfl)) ?_ | refine AH [11] Z Z (fun _=>AB (At Z Z Ah rfl)) ?_ | refine AE [11] [] Z Z (fun _=>AB (Au Z Z Ah Z Z Z)) ?_ | refine AH [11] Z Z (fun _=>AB (Au Z Z Ah Z Z Z)) ?_ | refine AE [11] [] Z Z (fun _=>AB (Av Z Z (rfl) rfl Ah rfl)) ?_ | refine AH [11] Z Z (fun _=>AB (Av Z Z (rfl) rfl Ah rfl)) ?_
 refine Gf 8 Z Z Z (BE 9 Z Z (J (BO (Kl x.r y.r) Z Z) (AI ⟨rfl,?_⟩)));refine BE 10 Z Z (AD Z Z (AI ⟨rfl,?_⟩));refine Ge (Af ?_);exact ⟨_,[],[],Ae rfl,rfl,rfl,rfl,rfl⟩
theorem Fu {M:MF} {bn b':Nat} {m m':BN} (hb:M bn=none) (h:M b'=some m):Cg M bn m' b'=some m:=by
 rw [Od]
 ·exact h
 ·rintro rfl;rw [hb] at h;cases h
theorem Kx {M:MF} {bn:Nat} {m':BN} (hb:M bn=none) {h:Hd} {t:TypeId} {k:Nat} {xs:List D} (hr:BW M h t k xs):BW (Cg M bn m') h t k xs:=by
 match h,hr with
 | none,hr=>exact hr
 | some (b',c),hr=>exact ⟨hr.1,Fu hb hr.2⟩
theorem Cm.fresh {wb mv:Nat} {nb pb:Nat ->Nat} {N:Net} {M:MF} (h:Cm wb mv nb pb N M) {bn:Nat} {m:BN} (hb:M bn=none):Cm wb mv nb pb N (Cg M bn m):=
 ⟨fun i x hx=>Fu hb (h.n i x hx),fun j y hy=>Fu hb (h.p j y hy),⟨fun r=>Kx hb (h.rs.1 r),h.rs.2⟩,Fu hb h.w,h.ni,h.pi,h.e,h.q⟩
def Li (f:Nat ->Nat) (k b:Nat):Nat ->Nat:=fun j=>if j=k then b else f j
theorem DA {f:Nat ->Nat} {k b j:Nat} (h:j<k):Li f k b j=f j:=if_neg (by omega)
theorem Fe {f:Nat ->Nat} {k b:Nat}:Li f k b k=b:=if_pos rfl
theorem Nx {f:Nat ->Nat} {k b:Nat}:(List.range (k+1)).map (fun j=>BQ (Li f k b j))=(List.range k).map (fun j=>BQ (f j))++ [BQ b]:=by
 rw [List.range_succ,List.map_append,List.map_singleton,Fe]
 congr 1
 exact List.map_congr_left fun j hj=>by rw [DA (List.mem_range.1 hj)]
abbrev VE (nh:Hd) (a:Nat) (mh:Hd) (c mv:Nat):BN:= .cells 103 [hdr nh a,hdr mh c,KX (.map (some mv))]
theorem Cm.keepM {wb mv:Nat} {nb pb:Nat ->Nat} {N:Net} {M:MF} (h:Cm wb mv nb pb N M) {b:Nat} (hb:Bg M N.mh b=none) {v:BN} {b':Nat} {t:TypeId} {cs:List D} (hm:M b'=some (.cells t cs)):Cg (Bg M N.mh) b v b'=some (.cells t cs):=
 Go.Proofs.YtnkkaeblokdifaaGreat.keepM hb hm fun c hc=>by have:=h.rs.blk (r:= .m) hc;rw [hm] at this;cases this
theorem Kd {α:Type} (l:List α) (y d:α) (j:Nat):(l++ [y]).getD j d=if j=l.length then y else l.getD j d:=by
 rw [List.getD_eq_getElem?_getD,List.getD_eq_getElem?_getD,List.getElem?_append]
 split
 ·rw [if_neg (by omega)]
 ·split
  ·rename_i e;subst e;simp
  ·rw [List.getElem?_eq_none (by simp;omega),List.getElem?_eq_none (by omega)]
theorem getD_mem {α:Type} {l:List α} {d:α} (i:Nat):l.getD i d∈l∨l.getD i d=d:=by
 by_cases h:i<l.length
 ·left;rw [Bh d h];exact List.getElem_mem h
 ·right;rw [List.getD_eq_getElem?_getD,List.getElem?_eq_none (by omega)];rfl
theorem snoc_get {α:Type} {l:List α} {y z:α} {i:Nat} (h:(l++ [y])[i]?=some z):(i<l.length∧l[i]?=some z)∨(i=l.length∧z=y):=by
 rw [List.getElem?_append] at h
 split at h
 ·rename_i hi;exact .inl ⟨hi,h⟩
 ·rename_i hi
  right
  have:i - l.length=0:=by
   have:=(List.getElem?_eq_some_iff.1 h).1
   simp at this;omega
  rw [this] at h;exact ⟨by omega,(Option.some.inj h).symm⟩
theorem Cm.addM {wb mv:Nat} {nb pb:Nat ->Nat} {N:Net} {M:MF} (h:Cm wb mv nb pb N M) {y:Po} (hy:y.q=[]) (hyh:y.qh=none) {bn:Nat} (hM:M bn=some (S1 y)) (hbn:∀j,j<N.po.length ->pb j≠bn) {b cap:Nat} (hb:Bg M N.mh b=none) (hl:N.po.length+1≤cap):
  Cm wb mv nb (Li pb N.po.length bn) {N with po:=N.po++ [y],mh:=some (b,cap)} (Cg (Cg (Bg M N.mh) b (.row Te 1 cap ((List.range N.po.length).map (fun j=>BQ (pb j))++ [BQ bn]))) wb (VE N.nh N.nd.length (some (b,cap)) (N.po.length+1) mv)):=by
 have hef:∀i,((N.nd.getD i Bo).ef.map (efD (Li pb N.po.length bn)))=(N.nd.getD i Bo).ef.map (efD pb):=fun i=>List.map_congr_left fun e he=>by
  rcases getD_mem (l:=N.nd) (d:=Bo) i with hm | hm
  ·show D.agg [pD (Li pb N.po.length bn e.1) 0,_]=_;rw [DA ((h.e _ hm).1 e he)]
  ·rw [hm] at he;cases he
 have hpl:∀i,((N.nd.getD i Bo).pl.map (plD (Li pb N.po.length bn)))=(N.nd.getD i Bo).pl.map (plD pb):=fun i=>List.map_congr_left fun e he=>by
  rcases getD_mem (l:=N.nd) (d:=Bo) i with hm | hm
  ·show D.agg [pD (Li pb N.po.length bn e.1) 0,_]=_;rw [DA ((h.e _ hm).2 e he)]
  ·rw [hm] at he;cases he
 have hR:∀r,r≠RI.m ->CP nb (Li pb N.po.length bn) {N with po:=N.po++ [y],mh:=some (b,cap)} r=CP nb pb N r:=fun r hr=>by
  cases r with
  | e i=>show (⟨_,_,_,(N.nd.getD i Bo).ef.map _⟩:RowM)=_;rw [hef];rfl
  | p i=>show (⟨_,_,_,(N.nd.getD i Bo).pl.map _⟩:RowM)=_;rw [hpl];rfl
  | n=>rfl
  | m=>exact absurd rfl hr
  | q j=>
   show (⟨((N.po++ [y]).getD j Cy).qh,_,_,((N.po++ [y]).getD j Cy).q.map _⟩:RowM)=⟨(N.po.getD j Cy).qh,_,_,(N.po.getD j Cy).q.map _⟩
   rw [Kd]
   split
   ·rename_i e
    rw [hy,hyh,List.getD_eq_getElem?_getD,List.getElem?_eq_none (by omega)];rfl
   ·rfl
 have hup:=h.rs.upd (R':=CP nb (Li pb N.po.length bn) {N with po:=N.po++ [y],mh:=some (b,cap)}) .m hR (b:=b) (cap:=cap) hb rfl (by
  show ((List.range (N.po++ [y]).length).map _).length≤cap
  simp;exact hl)
 have hrow:(CP nb (Li pb N.po.length bn) {N with po:=N.po++ [y],mh:=some (b,cap)} .m).xs=(List.range N.po.length).map (fun j=>BQ (pb j))++ [BQ bn]:=by
  show (List.range (N.po++ [y]).length).map _=_;rw [List.length_append,List.length_singleton,Nx]
 rw [hrow] at hup
 have hk:∀(b':Nat) (t:TypeId) (cs:List D),t≠103 ->M b'=some (.cells t cs) ->Cg (Cg (Bg M N.mh) b (.row Te 1 cap ((List.range N.po.length).map (fun j=>BQ (pb j))++ [BQ bn]))) wb (VE N.nh N.nd.length (some (b,cap)) (N.po.length+1) mv) b'=some (.cells t cs):=fun b' t cs ht hm=>by
  rw [Od]
  ·exact h.keepM hb hm
  ·rintro rfl;rw [h.w] at hm;injection hm with hm;injection hm with hm;exact ht hm.symm
 refine ⟨fun i x hx=>hk _ _ _ (by decide) (h.n i x hx),fun i z hz=>?_,hup.cells (h.keepM hb h.w),?_,h.ni,fun i k hi hk e=>?_,fun x hx=>?_,fun z hz=>?_⟩
 ·rcases snoc_get hz with ⟨h1,h2⟩ | ⟨h1,h2⟩
  ·rw [DA h1];exact hk _ _ _ (by decide) (h.p i z h2)
  ·subst h1 h2;rw [Fe];exact hk _ _ _ (by decide) hM
 ·rw [Pt];show _=some (BN.cells _ [_,hdr _ (N.po++ [y]).length,_]);rw [List.length_append];rfl
 ·have hi':i<N.po.length+1:=by simpa using hi
  have hk':k<N.po.length+1:=by simpa using hk
  by_cases e1:i=N.po.length<;>by_cases e2:k=N.po.length
  ·omega
  ·subst e1;rw [Fe,DA (by omega)] at e;exact absurd e.symm (hbn k (by omega))
  ·subst e2;rw [Fe,DA (by omega)] at e;exact absurd e (hbn i (by omega))
  ·rw [DA (by omega),DA (by omega)] at e;exact h.pi i k (by omega) (by omega) e
 ·have:=h.e x hx;refine ⟨fun e he=>?_,fun e he=>?_⟩
  ·have:=this.1 e he;simp;omega
  ·have:=this.2 e he;simp;omega
 ·rcases List.mem_append.1 hz with hz | hz
  ·exact h.q z hz
  ·rw [List.mem_singleton.1 hz,hy];intro i hi;cases hi
theorem Cm.perm {wb mv:Nat} {nb pb:Nat ->Nat} {N:Net} {M:MF} (h:Cm wb mv nb pb N M) (hn:N.nd=[]) (hqn:∀y∈N.po,y.q=[]∧y.qh=none) {ys:List Nat} (hp:ys.Perm (List.range N.po.length)) {b cap:Nat} (hm:N.mh=some (b,cap)):
  Cm wb mv nb (fun k=>pb (ys.getD k 0)) {N with po:=ys.map fun i=>N.po.getD i Cy} (Cg M b (.row Te 1 cap (ys.map fun j=>BQ (pb j)))):=by
 have hyl:ys.length=N.po.length:=by rw [hp.length_eq,List.length_range]
 have hys:∀k,k<ys.length ->ys.getD k 0<N.po.length:=fun k hk=>by
  rw [Bh 0 hk];exact List.mem_range.1 (hp.mem_iff.1 (List.getElem_mem hk))
 have hrow:=h.rs.blk (r:= .m) hm
 have hrl:=(h.rs.1 .m)
 rw [show (CP nb pb N .m).h=some (b,cap) from hm] at hrl
 have hlen:N.po.length≤cap:=by
  have:=hrl.1;have e:((List.range N.po.length).map fun j=>BQ (pb j)).length=N.po.length:=by simp
  exact e▸this
 have hk:∀(b':Nat) (t:TypeId) (cs:List D),M b'=some (.cells t cs) ->Cg M b (.row Te 1 cap (ys.map fun j=>BQ (pb j))) b'=some (.cells t cs):=fun b' t cs hm'=>by
  rw [Od]
  ·exact hm'
  ·rintro rfl;rw [hrow] at hm';cases hm'
 have hq0:∀(l:List Po),(∀y∈l,y.q=[]∧y.qh=none) ->∀j,(l.getD j Cy).q=[]∧(l.getD j Cy).qh=none:=fun l hl j=>by
  rcases getD_mem (l:=l) (d:=Cy) j with hm | hm
  ·exact hl _ hm
  ·rw [hm];exact ⟨rfl,rfl⟩
 have hqn':∀y∈ys.map fun i=>N.po.getD i Cy,y.q=[]∧y.qh=none:=fun y hy=>by
  obtain ⟨i,_,rfl⟩:=List.mem_map.1 hy;exact hq0 _ hqn i
 refine ⟨fun i x hx=>?_,fun j y hy=>?_,⟨fun r=>?_,fun r r' b1 c c' h1 h2=>?_⟩,?_,h.ni,fun i k hi hk' e=>?_,fun x hx=>?_,fun y hy=>?_⟩
 ·have:N.nd[i]?=some x:=hx;rw [hn] at this;simp at this
 ·have hy':(ys.map fun i=>N.po.getD i Cy)[j]?=some y:=hy;rw [List.getElem?_map] at hy'
  cases hj:ys[j]? with
  | none=>rw [hj] at hy';cases hy'
  | some i=>
   rw [hj] at hy';have e:y=N.po.getD i Cy:=(Option.some.inj hy').symm;have hjl:=(List.getElem?_eq_some_iff.1 hj).1;have hi:=hys j hjl;rw [F2 hj] at hi;show Cg M b _ (pb (ys.getD j 0))=_;rw [F2 hj,e,Bh Cy hi];exact hk _ _ _ (h.p i _ (List.getElem?_eq_getElem hi))
 ·cases r with
  | e i=> 
   have:N.nd.getD i Bo=Bo:=by rw [hn];rfl
   show BW _ (N.nd.getD i Bo).eh _ _ ((N.nd.getD i Bo).ef.map _);rw [this];rfl
  | p i=> 
   have:N.nd.getD i Bo=Bo:=by rw [hn];rfl
   show BW _ (N.nd.getD i Bo).ph _ _ ((N.nd.getD i Bo).pl.map _);rw [this];rfl
  | q j=>
   show BW _ ((ys.map fun i=>N.po.getD i Cy).getD j Cy).qh _ _ (((ys.map fun i=>N.po.getD i Cy).getD j Cy).q.map _);obtain ⟨e1,e2⟩:=hq0 _ hqn' j;rw [e1,e2];rfl
  | n=>
   have hnr:=h.rs.1 .n;show BW _ N.nh _ _ ((List.range N.nd.length).map _)
   cases hh:N.nh with
   | none=>show _=[];rw [hn];rfl
   | some p=>
    obtain ⟨b',c'⟩:=p;rw [show (CP nb pb N .n).h=some (b',c') from hh] at hnr;refine ⟨by have:=hnr.1;exact this,?_⟩;rw [Od]
    ·exact hnr.2
    ·rintro rfl;exact absurd (h.rs.2 .n .m b' c' cap hh hm) (by intro e;cases e)
  | m=>
   show BW _ N.mh _ _ ((List.range (ys.map fun i=>N.po.getD i Cy).length).map fun k=>BQ (pb (ys.getD k 0)))
   have e:((List.range (ys.map fun i=>N.po.getD i Cy).length).map fun k=>BQ (pb (ys.getD k 0)))=ys.map fun j=>BQ (pb j):=by
    apply List.ext_getElem (by simp)
    intro k h1 h2;simp only [List.getElem_map,List.getElem_range];rw [Bh 0 (by simpa using h2)]
   rw [e,hm];exact ⟨by rw [List.length_map,hyl];exact hlen,Pt _ _ _⟩
 ·have hcase:∀r b1 c,(CP nb (fun k=>pb (ys.getD k 0)) {N with po:=ys.map fun i=>N.po.getD i Cy} r).h=some (b1,c) ->(CP nb pb N r).h=some (b1,c):=fun r b1 c h1=>by
   cases r with
   | e i=>exact h1
   | p i=>exact h1
   | n=>exact h1
   | m=>exact h1
   | q j=>
    have h1':((ys.map fun i=>N.po.getD i Cy).getD j Cy).qh=some (b1,c):=h1;rw [(hq0 _ hqn' j).2] at h1';cases h1'
  exact h.rs.2 r r' b1 c c' (hcase _ _ _ h1) (hcase _ _ _ h2)
 ·have:=hk _ _ _ h.w;show _=some (BN.cells _ [_,hdr N.mh (ys.map fun i=>N.po.getD i Cy).length,_]);rw [List.length_map,hyl];exact this
 ·have hi':i<ys.length:=by simpa using hi
  have hk2:k<ys.length:=by simpa using hk'
  have:=h.pi _ _ (hys i hi') (hys k hk2) e;rw [Bh 0 hi',Bh 0 hk2] at this;have hnd:ys.Nodup:=hp.nodup_iff.2 List.nodup_range;exact (List.getElem_inj hnd).1 this
 ·have:x∈N.nd:=hx;rw [hn] at this;cases this
 ·intro i hi;rw [(hqn' y hy).1] at hi;cases hi
end Go.Proofs.YtnkkaeblokdifaaGreat
/- Layer 30: the network of a problem, in closed form. Plain laws. -/
namespace Go.Proofs.YtnkkaeblokdifaaGreat
open Go.RowKit
theorem XW {α β:Type} [DecidableEq α] {m:List (α×β)} {a:α} {b:β} (h:a∉m.map Prod.fst):BG m a b=m++ [(a,b)]:=by
 induction m with
 | nil=>rfl
 | cons p r ih=>
  obtain ⟨k,b'⟩:=p;simp only [List.map_cons,List.mem_cons,not_or] at h;simp only [BG,List.cons_append];rw [if_neg h.1,ih h.2]
theorem FC {α β:Type} [DecidableEq α] {m:List (α×β)} {a:α} {z:β} (h:a∉m.map Prod.fst):Ai m a z=z:=by
 induction m with
 | nil=>rfl
 | cons p r ih=>
  obtain ⟨k,b'⟩:=p;simp only [List.map_cons,List.mem_cons,not_or] at h;simp only [Ai];rw [if_neg h.1,ih h.2]
theorem Ek {α β:Type} [DecidableEq α] {m:List (α×β)} {a k:α} {b z:β} (h:a≠k):Ai (m++ [(k,b)]) a z=Ai m a z:=by
 induction m with
 | nil=>simp only [List.nil_append,Ai];rw [if_neg h]
 | cons p r ih=>
  obtain ⟨k',b'⟩:=p;simp only [List.cons_append,Ai,ih]
theorem E4 {α β:Type} [DecidableEq α] {m:List (α×β)} {a:α} {b z:β} (h:a∉m.map Prod.fst):Ai (m++ [(a,b)]) a z=b:=by
 induction m with
 | nil=>simp [Ai]
 | cons p r ih=>
  obtain ⟨k',b'⟩:=p;simp only [List.map_cons,List.mem_cons,not_or] at h;simp only [List.cons_append,Ai];rw [if_neg h.1,ih h.2]
def Rk {α:Type} (d:α) (f:Nat ->Nat) (l:List α):List (α×Value):=(List.range l.length).map fun i=>(l.getD i d,pV (f i) 0)
theorem Lp {α:Type} (d:α) (f:Nat ->Nat) (l:List α):(Rk d f l).map Prod.fst=l:=by
 unfold Rk;rw [List.map_map];refine List.ext_getElem (by simp) fun j h1 h2=>?_;simp only [List.getElem_map,List.getElem_range,Function.comp];exact Bh d h2
theorem TO {α:Type} [DecidableEq α] {d:α} {f:Nat ->Nat} {l:List α} {a:α} {b:Nat} (h:a∉l):BG (Rk d f l) a (pV b 0)=Rk d (Li f l.length b) (l++ [a]):=by
 rw [XW (by rw [Lp];exact h)];unfold Rk;rw [List.length_append,List.length_singleton,List.range_succ,List.map_append,List.map_singleton,Fe]
 congr 1
 ·refine List.map_congr_left fun i hi=>?_;have hi':=List.mem_range.1 hi;rw [DA hi',List.getD_eq_getElem?_getD,List.getD_eq_getElem?_getD,List.getElem?_append_left hi']
 ·rw [List.getD_eq_getElem?_getD,List.getElem?_append_right (Nat.le_refl _)];simp
theorem TP {α:Type} [DecidableEq α] [BEq α] [LawfulBEq α] {d:α} {f:Nat ->Nat} {l:List α} (hn:l.Nodup) {a:α} {z:Value} {i:Nat} (hi:i<l.length) (e:l[i]=a):Ai (Rk d f l) a z=pV (f i) 0:=by
 refine Zc3 (by rw [Lp];exact hn) ?_;exact List.mem_map.2 ⟨i,List.mem_range.2 hi,by rw [Bh d hi,e]⟩
theorem tab_no {α:Type} [DecidableEq α] {d:α} {f:Nat ->Nat} {l:List α} {a:α} {z:Value} (h:a∉l):Ai (Rk d f l) a z=z:=FC (by rw [Lp];exact h)
def Ix (rs:List A5) (i j:Nat):Int:=Bv (rs.getD i DU) (rs.getD j DU)
theorem Oe (rs:List A5):PC (Ix rs):=N7.comap fun i=>rs.getD i DU
def Fk (rs:List A5):List Nat:=(List.range rs.length).mergeSort fun i j=>decide (Ix rs i j≤0)
theorem Vm (rs:List A5):(Fk rs).Perm (List.range rs.length):=List.mergeSort_perm _ _
theorem Ug {rs:List A5} (hn:rs.Nodup) {ys:List Nat} (hp:ys.Perm (List.range rs.length)) (hs:ys.Pairwise fun a b=>¬Ix rs b a<0):ys=Fk rs:=by
 have key:∀zs:List Nat,zs.Perm (List.range rs.length) ->(zs.Pairwise fun a b=>¬Ix rs b a<0) ->zs.Pairwise fun a b=>Ix rs a b<0:=fun zs hz hs=>by
  have hnd:zs.Pairwise fun a b=>a≠b:=hz.nodup_iff.2 List.nodup_range;have hm:∀x∈zs,x<rs.length:=fun x hx=>List.mem_range.1 (hz.mem_iff.1 hx);refine List.Pairwise.imp_of_mem (fun {a b} ha hb h=>?_) (hs.and hnd);have h1:=(Oe rs).anti a b
  by_cases h0:Ix rs a b=0
  ·exfalso
   have h3:=Db.1 h0;rw [Bh DU (hm a ha),Bh DU (hm b hb)] at h3;exact h.2 ((List.getElem_inj hn).1 h3)
  ·have:=h.1;omega
 refine DY (R:=fun a b=>Ix rs a b<0) (fun x=>by rw [(Oe rs).refl];omega) (fun x y z=>(Oe rs).trans x y z) (key ys hp hs) (key _ (Vm rs) ?_) fun x=>hp.mem_iff.trans (Vm rs).mem_iff.symm;have:=List.pairwise_mergeSort (le:=fun i j=>decide (Ix rs i j≤0)) (fun a b c h1 h2=>?_) (fun a b=>?_) (List.range rs.length)
 ·refine List.Pairwise.imp (fun {a b} h=>?_) this;have h1:=(Oe rs).anti a b;have h2:Ix rs a b≤0:=by simpa using h
  omega
 ·have h1':Ix rs a b≤0:=by simpa using h1
  have h2':Ix rs b c≤0:=by simpa using h2
  have:Ix rs a c≤0:=by
   by_cases e1:Ix rs a b=0
   ·rw [(Oe rs).eqv a b c e1];exact h2'
   ·by_cases e2:Ix rs b c=0
    ·have a1:=(Oe rs).anti b c;have e3:=(Oe rs).eqv c b a (by omega);have a2:=(Oe rs).anti a c;have a3:=(Oe rs).anti a b;omega
    ·have:=(Oe rs).trans a b c (by omega) (by omega);omega
  simpa using this
 ·have h1:=(Oe rs).anti a b
  by_cases h:Ix rs a b≤0
  ·simp [h]
  ·have:Ix rs b a≤0:=by omega
   simp [this]
abbrev Cw (D:List (A5×Int)) (r:A5):Int:=Ai D r 0
def negQ (ds:List (List (A5×Int))) (r:A5):List Nat:=(List.range ds.length).filter fun i=>decide (Cw (ds.getD i []) r<0)
def IG (x:Roo):Po:=⟨x.r,x.n,0,none,[],0⟩
def S2 (ds:List (List (A5×Int))) (x:Roo):Po:=⟨x.r,x.n,(ds.map fun D=>Cw D x.r).sum,none,negQ ds x.r,0⟩
def V4 (rs:List A5) (D:List (A5×Int)):List (Nat×Int):=(D.filter fun d=>decide (d.1∈rs)).map fun d=>(rs.idxOf d.1,d.2)
def plK (rs:List A5) (ds:List (List (A5×Int))) (D:List (A5×Int)):List (Nat×Nat):=(D.filter fun d=>decide (d.1∈rs) && decide (d.2<0)).map fun d=>(rs.idxOf d.1,(negQ ds d.1).length)
def XR (rs:List A5) (ds:List (List (A5×Int))) (x:AU) (D:List (A5×Int)):Nd:=⟨x,none,V4 rs D,none,plK rs ds D,true⟩
def HO (rs:List A5) (its:List AU) (k:Nat):List Nd:=(List.range k).map fun i=>XR rs ((its.map dltS).take i) (its.getD i itm0) (dltS (its.getD i itm0))
def FJ (ro:List Roo) (its:List AU) (k:Nat):Net:=⟨HO (ro.map Roo.r) its k,ro.map (S2 ((its.map dltS).take k)),none,none⟩
def ED (ro:List Roo) (its:List AU) (k t:Nat):Net:=⟨HO (ro.map Roo.r) its k++ [XR (ro.map Roo.r) ((its.map dltS).take k) (its.getD k itm0) ((dltS (its.getD k itm0)).take t)],ro.map (S2 ((its.map dltS).take k++ [(dltS (its.getD k itm0)).take t])),none,none⟩
theorem OX {α:Type} (p:α ->Bool) (d:α):[d].filter p=if p d=true then [d] else []:=by
 cases h:p d<;>simp [List.filter,h]
theorem Xw {rs:List A5} {T:List (A5×Int)} {d:A5×Int} (h:d.1∈rs):V4 rs (T++ [d])=V4 rs T++ [(rs.idxOf d.1,d.2)]:=by
 unfold V4;rw [List.filter_append,OX,if_pos (decide_eq_true h),List.map_append];rfl
theorem UI {rs:List A5} {T:List (A5×Int)} {d:A5×Int} (h:d.1∉rs):V4 rs (T++ [d])=V4 rs T:=by
 unfold V4;rw [List.filter_append,OX,if_neg (by simp only [decide_eq_true_eq];exact h),List.append_nil]
theorem Wn {rs:List A5} {ds:List (List (A5×Int))} {T:List (A5×Int)} {d:A5×Int} (h:d.1∈rs) (h2:d.2<0):plK rs ds (T++ [d])=plK rs ds T++ [(rs.idxOf d.1,(negQ ds d.1).length)]:=by
 unfold plK;rw [List.filter_append,OX,if_pos (by rw [decide_eq_true h,decide_eq_true h2];rfl),List.map_append];rfl
theorem PJ {rs:List A5} {ds:List (List (A5×Int))} {T:List (A5×Int)} {d:A5×Int} (h:¬(d.1∈rs∧d.2<0)):plK rs ds (T++ [d])=plK rs ds T:=by
 unfold plK;rw [List.filter_append,OX,if_neg (by rw [Bool.and_eq_true,decide_eq_true_eq,decide_eq_true_eq];exact h),List.append_nil]
theorem VL (ds:List (List (A5×Int))) (D:List (A5×Int)) (r:A5):negQ (ds++ [D]) r=negQ ds r++if Cw D r<0 then [ds.length] else []:=by
 unfold negQ;rw [List.length_append,List.length_singleton,List.range_succ,List.filter_append]
 congr 1
 ·refine List.filter_congr fun i hi=>?_;have hi':=List.mem_range.1 hi;rw [List.getD_eq_getElem?_getD,List.getElem?_append_left hi',←List.getD_eq_getElem?_getD]
 ·have e:(ds++ [D]).getD ds.length []=D:=by rw [List.getD_eq_getElem?_getD,List.getElem?_append_right (Nat.le_refl _)];simp
  rw [OX,e]
  by_cases h:Cw D r<0
  ·rw [if_pos (decide_eq_true h),if_pos h]
  ·rw [if_neg (by simpa using h),if_neg h]
theorem EC (ds:List (List (A5×Int))) (D:List (A5×Int)) (x:Roo):S2 (ds++ [D]) x=⟨x.r,x.n,(S2 ds x).sum+Cw D x.r,none,(S2 ds x).q++(if Cw D x.r<0 then [ds.length] else []),0⟩:=by
 unfold S2;rw [VL,List.map_append,List.sum_append]
 simp
theorem VH {ro:List Roo} {its:List AU} {k:Nat}:ED ro its k 0=⟨(FJ ro its k).nd++ [⟨its.getD k itm0,none,[],none,[],true⟩],(FJ ro its k).po,none,none⟩:=by
 unfold ED FJ
 congr 1
 refine List.map_congr_left fun x _=>?_;rw [EC];unfold S2
 simp [Cw,Ai]
theorem VJ {ro:List Roo} {its:List AU} {k:Nat} (hk:k<its.length):ED ro its k (dltS (its.getD k itm0)).length=FJ ro its (k+1):=by
 unfold ED FJ HO;rw [List.take_length,List.range_succ,List.map_append,List.map_singleton]
 congr 1
 have:(its.map dltS).take (k+1)=(its.map dltS).take k++ [dltS (its.getD k itm0)]:=by
  rw [List.take_succ_eq_append_getElem (by simpa using hk),List.getElem_map,Bh itm0 hk]
 rw [this]
theorem VI {ro:List Roo} {its:List AU} {k t:Nat} (ht:t<(dltS (its.getD k itm0)).length) (hr:((dltS (its.getD k itm0))[t]).1∉ro.map Roo.r):ED ro its k (t+1)=ED ro its k t:=by
 unfold ED
 obtain ⟨D,hD⟩:∃D,dltS (its.getD k itm0)=D:=⟨_,rfl⟩
 obtain ⟨d,hd⟩:∃d,(dltS (its.getD k itm0))[t]=d:=⟨_,rfl⟩
 rw [hd] at hr;rw [List.take_succ_eq_append_getElem ht,hd]
 have e1:∀(ds:List (List (A5×Int))) (T:List (A5×Int)),XR (ro.map Roo.r) ds (its.getD k itm0) (T++ [d])=XR (ro.map Roo.r) ds (its.getD k itm0) T:=fun ds T=>by
  unfold XR;rw [UI hr,PJ (fun h=>hr h.1)]
 rw [e1]
 congr 1
 refine List.map_congr_left fun x hx=>?_;have hne:x.r≠d.1:=fun e=>hr (e▸List.mem_map.2 ⟨x,hx,rfl⟩);rw [EC,EC];have:Cw ((dltS (its.getD k itm0)).take t++ [d]) x.r=Cw ((dltS (its.getD k itm0)).take t) x.r:=Ek hne;rw [this]
theorem DB (x:AU):((dltS x).map Prod.fst).Nodup:=by
 unfold dltS
 split
 ·have:=Ju (ctr x);show ((Kj (ctr x)).map Prod.fst).Pairwise _;rw [List.pairwise_map];refine this.imp fun {a b} h e=>?_;rw [e,N7.refl] at h;omega
 ·exact List.nodup_nil
theorem VK {ro:List Roo} (hro:(ro.map Roo.r).Nodup) {its:List AU} {k t j:Nat} (hk:k≤its.length) (ht:t<(dltS (its.getD k itm0)).length) (hj:j<ro.length) (hr:(ro.map Roo.r).idxOf ((dltS (its.getD k itm0))[t]).1=j) (hm:((dltS (its.getD k itm0))[t]).1∈ro.map Roo.r) {x:Nd} {y:Po} (hx:(ED ro its k t).nd[k]?=some x) (hy:(ED ro its k t).po[j]?=some y):
  ED ro its k (t+1)=⟨(ED ro its k t).nd.set k (jnX x j y.q.length ((dltS (its.getD k itm0))[t]).2),(ED ro its k t).po.set j (jnY y k ((dltS (its.getD k itm0))[t]).2),none,none⟩:=by
 obtain ⟨d,hd⟩:∃d,(dltS (its.getD k itm0))[t]=d:=⟨_,rfl⟩
 rw [hd] at hr hm⊢
 have hdn:d.1∉((dltS (its.getD k itm0)).take t).map Prod.fst:=fun h=>by
  have h1:=DB (its.getD k itm0);rw [←List.take_append_drop t (dltS (its.getD k itm0)),List.drop_eq_getElem_cons ht,hd,List.map_append,List.map_cons,List.nodup_append] at h1;exact h1.2.2 _ h _ (List.mem_cons_self ..) rfl
 have hl:(HO (ro.map Roo.r) its k).length=k:=by unfold HO;simp
 have hdsl:((its.map dltS).take k).length=k:=by simp;omega
 have ex:x=XR (ro.map Roo.r) ((its.map dltS).take k) (its.getD k itm0) ((dltS (its.getD k itm0)).take t):=by
  have hx':(HO (ro.map Roo.r) its k++ [XR (ro.map Roo.r) ((its.map dltS).take k) (its.getD k itm0) ((dltS (its.getD k itm0)).take t)])[k]?=some x:=hx;rw [List.getElem?_append_right (by omega),hl,Nat.sub_self] at hx';exact (Option.some.inj hx').symm
 have hy':(ro.map (S2 ((its.map dltS).take k++ [(dltS (its.getD k itm0)).take t])))[j]?=some y:=hy;rw [List.getElem?_map,List.getElem?_eq_getElem hj] at hy';have ey:y=S2 ((its.map dltS).take k++ [(dltS (its.getD k itm0)).take t]) ro[j]:=(Option.some.inj hy').symm
 have hrj:ro[j].r=d.1:=by
  have h1:=List.getElem_idxOf (List.idxOf_lt_length_of_mem hm);simp only [hr,List.getElem_map] at h1;exact h1
 have ha0:Cw ((dltS (its.getD k itm0)).take t) d.1=0:=FC hdn
 have hyq:y.q.length=(negQ ((its.map dltS).take k) d.1).length:=by
  rw [ey,EC,hrj,ha0];show (negQ _ _++_).length=_;rw [hrj];simp
 unfold ED;rw [List.take_succ_eq_append_getElem ht,hd]
 congr 1
 ·rw [List.set_append_right _ _ (by omega),hl,Nat.sub_self,List.set_cons_zero]
  congr 2
  rw [ex];unfold XR jnX;rw [Xw hm,hr,hyq]
  by_cases h0:d.2<0
  ·rw [Wn hm h0,hr,if_pos h0]
  ·rw [PJ (fun h=>h0 h.2),if_neg h0]
 ·refine List.ext_getElem? fun i=>?_;rw [List.getElem?_set]
  by_cases e:j=i
  ·subst e;rw [if_pos rfl,if_pos (by simpa using hj),List.getElem?_map,List.getElem?_eq_getElem hj];show some _=some _
   congr 1
   rw [ey];unfold jnY;rw [EC,EC,hrj];have h1:Cw ((dltS (its.getD k itm0)).take t++ [d]) d.1=d.2:=E4 hdn;rw [h1,ha0,hdsl,hrj.symm];simp only [Int.add_zero,Po.mk.injEq,true_and,and_true]
   by_cases h0:d.2<0
   ·simp [h0]
   ·simp [h0]
  ·rw [if_neg e,List.getElem?_map,List.getElem?_map]
   cases hi:ro[i]? with
   | none=>rfl
   | some z=>
    show some _=some _
    congr 1
    have hil:=(List.getElem?_eq_some_iff.1 hi)
    have hne:z.r≠d.1:=fun e2=>e (by
     have h1:(ro.map Roo.r)[j]'(by simpa using hj)=(ro.map Roo.r)[i]'(by simpa using hil.1):=by
      rw [List.getElem_map,List.getElem_map,hil.2,hrj,e2]
     exact (List.getElem_inj hro).1 h1)
    rw [EC,EC];have:Cw ((dltS (its.getD k itm0)).take t++ [d]) z.r=Cw ((dltS (its.getD k itm0)).take t) z.r:=Ek hne;rw [this]
end Go.Proofs.YtnkkaeblokdifaaGreat
/- Layer 30: what the building of a network needs. -/
namespace Go.Proofs.YtnkkaeblokdifaaGreat
open Go.RowKit Go.Shelf
set_option maxRecDepth 100000
def nrm1:D ->D
 | .sl (some true) []=> .raw (.slice none 0 0)
 | x=>x
def nrm:D ->D
 | .agg cs=> .agg (cs.map nrm1)
 | x=>nrm1 x
theorem XJ (x:D):(nrm1 x).one=x.one:=by
 unfold nrm1
 split<;>rfl
theorem AY.nrm1 {w:World} {O:Nat ->Prop} {x:D} {v:Value} (h:AY w O x v):AY w O (nrm1 x) v:=by
 unfold Go.Proofs.YtnkkaeblokdifaaGreat.nrm1
 split
 ·cases h with
  | sl k hn hz hln hc hm hk ha hp=>
   rename_i a n cap
   have h1:=hn true rfl
   have h2:a=none:=by cases a with
    | none=>rfl
    | some _=>cases h1
   subst h2;have h3:=hz rfl;have h4:n=0:=hln.symm;subst h3 h4;exact .raw rfl
 ·exact h
theorem AY.nrm {w:World} {O:Nat ->Prop} {x:D} {v:Value} (h:AY w O x v):AY w O (nrm x) v:=by
 unfold Go.Proofs.YtnkkaeblokdifaaGreat.nrm
 split
 ·rename_i cs
  cases h with
  | agg hl h1 hr=>
   refine .agg (by rw [hl,List.length_map]) (fun c hc=>?_) fun i c v hc hv=>?_
   ·obtain ⟨d,hd,rfl⟩:=List.mem_map.1 hc;rw [XJ];exact h1 d hd
   ·rw [List.getElem?_map] at hc
    cases hd:cs[i]? with
    | none=>rw [hd] at hc;cases hc
    | some d=>
     rw [hd] at hc;injection hc with hc;subst hc
     exact (hr i d v hd hv).nrm1
 ·exact h.nrm1
section
variable {P:Program} {F:Fr} {Q:Exit ->AS ->Prop} {ops:Array Oper} {l:List Oper} {n:Nat} {env:List (Nat×AV)} {hp:Hp}
theorem XG (t:Nat) {x:D} (ht:get env t=some (.d x)) (h:Ao P F ops l Q ⟨n,(t,.d (nrm x))::env,hp⟩):Ao P F ops l Q ⟨n,env,hp⟩:=fun ρ act w hs=>h ρ act w ⟨hs.size,hs.defs,fun t' a ha=>by
 rcases KF ha with ⟨rfl,rfl⟩ | ⟨_,ha⟩
 ·have hr:=hs.env t _ ht
  generalize act.tmps.getD t undef=v at hr⊢
  cases hr with
  | d h=>exact .d h.nrm
 ·exact hs.env t' a ha,hs.heap⟩
end
def WY (M:MF) (h:Hd) (E:TypeId) (ys:List D):MF:=match h with
 | none=>M
 | some (b,c)=>Cg M b (.row E 1 c ys)
theorem VZ {f:Nat} {M:MF}:∀(H H':Hp),hfam H f=some [.multi M] ->CG H f M=some H' ->H'=H:=by
 intro H
 induction H with
 | nil=>intro H' h;cases h
 | cons p r ih=>
  obtain ⟨k,l⟩:=p;intro H' h1 h2;simp only [hfam] at h1;simp only [CG] at h2
  cases hk:Nat.beq k f with
  | true=>
   rw [hk] at h1 h2;injection h1 with h1
   subst h1;simp only [isM] at h2;injection h2 with h2;exact h2.symm
  | false=>
   rw [hk] at h1 h2;dsimp only at h1 h2
   cases hr:CG r f M with
   | none=>rw [hr] at h2;cases h2
   | some r'=>
    rw [hr] at h2;injection h2 with h2
    rw [←h2,ih r' h1 hr]
theorem WO {P:Program} {ρr:Ren} {τ:Type} (L:SlLaysF.n6 P ρr) {E:TypeId} {g g6:FuncId} {fn:Func} (hfn:P.funcs[g]?=some fn) (hnm:(fn.name== "runtime.NumGoroutine")=false) {c:Code} (hbody:fn.body=some c)
  {bl:τ ->Nat} {px:τ ->List D} {tx:τ ->TypeId} (cf:τ ->τ ->Int) (hO:Go.Sort.SWO (ltOf cf)) (xs ys0:List τ) (hsz:xs.length<4611686018427387904) (hc:∀x∈xs,∀y∈xs,AT P g [.d (.ptr (.agg (px x))),.d (.ptr (.agg (px y)))] (.raw (.int .i64 (cf x y))))
  (hu:∀ys:List τ,ys.Perm xs ->ys.Pairwise (fun a b=>¬cf b a<0) ->ys=ys0)
  {F:Fr} {s:AS} {d:Nat} {x y:Operand} {ty:TypeId} {pos:String} {aft:Array Edge} {gd:Option (Nat×Bool)} {at_:Array TypeId} {f n:Nat} {h:Hd} {M:MF} {fa:AV} {row:List D} {hp':Hp}
  (hg:ρr.f 6=g6) (hM:hfam s.hp f=some [.multi M]) (hpx:∀x∈xs,M (bl x)=some (.cells (tx x) (px x))) (h1x:∀x∈xs,∀c∈px x,c.one=true) (hx:s.ev x=some (.d (hdr h n))) (hy:s.ev y=some fa) (hfa:∀w O ρ v,A1 w O ρ fa v ->v= .func (.func g) #[] #[]) (hb:BW M h E 1 row) (hrow:row=xs.map fun x=>pD (bl x) 0) (hn:n=xs.length) (hxh:h≠none ->xs≠ []) (hh:CG s.hp f (WY M h E (ys0.map fun x=>pD (bl x) 0))=some hp') (hd:Nat.blt d s.n=true):
  AM P F ⟨some d,.call {callee:= .value (.func g6),args:= #[x,y],argTypes:=at_},ty,pos,aft,gd⟩ s ⟨s.n,(d,.d (.tup []))::s.env,hp'⟩ (fun _ _=>true):=by
 match h,hx,hb,hh,hxh with
 | none,hx,hb,hh,_=>
  rw [VZ _ _ hM hh];exact Ua L hg hx hy hd
 | some (b,cap),hx,hb,hh,hxh=>exact WN L hfn hnm hbody cf hO xs ys0 hsz hc hu hg hM hpx h1x hx hy hfa hb.2 hrow hn (hxh (by simp)) hh hd
theorem rep0 (wb mv:Nat) (nb pb:Nat ->Nat) {M:MF} (hw:M wb=some (VE none 0 none 0 mv)):Cm wb mv nb pb ⟨[],[],none,none⟩ M:=by
 refine ⟨fun i x hx=>by simp at hx,fun j y hy=>by simp at hy,⟨fun r=>?_,fun r r' b c c' h1 h2=>?_⟩,hw,fun i j hi _=>by simp at hi,fun i j hi _=>by simp at hi,fun x hx=>(by cases hx),fun y hy=>(by cases hy)⟩
 ·cases r<;>rfl
 ·cases r<;>cases h1
structure Gu (p:Prb):Prop where
 i:p.it.length≤30
 r:p.ro.length≤100
 x:∀x∈p.it,x.po.length≤12∧x.pa.length≤12∧x.af.length≤12
def Y7 (x:AU):Prop:=x.po.length≤12∧x.pa.length≤12∧x.af.length≤12
theorem Gu.b {p:Prb} (h:Gu p):Cu p:=⟨by have:=h.r;omega,by have:=h.i;omega,fun i hi=>by have:=h.x i hi;omega⟩
theorem PS {α β:Type} {l:List (α×β)} (h:(l.map Prod.fst).Nodup):l.Nodup:=by
 have h':(l.map Prod.fst).Pairwise (fun a b=>a≠b):=h;rw [List.pairwise_map] at h';exact h'.imp fun {a b} h e=>h (by rw [e])
theorem Pa {x:AU} (h:Y7 x):(dltS x).length≤60:=by
 unfold dltS
 split
 ·have h1:(dltL x).length≤(ctr x).length:=by
   have h2:(Kj (ctr x)).length≤(sumL (ctr x)).length:=by
    have hp:(Kj (ctr x)).Perm ((sumL (ctr x)).filter fun d=>decide (d.2≠0)):=by
     refine (List.perm_ext_iff_of_nodup ?_ ?_).2 fun d=>?_
     ·have:=Ju (ctr x);refine this.imp fun {a b} h e=>?_;rw [e,N7.refl] at h;omega
     ·exact (PS (I4 (ctr x))).filter _
     ·rw [H3,List.mem_filter];simp
    rw [hp.length_eq];exact List.length_filter_le _ _
   exact Nat.le_trans h2 (Kt _)
  have:=Ms x;have:=h.1;have:=h.2.1;omega
 ·exact Nat.zero_le _
theorem Jt (x:AU):Pv (dltS x):=by
 unfold dltS
 split
 ·rename_i hE
  intro d hd;exact bnd_E hE d ((H3 _ _).1 hd).1
 ·intro d hd;cases hd
theorem UT {D:List (A5×Int)} (h:Pv D) (r:A5): -1000000000000000≤Cw D r∧Cw D r≤1000000000000000:=by
 unfold Cw
 induction D with
 | nil=>simp [Ai]
 | cons d D ih=>
  obtain ⟨k,b⟩:=d;simp only [Ai]
  split
  ·exact h (k,b) (List.mem_cons_self ..)
  ·exact ih fun x hx=>h x (List.mem_cons_of_mem _ hx)
theorem TU:∀{ds:List (List (A5×Int))} (_:∀D∈ds,Pv D) (r:A5),-(ds.length*1000000000000000)≤(ds.map fun D=>Cw D r).sum∧(ds.map fun D=>Cw D r).sum≤ds.length*1000000000000000
 | [],_,r=>by simp
 | D::ds,h,r=>by
  have h1:=UT (h D (List.mem_cons_self ..)) r;have h2:=TU (ds:=ds) (fun D hD=>h D (List.mem_cons_of_mem _ hD)) r;simp only [List.map_cons,List.sum_cons,List.length_cons];omega
theorem MS (ds:List (List (A5×Int))) (r:A5):(negQ ds r).length≤ds.length:=by
 unfold negQ;refine Nat.le_trans (List.length_filter_le _ _) ?_
 simp
theorem UJ (rs:List A5) (D:List (A5×Int)):(V4 rs D).length≤D.length:=by
 unfold V4;rw [List.length_map];exact List.length_filter_le _ _
theorem Tg (rs:List A5) (ds:List (List (A5×Int))) (D:List (A5×Int)):(plK rs ds D).length≤D.length:=by
 unfold plK;rw [List.length_map];exact List.length_filter_le _ _
theorem Xu {N:Net} {i:Nat} {x:Nd} (h:N.nd[i]?=some x):(BI N).nd[i]?=some (GB x):=by
 show (N.nd.map GB)[i]?=_;rw [List.getElem?_map,h];rfl
theorem Xt {N:Net} {i:Nat} {y:Po} (h:N.po[i]?=some y):(BI N).po[i]?=some (Cf y):=by
 show (N.po.map Cf)[i]?=_;rw [List.getElem?_map,h];rfl
theorem Y1 {ro:List Roo} {its:List AU} (hi:its.length≤30) (hx:∀x∈its,Y7 x) {k t j:Nat} (hk:k<its.length) {N:Net} (h:BI N=ED ro its k t) {x:Nd} {y:Po} (h1:N.nd[k]?=some x) (h2:N.po[j]?=some y):
  (-1000000000000000000≤y.sum∧y.sum≤1000000000000000000)∧x.ef.length≤100000∧x.pl.length≤100000∧y.q.length≤100000:=by
 have a1:=Xu h1;have a2:=Xt h2;rw [h] at a1 a2;have hl:(HO (ro.map Roo.r) its k).length=k:=by unfold HO;simp
 have hdl:(dltS (its.getD k itm0)).length≤60:=Pa (hx _ (by rw [Bh itm0 hk];exact List.getElem_mem hk));have a1':(HO (ro.map Roo.r) its k++ [XR (ro.map Roo.r) ((its.map dltS).take k) (its.getD k itm0) ((dltS (its.getD k itm0)).take t)])[k]?=some (GB x):=a1;rw [List.getElem?_append_right (by omega),hl,Nat.sub_self] at a1';have ex:GB x=_:=(Option.some.inj a1').symm;have e1:x.ef=(GB x).ef:=rfl;have e2:x.pl=(GB x).pl:=rfl;have a2':(ro.map (S2 ((its.map dltS).take k++ [(dltS (its.getD k itm0)).take t])))[j]?=some (Cf y):=a2;rw [List.getElem?_map] at a2'
 cases hj:ro[j]? with
 | none=>rw [hj] at a2';cases a2'
 | some z=>
  rw [hj] at a2';have ey:Cf y=S2 ((its.map dltS).take k++ [(dltS (its.getD k itm0)).take t]) z:=(Option.some.inj a2').symm;have e3:y.sum=(Cf y).sum:=rfl;have e4:y.q=(Cf y).q:=rfl;have hds:((its.map dltS).take k++ [(dltS (its.getD k itm0)).take t]).length≤31:=by simp;omega
  have hb:=TU (ds:=(its.map dltS).take k++ [(dltS (its.getD k itm0)).take t]) (fun D hD=>by
   rcases List.mem_append.1 hD with hD | hD
   ·obtain ⟨x,_,rfl⟩:=List.mem_map.1 (List.mem_of_mem_take hD);exact Jt x
   ·rw [List.mem_singleton.1 hD];exact (Jt _).take t) z.r
  have hq:=MS ((its.map dltS).take k++ [(dltS (its.getD k itm0)).take t]) z.r;have he:=UJ (ro.map Roo.r) ((dltS (its.getD k itm0)).take t);have hp:=Tg (ro.map Roo.r) ((its.map dltS).take k) ((dltS (its.getD k itm0)).take t);rw [List.length_take] at he hp;rw [e1,e2,e3,e4,ex,ey];unfold S2 XR;dsimp only
  generalize (List.map (fun D=>Cw D z.r) (List.take k (List.map dltS its)++ [List.take t (dltS (its.getD k itm0))])).sum=S at hb⊢
  generalize (List.take k (List.map dltS its)++ [List.take t (dltS (its.getD k itm0))]).length=m at*
  omega
theorem T_step {ro:List Roo} (hro:(ro.map Roo.r).Nodup) {its:List AU} {k t j:Nat} (hk:k<its.length) (ht:t<(dltS (its.getD k itm0)).length) {N N':Net} (h:BI N=ED ro its k t) (hr:(ro.map Roo.r).idxOf ((dltS (its.getD k itm0))[t]).1=j) (hm:((dltS (its.getD k itm0))[t]).1∈ro.map Roo.r) {x x':Nd} {y y':Po} (h1:N.nd[k]?=some x) (h2:N.po[j]?=some y)
  (e1:N'.nd=N.nd.set k x') (ex:GB x'=GB (jnX x j y.q.length ((dltS (its.getD k itm0))[t]).2)) (e2:N'.po=N.po.set j y') (ey:Cf y'=Cf (jnY y k ((dltS (its.getD k itm0))[t]).2)):BI N'=ED ro its k (t+1):=by
 have a1:=Xu h1;have a2:=Xt h2
 have hj:j<ro.length:=by
  have:=List.idxOf_lt_length_of_mem hm;rw [hr] at this;simpa using this
 rw [h] at a1 a2;rw [VK hro (Nat.le_of_lt hk) ht hj hr hm a1 a2,←h];unfold BI;dsimp only;rw [e1,e2,List.map_set,List.map_set,ex,ey]
 rfl
theorem FH.del {M:MF} {R:RI ->RowM} (h:FH M R) {b:Nat} {t:TypeId} {cs:List D} (hb:M b=some (.cells t cs)):FH (EQ M b) R:=by
 refine ⟨fun r=>?_,h.2⟩;have h1:=h.1 r
 cases hh:(R r).h with
 | none=>rw [hh] at h1;exact h1
 | some p=>
  obtain ⟨b',c⟩:=p;rw [hh] at h1;refine ⟨h1.1,?_⟩;rw [GW]
  ·exact h1.2
  ·rintro rfl;have:=h1.2;rw [hb] at this;cases this
theorem Cm.addN2 {wb mv:Nat} {nb pb:Nat ->Nat} {N:Net} {M:MF} (h:Cm wb mv nb pb N M) {x:Nd} (hx1:x.ef=[]) (hx2:x.eh=none) (hx3:x.pl=[]) (hx4:x.ph=none) {bn:Nat} (hM:M bn=some (Sa x)) (hbn:∀j,j<N.nd.length ->nb j≠bn) {b cap:Nat} (hb:Bg (EQ M wb) N.nh b=none) (hl:N.nd.length+1≤cap) {wb':Nat} (hw':Cg (Bg (EQ M wb) N.nh) b (.row pnT 1 cap ((List.range N.nd.length).map (fun j=>BQ (nb j))++ [BQ bn])) wb'=none):
  Cm wb' mv (Li nb N.nd.length bn) pb {N with nd:=N.nd++ [x],nh:=some (b,cap)} (Cg (Cg (Bg (EQ M wb) N.nh) b (.row pnT 1 cap ((List.range N.nd.length).map (fun j=>BQ (nb j))++ [BQ bn]))) wb' (VE (some (b,cap)) (N.nd.length+1) N.mh N.po.length mv)):=by
 have hq:∀j,((N.po.getD j Cy).q.map fun i=>BQ (Li nb N.nd.length bn i))=(N.po.getD j Cy).q.map fun i=>BQ (nb i):=fun j=>List.map_congr_left fun e he=>by
  rcases getD_mem (l:=N.po) (d:=Cy) j with hm | hm
  ·rw [DA (h.q _ hm e he)]
  ·rw [hm] at he;cases he
 have hR:∀r,r≠RI.n ->CP (Li nb N.nd.length bn) pb {N with nd:=N.nd++ [x],nh:=some (b,cap)} r=CP nb pb N r:=fun r hr=>by
  cases r with
  | q j=>show (⟨_,_,_,(N.po.getD j Cy).q.map _⟩:RowM)=_;rw [hq];rfl
  | m=>rfl
  | n=>exact absurd rfl hr
  | e i=>
   show (⟨((N.nd++ [x]).getD i Bo).eh,_,_,((N.nd++ [x]).getD i Bo).ef.map _⟩:RowM)=⟨(N.nd.getD i Bo).eh,_,_,(N.nd.getD i Bo).ef.map _⟩
   rw [Kd]
   split
   ·rename_i e
    rw [hx1,hx2,List.getD_eq_getElem?_getD,List.getElem?_eq_none (by omega)];rfl
   ·rfl
  | p i=>
   show (⟨((N.nd++ [x]).getD i Bo).ph,_,_,((N.nd++ [x]).getD i Bo).pl.map _⟩:RowM)=⟨(N.nd.getD i Bo).ph,_,_,(N.nd.getD i Bo).pl.map _⟩
   rw [Kd]
   split
   ·rename_i e
    rw [hx3,hx4,List.getD_eq_getElem?_getD,List.getElem?_eq_none (by omega)];rfl
   ·rfl
 have hd:=h.rs.del h.w
 have hup:=hd.upd (R':=CP (Li nb N.nd.length bn) pb {N with nd:=N.nd++ [x],nh:=some (b,cap)}) .n hR (b:=b) (cap:=cap) hb rfl (by
  show ((List.range (N.nd++ [x]).length).map _).length≤cap
  simp;exact hl)
 have hrow:(CP (Li nb N.nd.length bn) pb {N with nd:=N.nd++ [x],nh:=some (b,cap)} .n).xs=(List.range N.nd.length).map (fun j=>BQ (nb j))++ [BQ bn]:=by
  show (List.range (N.nd++ [x]).length).map _=_;rw [List.length_append,List.length_singleton,Nx]
 rw [hrow] at hup
 have hk:∀(b':Nat) (t:TypeId) (cs:List D),t≠103 ->M b'=some (.cells t cs) ->Cg (Cg (Bg (EQ M wb) N.nh) b (.row pnT 1 cap ((List.range N.nd.length).map (fun j=>BQ (nb j))++ [BQ bn]))) wb' (VE (some (b,cap)) (N.nd.length+1) N.mh N.po.length mv) b'=some (.cells t cs):=fun b' t cs ht hm=>by
  refine Fu hw' ?_
  have h1:EQ M wb b'=some (.cells t cs):=by
   rw [GW]
   ·exact hm
   ·rintro rfl;rw [h.w] at hm;injection hm with hm;injection hm with hm;exact ht hm.symm
  exact Go.Proofs.YtnkkaeblokdifaaGreat.keepM hb h1 fun c hc=>by have:=hd.blk (r:= .n) hc;rw [h1] at this;cases this
 refine ⟨fun i z hz=>?_,fun j y hy=>hk _ _ _ (by decide) (h.p j y hy),⟨fun r=>Kx hw' (hup.1 r),hup.2⟩,?_,fun i k hi hk e=>?_,h.pi,fun z hz=>?_,fun y hy=>?_⟩
 ·rcases snoc_get hz with ⟨h1,h2⟩ | ⟨h1,h2⟩
  ·rw [DA h1];exact hk _ _ _ (by decide) (h.n i z h2)
  ·subst h1 h2;rw [Fe];exact hk _ _ _ (by decide) hM
 ·rw [Pt];show _=some (BN.cells _ [hdr _ (N.nd++ [x]).length,_,_]);rw [List.length_append];rfl
 ·have hi':i<N.nd.length+1:=by simpa using hi
  have hk':k<N.nd.length+1:=by simpa using hk
  by_cases e1:i=N.nd.length<;>by_cases e2:k=N.nd.length
  ·omega
  ·subst e1;rw [Fe,DA (by omega)] at e;exact absurd e.symm (hbn k (by omega))
  ·subst e2;rw [Fe,DA (by omega)] at e;exact absurd e (hbn i (by omega))
  ·rw [DA (by omega),DA (by omega)] at e;exact h.ni i k (by omega) (by omega) e
 ·rcases List.mem_append.1 hz with hz | hz
  ·exact h.e z hz
  ·have e:=List.mem_singleton.1 hz;subst e;refine ⟨fun e he=>?_,fun e he=>?_⟩
   ·rw [hx1] at he;cases he
   ·rw [hx3] at he;cases he
 ·intro i hi;have:=h.q y hy i hi
  simp;omega
section
variable {P:Program} {F:Fr} {s:AS} {d:Nat} {ty T T' E:TypeId} {pos:String} {aft:Array Edge} {g:Option (Nat×Bool)} {x:Operand}
theorem QJ {p:Option Addr} (hT:P.underlying T=some (.pointer E)) (hx:s.ev x=some (.d (.raw (.pointer p)))) (hd:Nat.blt d s.n=true):AA P F ⟨some d,.binOp .neq T x (.const (.pointer none)) T',ty,pos,aft,g⟩ s d (.d (.raw (.bool (!p.isNone)))):=
 CR _ hd fun ρ act w hs=>by
  have hv:=hs.raw hx;have hp:P.pointee T=E:=by unfold Program.pointee;rw [hT]
  have hc:act.eval (.const (.pointer none))= .pointer none:=rfl;exact ⟨.bool (!p.isNone),by simp [execOp,hv,hc,H1,binOp,run_equal_pointer_nil w T p (by rw [hp];exact hT)],.d (.raw rfl)⟩
end
section
variable {P:Program} {F:Fr} {s:AS} {d:Nat} {ty T:TypeId} {pos:String} {aft:Array Edge} {g:Option (Nat×Bool)} {x:Operand}
theorem Ub (gg jg:Nat) {f j off f2 j2 m:Nat} {t:TypeId} {cs:List AV} (hx:s.ev x=some (.ptr f j off)) (ho:hget s.hp f j=some (.blk t cs)) (hc:cs[off]?=some (.d (.raw (.map (some m))))) (hg:hget s.hp gg jg=some (.addr f2 j2 (.map (some m)))) (hT:BA P T=true) (hd:Nat.blt d s.n=true):
  AA P F ⟨some d,.load T x,ty,pos,aft,g⟩ s d (.map f2 j2):=by
 have h:=AX (F:=F) (ty:=ty) (pos:=pos) (aft:=aft) (g:=g) hx ho hc hT hd;refine ⟨h.1,h.2.1,fun ρ act w hs=>?_⟩;refine ZcZ (fun a w' ⟨v,e1,e2,e3⟩=>⟨v,e1,?_,e3⟩) (h.2.2 ρ act w hs)
 cases e2 with
 | d e2=>cases e2 with
  | raw _=>
   obtain ⟨_,hv⟩:=hs.heap.sim gg jg _ hg;exact .map hv
end
def rosS (p:Prb):List Roo:=(Fk (p.ro.map Roo.r)).map fun i=>p.ro.getD i DH
def Kf (y:Po):Po:={y with mi:=y.q.length}
def XQ (p:Prb):Net:=⟨(FJ (rosS p) (ordP p) (ordP p).length).nd,(FJ (rosS p) (ordP p) (ordP p).length).po.map Kf,none,none⟩
theorem XM {α:Type} {l:List Roo} {f:Roo ->α} (h:(l.map f).Nodup) (k:Nat):((l.take k).map f).Nodup:=by
 exact h.sublist ((List.take_sublist k l).map f)
theorem XN {l:List Roo} {f:Roo ->A5} (h:(l.map f).Nodup) {k:Nat} (hk:k<l.length):f l[k]∉(l.take k).map f:=fun hm=>by
 have h1:=XM h (k+1);rw [Cd hk,List.nodup_append] at h1;exact h1.2.2 _ hm _ (List.mem_singleton_self _) rfl
abbrev nilP:D:= .raw (.pointer none)
theorem MB {p:Prb} (hE:Ab p=0):(p.ro.map Roo.r).Nodup:=by
 have h0:=YU.1 (N8 hE).1;rw [List.Nodup,List.pairwise_map,List.pairwise_iff_getElem];intro i j hi hj hij e;have:=h0 j (List.mem_range.2 hj);unfold NT at this;rw [Bh DH hj] at this
 split at this
 ·contradiction
 ·split at this
  ·cases this
  ·split at this
   ·cases this
   ·rename_i hn;exact hn (MY hj hij e)
theorem pm_in {rs:List A5} (hn:rs.Nodup) {ys:List Nat} (hp:ys.Perm (List.range rs.length)) {f:Nat ->Nat} {r:A5} {z:Value} (hm:r∈ys.map fun i=>rs.getD i DU):Ai (Rk DU f rs) r z=pV (f (ys.getD ((ys.map fun i=>rs.getD i DU).idxOf r) 0)) 0:=by
 have hj:=List.idxOf_lt_length_of_mem hm;have he:=List.getElem_idxOf hj
 generalize (ys.map fun i=>rs.getD i DU).idxOf r=j at hj he⊢
 rw [List.length_map] at hj;rw [List.getElem_map] at he;have hi:ys[j]<rs.length:=List.mem_range.1 (hp.mem_iff.1 (List.getElem_mem hj));rw [Bh DU hi] at he;rw [Bh 0 hj];exact TP hn hi he
theorem pm_out {rs:List A5} {ys:List Nat} (hp:ys.Perm (List.range rs.length)) {f:Nat ->Nat} {r:A5} {z:Value} (hm:r∉ys.map fun i=>rs.getD i DU):Ai (Rk DU f rs) r z=z:=by
 refine tab_no fun h=>hm ?_;obtain ⟨i,hi,e⟩:=List.getElem_of_mem h;exact List.mem_map.2 ⟨i,hp.mem_iff.2 (List.mem_range.2 hi),by rw [Bh DU hi,e]⟩
theorem SN (p:Prb):(rosS p).map Roo.r=(Fk (p.ro.map Roo.r)).map fun i=>(p.ro.map Roo.r).getD i DU:=by
 unfold rosS;rw [List.map_map];refine List.map_congr_left fun i hi=>?_;have hi':=List.mem_range.1 ((Vm (p.ro.map Roo.r)).mem_iff.1 hi);have hi2:i<p.ro.length:=by simpa using hi'
 show (p.ro.getD i DH).r=_;rw [Bh DH hi2,Bh DU hi',List.getElem_map]
set_option maxHeartbeats 2000000 in
theorem Va (p:Prb) (hf:Gu p) (hE:Ab p≠0):A6 Tryz.prog 34 [.d (CT p)] [] fun r H'=>r= .d (.tup [nilP,AF (Ab p)])∧H'=[]:=by
 have hck:=HH p hf.b;refine B6 Tryz.func34 Z Z Tryz.ntmps34 Z Z Z fun F hF=>?_;refine AG (AJ (G (CV 1 Z Z Z Z Z Z Z) (AD Z Z (AD Z Z (AI (AG (AG (AJ ?_))))))))
 first | refine J (At Z Z A2 rfl) ?_ | refine J (Au Z Z A2 Z Z Z) ?_ | refine J (Av Z Z (rfl) rfl A2 rfl) ?_
 refine J (BO (hck) Z Z) (AD Z Z (AI (AG (AJ (AC Z Z ?_)))))
 first | refine J (Ec Z Z Z) ?_ | refine J (Eb Z Z Z) ?_ | refine J (EV Z Z Z) ?_ | refine J (E8 Tryz.underlying34 Z Z Z) ?_ | refine J (Ea Tryz.underlying34 Z Z Z) ?_ | refine J (st_neqN Tryz.underlying34 Z Z) ?_ | refine J (E9 Tryz.underlying34 Z Z Z) ?_ | refine J (st_neqFN Tryz.underlying34 Z Z) ?_
 refine AI (EL rfl ((by simpa using hE)) (AG (AJ (AC Z Z (AD Z Z (AD Z Z (AI (Af ?_))))))));exact ⟨_,[],[],Ae rfl,rfl,rfl,rfl,rfl⟩
theorem poC_one (y:Po):∀c∈poC y,c.one=true:=by
 intro c hc;simp only [List.mem_cons,List.not_mem_nil,or_false] at hc;rcases hc with rfl | rfl | rfl | rfl | rfl | rfl | rfl | rfl | rfl | rfl<;>rfl
theorem La {p:Prb} {i:Nat} (hi:i<p.ro.length):(p.ro.map Roo.r).getD i DU=(p.ro.getD i DH).r:=by
 rw [Bh DH hi,Bh DU (by simpa using hi),List.getElem_map]
theorem WX (p:Prb):∀i∈List.range p.ro.length,∀j∈List.range p.ro.length,AT Tryz.prog 78 [.d (.ptr (.agg (poC (IG (p.ro.getD i DH))))),.d (.ptr (.agg (poC (IG (p.ro.getD j DH)))))] (.raw (.int .i64 (Ix (p.ro.map Roo.r) i j))):=fun i hi j hj=>by
 have h:=cmpPo_p (IG (p.ro.getD i DH)) (IG (p.ro.getD j DH))
 have e:Ix (p.ro.map Roo.r) i j=Bv (p.ro.getD i DH).r (p.ro.getD j DH).r:=by
  unfold Ix;rw [La (List.mem_range.1 hi),La (List.mem_range.1 hj)]
 rw [e];exact h
theorem sort_px {p:Prb} {wb mv:Nat} {pb:Nat ->Nat} {mh:Hd} {M:MF} (hR:Cm wb mv (fun _=>0) pb ⟨[],p.ro.map IG,none,mh⟩ M):∀i∈List.range p.ro.length,M (pb i)=some (.cells 113 (poC (IG (p.ro.getD i DH)))):=fun i hi=>by
 have hi':=List.mem_range.1 hi;refine hR.p i (IG (p.ro.getD i DH)) ?_;show (p.ro.map IG)[i]?=_;rw [List.getElem?_map,List.getElem?_eq_getElem hi',Bh DH hi'];rfl
theorem WW {p:Prb} {wb mv:Nat} {pb:Nat ->Nat} {mh:Hd} {M:MF} (hR:Cm wb mv (fun _=>0) pb ⟨[],p.ro.map IG,none,mh⟩ M):
  Cm wb mv (fun _=>0) (fun k=>pb ((Fk (p.ro.map Roo.r)).getD k 0)) ⟨[],(rosS p).map IG,none,mh⟩ (WY M mh Te ((Fk (p.ro.map Roo.r)).map fun x=>pD (pb x) 0)):=by
 have hp:(Fk (p.ro.map Roo.r)).Perm (List.range (p.ro.map IG).length):=by
  have:=Vm (p.ro.map Roo.r);rw [List.length_map] at this⊢;exact this
 have hpo:(Fk (p.ro.map Roo.r)).map (fun i=>(p.ro.map IG).getD i Cy)=(rosS p).map IG:=by
  unfold rosS;rw [List.map_map];refine List.map_congr_left fun i hi=>?_;have hi':=List.mem_range.1 (hp.mem_iff.1 hi);have hi2:i<p.ro.length:=by simpa using hi'
  show _=IG (p.ro.getD i DH);rw [Bh Cy hi',Bh DH hi2,List.getElem_map]
 cases hmh:mh with
 | some q=>
  obtain ⟨b,c⟩:=q;subst hmh;have h:=hR.perm rfl (fun y hy=>by obtain ⟨x,_,rfl⟩:=List.mem_map.1 hy;exact ⟨rfl,rfl⟩) hp rfl;dsimp only at h;rw [hpo] at h;exact h
 | none=>
  subst hmh;have h0:BW M none Te 1 ((List.range (p.ro.map IG).length).map fun j=>BQ (pb j)):=hR.rs.1 .m;have h1:=Vq h0 rfl;rw [List.length_range,List.length_map] at h1;have h2:p.ro=[]:=List.eq_nil_of_length_eq_zero h1
  have h3:(rosS p).map IG=p.ro.map IG:=by
   have h4:Fk (p.ro.map Roo.r)=[]:=List.eq_nil_of_length_eq_zero (by rw [hp.length_eq,List.length_range,List.length_map,h1]);rw [←hpo,h4,h2];rfl
  rw [h3];rw [h2] at hR⊢;exact ⟨hR.n,fun j y hy=>by simp at hy,⟨fun r=>by cases r<;>rfl,fun r r' b c c' e1 e2=>by cases r<;>cases e1⟩,hR.w,hR.ni,fun i j hi _ _=>by simp at hi,hR.e,hR.q⟩
theorem VG (ros:List Roo) (its:List AU) {mh:Hd}:BI ⟨[],ros.map IG,none,mh⟩=FJ ros its 0:=by
 unfold BI FJ HO;dsimp only;rw [List.map_map]
 rfl
theorem PN {p:Prb} (hE:Ab p=0):((ordP p).map AU.id).Nodup:=by
 have h1:ordP p=sortO p.it:=if_pos hE;rw [h1];exact ((TD p.it).map AU.id).nodup_iff.2 (YV (N8 hE).2.1)
theorem MA {p:Prb} (hE:Ab p=0):((rosS p).map Roo.r).Nodup:=by
 have h1:(rosS p).Perm p.ro:=by
  unfold rosS;refine ((Vm (p.ro.map Roo.r)).map _).trans (List.Perm.of_eq ?_);rw [List.length_map]
  apply List.ext_getElem (by simp)
  intro i h1 h2;simp only [List.getElem_map,List.getElem_range];exact Bh DH (by simpa using h2)
 exact (h1.map Roo.r).nodup_iff.2 (MB hE)
theorem OJ {l:List AU} (h:(l.map AU.id).Nodup) {k:Nat} (hk:k<l.length):l[k].id∉(l.take k).map AU.id:=fun hm=>by
 have h1:((l.take (k+1)).map AU.id).Nodup:=h.sublist ((List.take_sublist (k+1) l).map AU.id);rw [Cd hk,List.nodup_append] at h1;exact h1.2.2 _ hm _ (List.mem_singleton_self _) rfl
theorem nd_len {N:Net} {ros:List Roo} {its:List AU} {k:Nat} (h:BI N=FJ ros its k):N.nd.length=k:=by
 have h1:=congrArg (fun N=>N.nd.length) h;have h2:(N.nd.map GB).length=(HO (ros.map Roo.r) its k).length:=h1;rw [List.length_map] at h2;rw [h2];unfold HO;simp
theorem po_len {N:Net} {ros:List Roo} {its:List AU} {k:Nat} (h:BI N=FJ ros its k):N.po.length=ros.length:=by
 have h1:=congrArg (fun N=>N.po.length) h;have h2:(N.po.map Cf).length=(ros.map (S2 ((its.map dltS).take k))).length:=h1
 rwa [List.length_map,List.length_map] at h2
theorem T_zeroX {N:Net} {ros:List Roo} {its:List AU} {k:Nat} {x:AU} {nh:Hd} (hX:its.getD k itm0=x) (h:BI N=FJ ros its k):BI {N with nd:=N.nd++ [⟨x,none,[],none,[],true⟩],nh:=nh}=ED ros its k 0:=by
 subst hX;rw [VH,←h];unfold BI;dsimp only;rw [List.map_append];rfl
theorem T_skipX {ros:List Roo} {its:List AU} {k t:Nat} {X:AU} (hX:its.getD k itm0=X) (ht:t<(dltS X).length) (hr:((dltS X)[t]).1∉ros.map Roo.r):ED ros its k (t+1)=ED ros its k t:=by
 subst hX;exact VI ht hr
theorem T_stepX {ro:List Roo} {its:List AU} {k t j:Nat} {X:AU} (hX:its.getD k itm0=X) (hro:(ro.map Roo.r).Nodup) (hk:k<its.length) (ht:t<(dltS X).length) {N N':Net} (h:BI N=ED ro its k t) (hr:(ro.map Roo.r).idxOf ((dltS X)[t]).1=j) (hm:((dltS X)[t]).1∈ro.map Roo.r) {x x':Nd} {y y':Po} (h1:N.nd[k]?=some x) (h2:N.po[j]?=some y)
  (e1:N'.nd=N.nd.set k x') (ex:GB x'=GB (jnX x j y.q.length ((dltS X)[t]).2)) (e2:N'.po=N.po.set j y') (ey:Cf y'=Cf (jnY y k ((dltS X)[t]).2)):BI N'=ED ro its k (t+1):=by
 subst hX;exact T_step hro hk ht h hr hm h1 h2 e1 ex e2 ey
theorem T_nd {N:Net} {ros:List Roo} {its:List AU} {k t:Nat} (h:BI N=ED ros its k t):N.nd.length=k+1:=by
 have h1:=congrArg (fun N=>N.nd.length) h;have h2:(N.nd.map GB).length=(HO (ros.map Roo.r) its k++ [_]).length:=h1;rw [List.length_map,List.length_append] at h2;rw [h2];unfold HO;simp
theorem T_po {N:Net} {ros:List Roo} {its:List AU} {k t:Nat} (h:BI N=ED ros its k t):N.po.length=ros.length:=by
 have h1:=congrArg (fun N=>N.po.length) h;have h2:(N.po.map Cf).length=(ros.map _).length:=h1
 rwa [List.length_map,List.length_map] at h2
theorem T_lastX {ros:List Roo} {its:List AU} {k:Nat} {X:AU} (hX:its.getD k itm0=X) (hk:k<its.length):ED ros its k (dltS X).length=FJ ros its (k+1):=by
 subst hX;exact VJ hk
theorem ids_of {N:Net} {ros:List Roo} {its:List AU} (h:BI N=FJ ros its its.length):DR N=its.map AU.id:=by
 have h1:N.nd.map GB=HO (ros.map Roo.r) its its.length:=congrArg (fun N=>N.nd) h;have h2:DR N=(N.nd.map GB).map fun x=>x.it.id:=by unfold DR;rw [List.map_map];rfl
 rw [h2,h1];unfold HO;rw [List.map_map]
 apply List.ext_getElem (by simp)
 intro i a b;simp only [List.getElem_map,List.getElem_range,Function.comp];show (its.getD i itm0).id=_;rw [Bh itm0 (by simpa using b)]
theorem Xn {po po':List Po} {j:Nat} {y:Po} (hj:j<po.length) (h:po'=(po.take j).map Kf++po.drop j) (hy:po'[j]?=some y):po'.set j (Kf y)=(po.take (j+1)).map Kf++po.drop (j+1):=by
 subst h;have hl:((po.take j).map Kf).length=j:=by rw [List.length_map,List.length_take];omega
 rw [List.getElem?_append_right (by omega),hl,Nat.sub_self,List.drop_eq_getElem_cons hj] at hy;have e:y=po[j]:=(Option.some.inj hy).symm;rw [List.set_append_right _ _ (by omega),hl,Nat.sub_self,List.drop_eq_getElem_cons hj,List.set_cons_zero,Cd hj,e,List.append_assoc];rfl
theorem net_fin {p:Prb} {its:List AU} {ros:List Roo} (h1:ordP p=its) (h2:rosS p=ros):XQ p=⟨(FJ ros its its.length).nd,(FJ ros its its.length).po.map Kf,none,none⟩:=by
 unfold XQ;rw [h1,h2]
theorem XO {N N5:Net} {ros:List Roo} {its:List AU} (hT:BI N=FJ ros its its.length) (h1:N5.nd=N.nd) (h2:N5.po=N.po.map Kf):BI N5=⟨(FJ ros its its.length).nd,(FJ ros its its.length).po.map Kf,none,none⟩:=by
 rw [←hT];unfold BI;dsimp only;rw [h1,h2,List.map_map,List.map_map]
 rfl
set_option maxHeartbeats 2000000 in
theorem YG (p:Prb) (hf:Gu p) (hE:Ab p=0):A6 Tryz.prog 34 [.d (CT p)] [] fun r H'=>∃wb mv nb pb N M bs,r= .d (.tup [pD wb 0,AF 0])∧H'=HW mv bs (L0 nb (DR N)) M∧Cm wb mv nb pb N M∧BI N=XQ p:=by
 have hck:=HH p hf.b;rw [hE] at hck;have hrn:=MB hE;have hrl:=hf.r;refine B6 Tryz.func34 Z Z Tryz.ntmps34 Z Z Z fun F hF=>?_;refine AG (AJ (G (CV 1 Z Z Z Z Z Z Z) (AD Z Z (AD Z Z (AI (AG (AG (AJ ?_))))))))
 first | refine J (At Z Z A2 rfl) ?_ | refine J (Au Z Z A2 Z Z Z) ?_ | refine J (Av Z Z (rfl) rfl A2 rfl) ?_
 refine J (BO (hck) Z Z) (AD Z Z (AI (AG (AJ (AC Z Z ?_)))))
 first | refine J (Ec Z Z Z) ?_ | refine J (Eb Z Z Z) ?_ | refine J (EV Z Z Z) ?_ | refine J (E8 Tryz.underlying34 Z Z Z) ?_ | refine J (Ea Tryz.underlying34 Z Z Z) ?_ | refine J (st_neqN Tryz.underlying34 Z Z) ?_ | refine J (E9 Tryz.underlying34 Z Z Z) ?_ | refine J (st_neqFN Tryz.underlying34 Z Z) ?_
 refine AI (F4 rfl (rfl) (An (AG (AJ ?_))));refine G (YX 50 Z Z Z Z) (Qd 51 50 0 Z Z Z Z Z fun mv=>(Tp 26 51 0 (.inl rfl) rfl (J (DC zl103 pl103 Z Z Z) (XG 27 rfl (G (CV 2 Z Z Z Z Z Z Z) (AD Z Z (AI (AG ?_))))))));refine a_multi 40 Z Z Z (NH 5 2 40 (ds:=[hdr none 0,hdr none 0,KX (.map (some mv))]) hF Z Z Z Z Z Z Z Z Z Z Z (fun _=>rfl) fun wb hwb=>(AJ (G (YX 3 Z Z Z Z) (AD Z Z (AI (AG (AG (AJ ?_))))))))
 first | refine J (AO rfl Hf Z Z Z) ?_ | refine J (AQ rfl Hf Z Z Z) ?_ | refine J (AR rfl Hf Z Z Z) ?_ | refine J (AP rfl Hf Z Z Z) ?_ | refine J (AN rfl Hf Z Z Z) ?_
 first | refine J (A0 Z Z Gp rfl) ?_ | refine J (AX Z Z Z Gp rfl) ?_ | refine J (AZ Z Z (rfl) rfl Gp rfl) ?_
 first | refine J (Co rfl Tryz.underlying28 rfl) ?_ | refine J (C1 Z Z Tryz.underlying28 rfl) ?_ | refine J (Cp rfl Tryz.underlying28 rfl) ?_ | refine J (Cn rfl Tryz.underlying28 rfl) ?_ | refine J (Ca rfl Tryz.underlying28 rfl) ?_ | refine J (Ck rfl Tryz.underlying28 rfl) ?_
 refine AC Z Z (AI (Aw (EN (α:=Nat×(Nat ->Nat)×Hd×MF) (fun q=>⟨142,[(1,(.ptr 1 0 0)),(5,(.d (pD wb 0))),(6,(.map 3 0)),(31,(.d (.sl none (p.ro.map F6)))),(32,(.d (AF (p.ro.length:Int)))),(33,(.d (AF (q.1:Int))))],[(1,[.blk 31 [.d (.sl none (p.ro.map F6)),.d (.sl none (p.it.map BC))]]),(3,[CD E1 KX (Rk DU q.2.1 ((p.ro.take q.1).map Roo.r))]),(40,[.multi q.2.2.2]),(50,[CD AF KX (L0 (fun _=>0) [])]),(51,[.addr 50 0 (.map (some mv))])]⟩) (fun q=>q.1≤p.ro.length∧Cm wb mv (fun _=>0) q.2.1 ⟨[],(p.ro.take q.1).map IG,none,q.2.2.1⟩ q.2.2.2∧(q.2.2.1≠none ->0<q.1)) (fun q=>p.ro.length - q.1) ((0,(fun _=>0),none,Cg (fun _=>none) wb (VE none 0 none 0 mv))) (⟨Nat.zero_le _,rep0 _ _ _ _ (show Cg (fun _=>none) wb (VE none 0 none 0 mv) wb=_ from Pt _ _ _),fun h=>absurd rfl h⟩) (BS hF [1,3,40,50,51] Z Z ⟨rfl,rfl,rfl,rfl,rfl,rfl,trivial⟩) ?_)));rintro ⟨k,pb,mh,M⟩ ⟨hk0,hR,hmh⟩;dsimp only at hk0 hR hmh⊢;refine AG (AJ ?_)
 first | refine J (Cc Z Z Z) ?_ | refine J (Cb Z Z Z) ?_
 refine AI (AG ?_)
 first | refine BP rfl (fun h34=>?_) (fun h34=>?_) | refine BK rfl (fun h34=>?_) (fun h34=>?_)
 ·have hk1:k<p.ro.length:=EF h34;refine An (AG (Aw (AG ?_)));have hpl:((p.ro.take k).map IG).length=k:=by rw [List.length_map,List.length_take];omega
  have hpr:((p.ro.take k).map Roo.r).length=k:=by rw [List.length_map,List.length_take];omega
  refine AJ ?_
  first | refine J (Ch (k) Z Z (rfl) (A3 hk1) Tryz.underlying28 rfl Ot rfl) ?_ | refine J (Cj (k) Z Z (rfl) (A3 hk1) rfl Tryz.underlying28 Ot rfl) ?_
  first | refine J (At Z Z PE rfl) ?_ | refine J (Au Z Z PE Z Z Z) ?_ | refine J (Av Z Z (rfl) rfl PE rfl) ?_
  refine G (DT 4 Ol Z Z Z Z) (G (CC Z Z Z Z Z Z Z Ot) (AI (AG (AJ (AC Z Z ?_)))))
  first | refine J (AO rfl Dg Z Z Z) ?_ | refine J (AQ rfl Dg Z Z Z) ?_ | refine J (AR rfl Dg Z Z Z) ?_ | refine J (AP rfl Dg Z Z Z) ?_ | refine J (AN rfl Dg Z Z Z) ?_
  first | refine J (At Z Z Ah rfl) ?_ | refine J (Au Z Z Ah Z Z Z) ?_ | refine J (Av Z Z (rfl) rfl Ah rfl) ?_
  first | refine J (AO rfl Dg Z Z Z) ?_ | refine J (AQ rfl Dg Z Z Z) ?_ | refine J (AR rfl Dg Z Z Z) ?_ | refine J (AP rfl Dg Z Z Z) ?_ | refine J (AN rfl Dg Z Z Z) ?_
  first | refine J (At Z Z Ah rfl) ?_ | refine J (Au Z Z Ah Z Z Z) ?_ | refine J (Av Z Z (rfl) rfl Ah rfl) ?_
  first | refine J (AO rfl Oi Z Z Z) ?_ | refine J (AQ rfl Oi Z Z Z) ?_ | refine J (AR rfl Oi Z Z Z) ?_ | refine J (AP rfl Oi Z Z Z) ?_ | refine J (AN rfl Oi Z Z Z) ?_
  first | refine J (A0 Z Z Be rfl) ?_ | refine J (AX Z Z Z Be rfl) ?_ | refine J (AZ Z Z (rfl) rfl Be rfl) ?_
  refine J (DC zl113 pl113 Z Z Z) (XG 44 rfl (G (CV 5 Z Z Z Z Z Z Z) (XI 45 5 40 (ds:=poC (IG p.ro[k])) hF Z Z Z Z Z Z Z Z Z Z Z (fun _=>rfl) fun bn hbn=>?_)))
  first | refine G (FR (Rk DU pb ((p.ro.take k).map Roo.r)) (p.ro[k].r) (pV bn 0) Z Z Z Qh DQ Z Z) ?_ | refine G (Dv (Rk DU pb ((p.ro.take k).map Roo.r)) (p.ro[k].r) (pV bn 0) Z Z Z Qh DQ Z Z) ?_
  refine AI ?_;have hrnk:p.ro[k].r∉(p.ro.take k).map Roo.r:=XN hrn hk1;rw [TO hrnk,hpr,←Cd hk1];have hget:Ai (Rk DU (Li pb k bn) ((p.ro.take (k+1)).map Roo.r)) p.ro[k].r (.pointer none)=pV bn 0:=by rw [TP (i:=k) (XM hrn (k+1)) (by rw [List.length_map,List.length_take];omega) (by rw [List.getElem_map,List.getElem_take]),Fe]
  have hR1:=hR.fresh (m:=S1 (IG p.ro[k])) hbn;have hpb:((List.range k).map pb).length=k:=by simp
  have hwb1:Cg M bn (S1 (IG p.ro[k])) wb=some (VE none 0 mh ((List.range k).map pb).length mv):=by rw [hpb];have h:_=some (VE none 0 mh ((p.ro.take k).map IG).length mv):=hR1.w;rw [hpl] at h;exact h
  have hmr:BW (Cg M bn (S1 (IG p.ro[k]))) mh Te 1 (((List.range k).map pb).map BQ):=by have h:BW _ mh Te 1 ((List.range ((p.ro.take k).map IG).length).map fun j=>BQ (pb j)):=hR1.rs.1 .m;rw [hpl] at h;rw [List.map_map];exact h
  refine Gs [[],[],[1],[1,2],[1,2,3],[],[],[6],[5,6,7],[5,6,7,8],[1,2,3,4,5,6,7,8,9],[0,1,2,3,4,5,6,7,8,9,10],[0,1,2,3,4,5,6,7,8,9,10,11],[0,1,2,3,4,5,6,7,8,9,10,11,12]] BF rfl (IK ?_)
  first | refine AE [5] [] Z Z (fun _=>AB (Bb Z Z)) ?_ | refine AH [5] Z Z (fun _=>AB (Bb Z Z)) ?_
  first | refine AE [5] [] Z Z (fun _=>AB (Bb Z Z)) ?_ | refine AH [5] Z Z (fun _=>AB (Bb Z Z)) ?_
  first | refine AE [47] [] Z Z (fun _=>AB (B1 Z Z)) ?_ | refine AH [47] Z Z (fun _=>AB (B1 Z Z)) ?_ | refine AE [47] [] Z Z (fun _=>AB (BY Z Z)) ?_ | refine AH [47] Z Z (fun _=>AB (BY Z Z)) ?_ | refine AE [47] [] Z Z (fun _=>AB (B2 Z Z)) ?_ | refine AH [47] Z Z (fun _=>AB (B2 Z Z)) ?_ | refine AE [47] [] Z Z (fun _=>AB (BZ Z Z)) ?_ | refine AH [47] Z Z (fun _=>AB (BZ Z Z)) ?_
  first | refine AE [48] [] Z Z (fun _=>AB (AO rfl JJ Z Z Z)) ?_ | refine AH [48] Z Z (fun _=>AB (AO rfl JJ Z Z Z)) ?_ | refine AE [48] [] Z Z (fun _=>AB (AQ rfl JJ Z Z Z)) ?_ | refine AH [48] Z Z (fun _=>AB (AQ rfl JJ Z Z Z)) ?_ | refine AE [48] [] Z Z (fun _=>AB (AR rfl JJ Z Z Z)) ?_ | refine AH [48] Z Z (fun _=>AB (AR rfl JJ Z Z Z)) ?_ | refine AE [48] [] Z Z (fun _=>AB (AP rfl JJ Z Z Z)) ?_ | refine AH [48] Z Z (fun _=>AB (AP rfl JJ Z Z Z)) ?_ | refine AE [48] [] Z Z (fun _=>AB (AN rfl JJ Z Z Z)) ?_ | refine AH [48] Z Z (fun _=>AB (AN rfl JJ Z Z Z)) ?_
  refine AE [49] [40] Z Z (fun _=>AB (He (f:=40) Z Z (hwb1) rfl Tm rfl)) ?_
  first | refine AE [6] [] Z Z (fun _=>AB (Bb Z Z)) ?_ | refine AH [6] Z Z (fun _=>AB (Bb Z Z)) ?_
  first | refine AE [8] [] Z Z (fun _=>AB (AO rfl Dg Z Z Z)) ?_ | refine AH [8] Z Z (fun _=>AB (AO rfl Dg Z Z Z)) ?_ | refine AE [8] [] Z Z (fun _=>AB (AQ rfl Dg Z Z Z)) ?_ | refine AH [8] Z Z (fun _=>AB (AQ rfl Dg Z Z Z)) ?_ | refine AE [8] [] Z Z (fun _=>AB (AR rfl Dg Z Z Z)) ?_ | refine AH [8] Z Z (fun _=>AB (AR rfl Dg Z Z Z)) ?_ | refine AE [8] [] Z Z (fun _=>AB (AP rfl Dg Z Z Z)) ?_ | refine AH [8] Z Z (fun _=>AB (AP rfl Dg Z Z Z)) ?_ | refine AE [8] [] Z Z (fun _=>AB (AN rfl Dg Z Z Z)) ?_ | refine AH [8] Z Z (fun _=>AB (AN rfl Dg Z Z Z)) ?_
  first | refine AE [52] [4] Z Z (fun _=>AB (At Z Z Ah rfl)) ?_ | refine AE [52] [4] Z Z (fun _=>AB (Au Z Z Ah Z Z Z)) ?_ | refine AE [52] [4] Z Z (fun _=>AB (Av Z Z (rfl) rfl Ah rfl)) ?_
  refine AE [51,53] [3] Z Z (fun _=>AB (LT (Rk DU (Li pb k bn) ((p.ro.take (k+1)).map Roo.r)) p.ro[k].r (.pointer none) (pV bn 0) Z Z Z Qh DQ Vv hget rfl)) (G7 [54] [6] [(55,_)] Z Z (fun _=>G8 (Fg 6 sl100 Z Z Z Z Z Z Z Z)) (.inr ⟨55,_,rfl,rfl,rfl,rfl,rfl⟩) Z Z Z Z Z (G7 [50,55] [61,40,6] [(56,_)] Z Z (fun _=>G8 (JX 50 61 40 hmr Z Z (by simp) Z Z Z Z Z (IX (emb:=BQ) ((List.range k).map pb) [bn] Z Z Z Z Z Z Z Z sl100 (by simp;omega) Z Z Z Z))) (.inr ⟨56,_,rfl,rfl,rfl,rfl,rfl⟩) Z Z Z Z Z (Gf 11 Z Z Z (BE 12 Z Z (Hr 56 61 40 hF Z Z Z (by simp) (by simp) Z Z Z Z Z Z Z (fun _ _=>rfl) fun b1 c1 hb1 hc1=>?_)))))
  first | refine J (B1 Z Z) ?_ | refine J (BY Z Z) ?_ | refine J (B2 Z Z) ?_ | refine J (BZ Z Z) ?_
  refine AI ⟨rfl,?_⟩;refine BE 13 Z Z ?_
  first | refine J (AO rfl JJ Z Z Z) ?_ | refine J (AQ rfl JJ Z Z Z) ?_ | refine J (AR rfl JJ Z Z Z) ?_ | refine J (AP rfl JJ Z Z Z) ?_ | refine J (AN rfl JJ Z Z Z) ?_
  refine AI ⟨rfl,?_⟩;refine BE 14 Z Z (G (Zda (f:=40) Z Z Z Z (hR1.keepM hb1 hwb1) ((by show _<3;omega)) rfl sz100) (AI ⟨rfl,?_⟩));refine Ge ?_;have e1:((List.range ((p.ro.take k).map IG).length).map (fun j=>BQ (pb j))++ [BQ bn])=((List.range k).map pb++ [bn]).map BQ:=by rw [hpl,List.map_append,List.map_map];rfl
  have e2:((List.range k).map pb++ [bn]).length=((p.ro.take k).map IG).length+1:=by simp;omega
  have hR2:=hR1.addM (y:=IG p.ro[k]) (bn:=bn) Z Z (Pt _ _ _) (fun j hj e=>by have h1:=hR.p j _ (List.getElem?_eq_getElem hj);rw [e,hbn] at h1;cases h1) hb1 (cap:=c1) (by have h:=hc1;simp at h⊢;omega);dsimp only at hR2;rw [e1,←e2,←Cd hk1,hpl] at hR2;refine AJ (J (By Z Z (IntWalk.i64_in _ (by omega)) rfl) (AC Z Z (AI ?_)));exact ⟨(k+1,Li pb k bn,some (b1,c1),_),⟨by show k+1≤_;omega,hR2,fun _=>Nat.succ_pos _⟩,by show p.ro.length - (k+1)<p.ro.length - k;omega,BS hF [1,3,40,50,51] rfl (rfl) ⟨rfl,rfl,rfl,rfl,rfl,rfl,trivial⟩⟩
 ·refine Ct (AG ?_);have hkk:k=p.ro.length:=by have h:=h34;omega
  subst hkk;rw [List.take_length] at hR⊢;have hwb2:M wb=some (VE none 0 mh p.ro.length mv):=by have h:_=some (VE none 0 mh (p.ro.map IG).length mv):=hR.w;rw [List.length_map] at h;exact h
  have hR3:=WW hR;have hmr:BW M mh Te 1 ((List.range p.ro.length).map fun j=>BQ (pb j)):=by have h:BW _ mh Te 1 ((List.range (p.ro.map IG).length).map fun j=>BQ (pb j)):=hR.rs.1 .m;rw [List.length_map] at h;exact h
  refine AJ (AC Z Z ?_)
  first | refine J (B1 Z Z) ?_ | refine J (BY Z Z) ?_ | refine J (B2 Z Z) ?_ | refine J (BZ Z Z) ?_
  first | refine J (AO rfl JJ Z Z Z) ?_ | refine J (AQ rfl JJ Z Z Z) ?_ | refine J (AR rfl JJ Z Z Z) ?_ | refine J (AP rfl JJ Z Z Z) ?_ | refine J (AN rfl JJ Z Z Z) ?_
  refine J (He (f:=40) Z Z (hwb2) rfl Tm rfl) (G (WO laysPo Tryz.func78 Z Z (f:=40) (bl:=pb) (px:=fun j=>poC (IG (p.ro.getD j DH))) (tx:=fun _=>113) (Ix (p.ro.map Roo.r)) (Oe _).swo (List.range p.ro.length) (Fk (p.ro.map Roo.r)) (by simp;omega) (WX p) (fun ys h1 h2=>Ug hrn (by rw [List.length_map];exact h1) h2) Z Z (sort_px hR) (fun _ _=>poC_one _) Z Z P8 hmr rfl (by simp) (fun h=>by have h1:=hmh h;intro h2;have h3:=congrArg List.length h2;rw [List.length_range,List.length_nil] at h3;omega) Z Z) (AI (AG (AG ?_))))
  obtain ⟨its,hits⟩:∃its,ordP p=its:=⟨_,rfl⟩
  have hoi:=LB p hf.b;rw [hits] at hoi
  obtain ⟨ros,hros⟩:∃ros,rosS p=ros:=⟨_,rfl⟩
  have hitl:its.length≤30:=by rw [←hits];exact Nat.le_trans (Ey p) hf.i
  have hrol:ros.length≤100:=by rw [←hros];unfold rosS;rw [List.length_map,(Vm _).length_eq,List.length_range,List.length_map];exact hrl
  have hitx:∀x∈its,Y7 x:=fun x hx=>hf.x x (HJ (p:=p) (by rw [hits];exact hx));have hin:(its.map AU.id).Nodup:=by rw [←hits];exact PN hE
  have hroN:(ros.map Roo.r).Nodup:=by rw [←hros];exact MA hE
  have hpin:=fun (r:A5) (h:r∈ros.map Roo.r)=>pm_in (z:= .pointer none) hrn (Vm (p.ro.map Roo.r)) (f:=pb) (r:=r) (by rw [←SN,hros];exact h);have hpout:=fun (r:A5) (h:r∉ros.map Roo.r)=>pm_out (z:= .pointer none) (Vm (p.ro.map Roo.r)) (f:=pb) (r:=r) (by rw [←SN,hros];exact h);rw [←SN,hros] at hpin;rw [hros] at hR3
  generalize WY M mh Te ((Fk (p.ro.map Roo.r)).map fun x=>pD (pb x) 0)=M2 at hR3⊢
  obtain ⟨pb2,hpb2⟩:∃f:Nat ->Nat,(fun k=>pb ((Fk (p.ro.map Roo.r)).getD k 0))=f:=⟨_,rfl⟩
  rw [hpb2] at hR3;have hpin2:∀r,r∈ros.map Roo.r ->Ai (Rk DU pb (p.ro.map Roo.r)) r (.pointer none)=pV (pb2 ((ros.map Roo.r).idxOf r)) 0:=fun r h=>by rw [hpin r h,←hpb2]
  obtain ⟨pm,hpm⟩:∃m,Rk DU pb (p.ro.map Roo.r)=m:=⟨_,rfl⟩
  rw [hpm] at hpin2 hpout⊢;refine AJ ?_
  first | refine J (At Z Z A2 rfl) ?_ | refine J (Au Z Z A2 Z Z Z) ?_ | refine J (Av Z Z (rfl) rfl A2 rfl) ?_
  refine J (BO (hoi) Z Z) ?_
  first | refine J (Co rfl Tryz.underlying33 rfl) ?_ | refine J (C1 Z Z Tryz.underlying33 rfl) ?_ | refine J (Cp rfl Tryz.underlying33 rfl) ?_ | refine J (Cn rfl Tryz.underlying33 rfl) ?_ | refine J (Ca rfl Tryz.underlying33 rfl) ?_ | refine J (Ck rfl Tryz.underlying33 rfl) ?_
  refine AC Z Z (AI (Aw (EN (α:=Nat×Nat×(Nat ->Nat)×Net×MF) (fun q=>⟨142,[(1,(.ptr 1 0 0)),(5,(.d (pD q.2.1 0))),(6,(.map 3 0)),(66,(.d (.sl none ((its.map AU.id).map AF)))),(67,(.d (AF ((its.map AU.id).length:Int)))),(68,(.d (AF (q.1:Int))))],[(1,[.blk 31 [.d (.sl none (p.ro.map F6)),.d (.sl none (p.it.map BC))]]),(3,[CD E1 KX pm]),(40,[.multi q.2.2.2.2]),(50,[CD AF KX (L0 q.2.2.1 ((its.take q.1).map AU.id))]),(51,[.addr 50 0 (.map (some mv))])]⟩) (fun q=>q.1≤its.length∧Cm q.2.1 mv q.2.2.1 pb2 q.2.2.2.1 q.2.2.2.2∧BI q.2.2.2.1=FJ ros its q.1) (fun q=>its.length - q.1) ((0,wb,(fun _=>0),⟨[],ros.map IG,none,mh⟩,M2)) (⟨Nat.zero_le _,hR3,VG ros its⟩) (BS hF [1,3,40,50,51] Z Z ⟨rfl,rfl,rfl,rfl,rfl,rfl,trivial⟩) ?_)));rintro ⟨k,wb,nb,N,M⟩ ⟨hk0,hR,hT⟩;dsimp only at hk0 hR hT⊢;refine AG (AJ ?_)
  first | refine J (Cc Z Z Z) ?_ | refine J (Cb Z Z Z) ?_
  refine AI (AG ?_)
  first | refine BP rfl (fun h69=>?_) (fun h69=>?_) | refine BK rfl (fun h69=>?_) (fun h69=>?_)
  ·have hk1:k<its.length:=by have h:=h69;rw [List.length_map] at h;exact EF h
   refine An (AG (Aw (AG ?_)))
   obtain ⟨X,hX⟩:∃X,its.getD k itm0=X:=⟨_,rfl⟩
   have hXk:its[k]=X:=by rw [←hX,Bh itm0 hk1]
   have hidk:X.id∉(its.take k).map AU.id:=by rw [←hXk];exact OJ hin hk1
   have hitk:Mb its X.id=(X,true):=by have h:=RA hk1 (OJ hin hk1) rfl;rw [hXk] at h;exact h
   have hip:=item_p p X.id hf.b;rw [hits,hitk] at hip;have hk70:((its.map AU.id).map AF)[k]?=some (AF X.id):=by rw [List.getElem?_map,List.getElem?_map,List.getElem?_eq_getElem hk1,hXk];rfl
   refine AJ ?_
   first | refine J (Ch (k) Z Z (rfl) (hk70) Tryz.underlying33 rfl Et rfl) ?_ | refine J (Cj (k) Z Z (rfl) (hk70) rfl Tryz.underlying33 Et rfl) ?_
   first | refine J (A0 Z Z Aa rfl) ?_ | refine J (AX Z Z Z Aa rfl) ?_ | refine J (AZ Z Z (rfl) rfl Aa rfl) ?_
   refine AD Z Z (AI (AG (AJ ?_)))
   first | refine J (At Z Z A2 rfl) ?_ | refine J (Au Z Z A2 Z Z Z) ?_ | refine J (Av Z Z (rfl) rfl A2 rfl) ?_
   refine AC Z Z (J (BO (hip) Z Z) (AC Z Z ?_))
   first | refine J (BU Z Z Z) ?_ | refine J (BV Z Z Z) ?_
   first | refine J (BU Z Z Z) ?_ | refine J (BV Z Z Z) ?_
   refine G (DT 7 FI Z Z Z Z) (G (CC Z Z Z Z Z Z Z Cq) (AD Z Z (AI (AG (AJ ?_)))))
   first | refine J (At Z Z Ag rfl) ?_ | refine J (Au Z Z Ag Z Z Z) ?_ | refine J (Av Z Z (rfl) rfl Ag rfl) ?_
   refine J (DC zl107 pl107 Z Z Z) (XG 79 rfl (G (CV 8 Z Z Z Z Z Z Z) (AD Z Z (AI (AG (NH 13 8 40 (ds:=ndC ⟨X,none,[],none,[],true⟩) hF Z Z Z Z Z Z Z Z Z Z Z (fun _=>rfl) fun bn hbn=>?_))))));have hNk:N.nd.length=k:=nd_len hT;have hR1:=hR.fresh (m:=Sa ⟨X,none,[],none,[],true⟩) hbn;have hnb:((List.range k).map nb).length=k:=by simp
   have hwb1:Cg M bn (Sa ⟨X,none,[],none,[],true⟩) wb=some (VE N.nh ((List.range k).map nb).length N.mh N.po.length mv):=by rw [hnb];have h:_=some (VE N.nh N.nd.length N.mh N.po.length mv):=hR1.w;rw [hNk] at h;exact h
   have hnr:BW (EQ (Cg M bn (Sa ⟨X,none,[],none,[],true⟩)) wb) N.nh pnT 1 (((List.range k).map nb).map BQ):=by have h:BW _ N.nh pnT 1 ((List.range N.nd.length).map fun j=>BQ (nb j)):=(hR1.rs.del hR1.w).1 .n;rw [hNk] at h;rw [List.map_map];exact h
   refine a_split 5 20 40 Z Z Z hwb1 Z Z Z Z (Gs [[],[],[1],[1,2],[1,2,3],[],[],[6],[6,7],[6,7,8],[],[10],[6,7,8,9,10,11],[],[0,1,2,3,4,6,7,8,9,10,11,12],[0,1,2,3,4,6,7,8,9,10,11,12,14],[0,1,2,3,4,6,7,8,9,10,11,12,14,15],[0,1,2,3,4,5,6,7,8,9,10,11,12,14,15,16],[0,1,2,3,4,5,6,7,8,9,10,11,12,14,15,16,17],[0,1,2,3,4,5,6,7,8,9,10,11,12,13,14,15,16,17,18]] BF rfl (IK ?_))
   first | refine AE [5] [] Z Z (fun _=>AB (Bb Z Z)) ?_ | refine AH [5] Z Z (fun _=>AB (Bb Z Z)) ?_
   first | refine AE [5] [] Z Z (fun _=>AB (Bb Z Z)) ?_ | refine AH [5] Z Z (fun _=>AB (Bb Z Z)) ?_
   first | refine AE [82] [] Z Z (fun _=>AB (B1 Z Z)) ?_ | refine AH [82] Z Z (fun _=>AB (B1 Z Z)) ?_ | refine AE [82] [] Z Z (fun _=>AB (BY Z Z)) ?_ | refine AH [82] Z Z (fun _=>AB (BY Z Z)) ?_ | refine AE [82] [] Z Z (fun _=>AB (B2 Z Z)) ?_ | refine AH [82] Z Z (fun _=>AB (B2 Z Z)) ?_ | refine AE [82] [] Z Z (fun _=>AB (BZ Z Z)) ?_ | refine AH [82] Z Z (fun _=>AB (BZ Z Z)) ?_
   first | refine AE [83] [] Z Z (fun _=>AB (AO rfl L4 Z Z Z)) ?_ | refine AH [83] Z Z (fun _=>AB (AO rfl L4 Z Z Z)) ?_ | refine AE [83] [] Z Z (fun _=>AB (AQ rfl L4 Z Z Z)) ?_ | refine AH [83] Z Z (fun _=>AB (AQ rfl L4 Z Z Z)) ?_ | refine AE [83] [] Z Z (fun _=>AB (AR rfl L4 Z Z Z)) ?_ | refine AH [83] Z Z (fun _=>AB (AR rfl L4 Z Z Z)) ?_ | refine AE [83] [] Z Z (fun _=>AB (AP rfl L4 Z Z Z)) ?_ | refine AH [83] Z Z (fun _=>AB (AP rfl L4 Z Z Z)) ?_ | refine AE [83] [] Z Z (fun _=>AB (AN rfl L4 Z Z Z)) ?_ | refine AH [83] Z Z (fun _=>AB (AN rfl L4 Z Z Z)) ?_
   refine AE [84] [20,51] Z Z (fun _=>AB (Ub 51 0 Z Z Z Z XC rfl)) ?_
   first | refine AE [10] [] Z Z (fun _=>AB (Bb Z Z)) ?_ | refine AH [10] Z Z (fun _=>AB (Bb Z Z)) ?_
   first | refine AE [5] [] Z Z (fun _=>AB (Bb Z Z)) ?_ | refine AH [5] Z Z (fun _=>AB (Bb Z Z)) ?_
   first | refine AE [87] [] Z Z (fun _=>AB (B1 Z Z)) ?_ | refine AH [87] Z Z (fun _=>AB (B1 Z Z)) ?_ | refine AE [87] [] Z Z (fun _=>AB (BY Z Z)) ?_ | refine AH [87] Z Z (fun _=>AB (BY Z Z)) ?_ | refine AE [87] [] Z Z (fun _=>AB (B2 Z Z)) ?_ | refine AH [87] Z Z (fun _=>AB (B2 Z Z)) ?_ | refine AE [87] [] Z Z (fun _=>AB (BZ Z Z)) ?_ | refine AH [87] Z Z (fun _=>AB (BZ Z Z)) ?_
   first | refine AE [88] [] Z Z (fun _=>AB (AO rfl JI Z Z Z)) ?_ | refine AH [88] Z Z (fun _=>AB (AO rfl JI Z Z Z)) ?_ | refine AE [88] [] Z Z (fun _=>AB (AQ rfl JI Z Z Z)) ?_ | refine AH [88] Z Z (fun _=>AB (AQ rfl JI Z Z Z)) ?_ | refine AE [88] [] Z Z (fun _=>AB (AR rfl JI Z Z Z)) ?_ | refine AH [88] Z Z (fun _=>AB (AR rfl JI Z Z Z)) ?_ | refine AE [88] [] Z Z (fun _=>AB (AP rfl JI Z Z Z)) ?_ | refine AH [88] Z Z (fun _=>AB (AP rfl JI Z Z Z)) ?_ | refine AE [88] [] Z Z (fun _=>AB (AN rfl JI Z Z Z)) ?_ | refine AH [88] Z Z (fun _=>AB (AN rfl JI Z Z Z)) ?_
   first | refine AE [89] [20] Z Z (fun _=>AB (A0 Z Z IH rfl)) ?_ | refine AE [89] [20] Z Z (fun _=>AB (AX Z Z Z IH rfl)) ?_ | refine AE [89] [20] Z Z (fun _=>AB (AZ Z Z (rfl) rfl IH rfl)) ?_
   first | refine AE [13] [] Z Z (fun _=>AB (Bb Z Z)) ?_ | refine AH [13] Z Z (fun _=>AB (Bb Z Z)) ?_
   refine G7 [91] [9] [(92,_)] Z Z (fun _=>G8 (Fg 9 sl98 Z Z Z Z Z Z Z Z)) (.inr ⟨92,_,rfl,rfl,rfl,rfl,rfl⟩) Z Z Z Z Z (G7 [90,92] [60,40,9] [(93,_)] Z Z (fun _=>G8 (JX 90 60 40 hnr Z Z (by simp) Z Z Z Z Z (IX (emb:=BQ) ((List.range k).map nb) [bn] Z Z Z Z Z Z Z Z sl98 (by simp;omega) Z Z Z Z))) (.inr ⟨93,_,rfl,rfl,rfl,rfl,rfl⟩) Z Z Z Z Z ?_)
   first | refine AE [13] [] Z Z (fun _=>AB (Bb Z Z)) ?_ | refine AH [13] Z Z (fun _=>AB (Bb Z Z)) ?_
   first | refine AE [81] [] Z Z (fun _=>AB (B1 Z Z)) ?_ | refine AH [81] Z Z (fun _=>AB (B1 Z Z)) ?_ | refine AE [81] [] Z Z (fun _=>AB (BY Z Z)) ?_ | refine AH [81] Z Z (fun _=>AB (BY Z Z)) ?_ | refine AE [81] [] Z Z (fun _=>AB (B2 Z Z)) ?_ | refine AH [81] Z Z (fun _=>AB (B2 Z Z)) ?_ | refine AE [81] [] Z Z (fun _=>AB (BZ Z Z)) ?_ | refine AH [81] Z Z (fun _=>AB (BZ Z Z)) ?_
   first | refine AE [95] [] Z Z (fun _=>AB (AO rfl JI Z Z Z)) ?_ | refine AH [95] Z Z (fun _=>AB (AO rfl JI Z Z Z)) ?_ | refine AE [95] [] Z Z (fun _=>AB (AQ rfl JI Z Z Z)) ?_ | refine AH [95] Z Z (fun _=>AB (AQ rfl JI Z Z Z)) ?_ | refine AE [95] [] Z Z (fun _=>AB (AR rfl JI Z Z Z)) ?_ | refine AH [95] Z Z (fun _=>AB (AR rfl JI Z Z Z)) ?_ | refine AE [95] [] Z Z (fun _=>AB (AP rfl JI Z Z Z)) ?_ | refine AH [95] Z Z (fun _=>AB (AP rfl JI Z Z Z)) ?_ | refine AE [95] [] Z Z (fun _=>AB (AN rfl JI Z Z Z)) ?_ | refine AH [95] Z Z (fun _=>AB (AN rfl JI Z Z Z)) ?_
   refine G7 [96,93] [20,60] [] Z Z (fun _=>G8 (CC Z Z Z Z Z Z Z sz98)) (.inl ⟨rfl,rfl⟩) Z Z Z Z Z (G7 [85,86] [50] [(97,_)] Z Z (fun _=>G8 (Hk (L0 nb ((its.take k).map AU.id)) (X.id) ((.pointer none)) Z Z Z XV KI za99 Z Z)) (.inr ⟨97,_,rfl,rfl,rfl,rfl,rfl⟩) Z Z Z Z Z ?_)
   first | refine AE [97] [] Z Z (fun _=>AB (BU Z Z Z)) ?_ | refine AH [97] Z Z (fun _=>AB (BU Z Z Z)) ?_ | refine AE [97] [] Z Z (fun _=>AB (BV Z Z Z)) ?_ | refine AH [97] Z Z (fun _=>AB (BV Z Z Z)) ?_
   refine Gf 19 Z Z Z (BE 20 Z Z (G (Hl (L0 nb ((its.take k).map AU.id)) (X.id) ((.pointer none)) (pV bn 0) Z Z Z KI Z Z) (AI ⟨rfl,?_⟩)));refine Ge (AG (TB 93 60 40 20 0 hF Z Z Z (by simp) (by simp) Z Z (fun _ _=>rfl) (fun _ _=>rfl) rfl (fun _ _=>rfl) (fun _ _=>rfl) Z Z (fun _ _=>rfl) (fun _ _=>rfl) (fun _ _=>rfl) (fun _ _=>rfl) fun b1 c1 hb1 hc1=>(NH 5 20 40 (ds:=[hdr (some (b1,c1)) ((List.range k).map nb++ [bn]).length,hdr N.mh N.po.length,KX (.map (some mv))]) hF Z Z Z Z Z Z Z Z Z Z Z (fun _=>rfl) fun wb2 hwb2=>?_)));have hby:BG (L0 nb ((its.take k).map AU.id)) X.id (pV bn 0)=L0 (Li nb k bn) ((its.take (k+1)).map AU.id):=by have h:=TO (d:=(0:Int)) (f:=nb) (b:=bn) hidk;rw [show ((its.take k).map AU.id).length=k by rw [List.length_map,List.length_take];omega,←hXk,←Cd hk1] at h;rw [←hXk];exact h
   rw [hby];have e1:((List.range N.nd.length).map (fun j=>BQ (nb j))++ [BQ bn])=((List.range k).map nb++ [bn]).map BQ:=by rw [hNk,List.map_append,List.map_map];rfl
   have e2:((List.range k).map nb++ [bn]).length=N.nd.length+1:=by simp;omega
   have hR2:=hR1.addN2 (x:=⟨X,none,[],none,[],true⟩) (bn:=bn) Z Z Z Z (Pt _ _ _) (fun j hj e=>by have h1:=hR.n j _ (List.getElem?_eq_getElem hj);rw [e,hbn] at h1;cases h1) hb1 (cap:=c1) (by have h:=hc1;simp at h;omega) (wb':=wb2) (by rw [e1];exact hwb2);rw [e1,←e2,hNk] at hR2;have hT0:=T_zeroX (x:=X) (nh:=some (b1,c1)) hX hT;have hfk:Y7 X:=hitx X (by rw [←hXk];exact List.getElem_mem hk1);have hdl:=Pa hfk;refine AJ ?_
   first | refine J (At Z Z Ag rfl) ?_ | refine J (Au Z Z Ag Z Z Z) ?_ | refine J (Av Z Z (rfl) rfl Ag rfl) ?_
   refine J (BO (RU X (by have h:=hfk.1;omega) (by have h:=hfk.2.1;omega) (by have h:=hfk.2.2;omega)) Z Z) (AC Z Z ?_)
   first | refine J (BU Z Z Z) ?_ | refine J (BV Z Z Z) ?_
   first | refine J (BU Z Z Z) ?_ | refine J (BV Z Z Z) ?_
   refine AD Z Z (AD Z Z (AI (AG (AJ (AC Z Z ?_)))))
   first | refine J (Co rfl Tryz.underlying44 rfl) ?_ | refine J (C1 Z Z Tryz.underlying44 rfl) ?_ | refine J (Cp rfl Tryz.underlying44 rfl) ?_ | refine J (Cn rfl Tryz.underlying44 rfl) ?_ | refine J (Ca rfl Tryz.underlying44 rfl) ?_ | refine J (Ck rfl Tryz.underlying44 rfl) ?_
   refine AC Z Z (AI (Aw (EN (α:=Nat×Net×MF) (fun r=>⟨142,[(1,(.ptr 1 0 0)),(5,(.d (pD wb2 0))),(6,(.map 3 0)),(66,(.d (.sl none ((its.map AU.id).map AF)))),(67,(.d (AF ((its.map AU.id).length:Int)))),(68,(.d (AF (k:Int)))),(13,(.d (pD bn 0))),(104,(.d (.sl none ((dltS X).map Pb)))),(105,(.d (AF ((dltS X).length:Int)))),(106,(.d (AF (r.1:Int))))],[(1,[.blk 31 [.d (.sl none (p.ro.map F6)),.d (.sl none (p.it.map BC))]]),(3,[CD E1 KX pm]),(40,[.multi r.2.2]),(50,[CD AF KX (L0 (Li nb k bn) ((its.take (k+1)).map AU.id))]),(51,[.addr 50 0 (.map (some mv))])]⟩) (fun r=>r.1≤(dltS X).length∧Cm wb2 mv (Li nb k bn) pb2 r.2.1 r.2.2∧BI r.2.1=ED ros its k r.1) (fun r=>(dltS X).length - r.1) ((0,_,_)) (⟨Nat.zero_le _,hR2,hT0⟩) (BS hF [1,3,40,50,51] Z Z ⟨rfl,rfl,rfl,rfl,rfl,rfl,rfl,rfl,rfl,rfl,trivial⟩) ?_)));rintro ⟨t,N3,M3⟩ ⟨ht0,hR4,hT3⟩;dsimp only at ht0 hR4 hT3⊢;refine AG (AJ ?_)
   first | refine J (Cc Z Z Z) ?_ | refine J (Cb Z Z Z) ?_
   refine AI (AG ?_)
   first | refine BP rfl (fun h107=>?_) (fun h107=>?_) | refine BK rfl (fun h107=>?_) (fun h107=>?_)
   ·have ht1:t<(dltS X).length:=EF h107;refine An (AG (Aw (AG (AJ ?_))))
    first | refine J (Ch (t) Z Z (rfl) (A3 ht1) Tryz.underlying44 rfl I2 rfl) ?_ | refine J (Cj (t) Z Z (rfl) (A3 ht1) rfl Tryz.underlying44 I2 rfl) ?_
    first | refine J (At Z Z rw55 rfl) ?_ | refine J (Au Z Z rw55 Z Z Z) ?_ | refine J (Av Z Z (rfl) rfl rw55 rfl) ?_
    refine G (DT 10 zl55 Z Z Z Z) (G (CC Z Z Z Z Z Z Z I2) (AI (AG (AJ (AC Z Z ?_)))))
    first | refine J (AO rfl Og Z Z Z) ?_ | refine J (AQ rfl Og Z Z Z) ?_ | refine J (AR rfl Og Z Z Z) ?_ | refine J (AP rfl Og Z Z Z) ?_ | refine J (AN rfl Og Z Z Z) ?_
    first | refine J (At Z Z Ah rfl) ?_ | refine J (Au Z Z Ah Z Z Z) ?_ | refine J (Av Z Z (rfl) rfl Ah rfl) ?_
    by_cases hm:((dltS X)[t]).1∈ros.map Roo.r
    ·refine J (LT pm ((dltS X)[t]).1 (.pointer none) (pV (pb2 ((ros.map Roo.r).idxOf ((dltS X)[t]).1)) 0) Z Z Z Qh DQ Vv (hpin2 _ hm) rfl) (AD Z Z (AI (AG (AJ (AC Z Z (J (QJ Tryz.underlying109 Z Z) (AI (EL rfl (rfl) ?_))))))));have hnl3:N3.nd.length=k+1:=T_nd hT3;have hpl3:N3.po.length=ros.length:=T_po hT3
     obtain ⟨x,hx⟩:∃x,N3.nd[k]?=some x:=⟨_,List.getElem?_eq_getElem (by omega)⟩
     have hjl:(ros.map Roo.r).idxOf ((dltS X)[t]).1<N3.po.length:=by rw [hpl3];have h:=List.idxOf_lt_length_of_mem hm;rw [List.length_map] at h;exact h
     obtain ⟨y,hy⟩:∃y,N3.po[(ros.map Roo.r).idxOf ((dltS X)[t]).1]?=some y:=⟨_,List.getElem?_eq_getElem hjl⟩
     have hbd:=Y1 hitl hitx hk1 hT3 hx hy;have hda:=Jt X _ (List.getElem_mem ht1);have hj:=join_c hR4 hx hy ((dltS X)[t]).2 ⟨by omega,by omega⟩ hbd.1 hbd.2.1 hbd.2.2.1 hbd.2.2.2;rw [Fe] at hj;refine AJ (AC Z Z (AC Z Z ?_))
     first | refine J (AO rfl JF Z Z Z) ?_ | refine J (AQ rfl JF Z Z Z) ?_ | refine J (AR rfl JF Z Z Z) ?_ | refine J (AP rfl JF Z Z Z) ?_ | refine J (AN rfl JF Z Z Z) ?_
     first | refine J (A0 Z Z Be rfl) ?_ | refine J (AX Z Z Z Be rfl) ?_ | refine J (AZ Z Z (rfl) rfl Be rfl) ?_
     refine PP (Lt hj rfl [40] ⟨rfl,trivial⟩ Z Z Z Z (fun r H' ⟨e1,N',M',e2,_⟩=>by subst e1 e2;exact ⟨rfl,rfl,rfl⟩) rfl) rfl ?_;rintro _ ⟨r,H',⟨rfl,N4,M4,rfl,hR5,hnh4,hmh4,⟨x',hx4,ex4⟩,y',hy4,ey4⟩,rfl⟩;refine AI (AJ (J (By Z Z (IntWalk.i64_in _ (by omega)) rfl) (AC Z Z (AI ?_))));exact ⟨(t+1,N4,M4),⟨by show t+1≤_;omega,hR5,T_stepX hX hroN hk1 ht1 hT3 rfl hm hx hy hx4 ex4 hy4 ey4⟩,by show (dltS X).length - (t+1)<(dltS X).length - t;omega,BS hF [1,3,40,50,51] rfl (rfl) ⟨rfl,rfl,rfl,rfl,rfl,rfl,rfl,rfl,rfl,rfl,trivial⟩⟩
    ·refine J (LT pm ((dltS X)[t]).1 (.pointer none) (.pointer none) Z Z Z Qh DQ Vv (hpout _ hm) rfl) (AD Z Z (AI (AG (AJ ?_))));refine AC Z Z (J (QJ Tryz.underlying109 Z Z) (AI (F4 rfl (rfl) (An (AJ (J (By Z Z (IntWalk.i64_in _ (by omega)) rfl) (AC Z Z (AI ?_))))))));exact ⟨(t+1,N3,M3),⟨by show t+1≤_;omega,hR4,by show BI N3=ED ros its k (t+1);rw [T_skipX hX ht1 hm];exact hT3⟩,by show (dltS X).length - (t+1)<(dltS X).length - t;omega,BS hF [1,3,40,50,51] rfl (rfl) ⟨rfl,rfl,rfl,rfl,rfl,rfl,rfl,rfl,rfl,rfl,trivial⟩⟩
   ·refine Ct ?_;have hte:t=(dltS X).length:=by have h:=h107;omega
    have hT5:BI N3=FJ ros its (k+1):=by rw [←T_lastX hX hk1,←hte];exact hT3
    refine AJ (J (By Z Z (IntWalk.i64_in _ (by omega)) rfl) (AC Z Z (AI ?_)));exact ⟨(k+1,wb2,Li nb k bn,N3,M3),⟨by show k+1≤_;omega,hR4,hT5⟩,by show its.length - (k+1)<its.length - k;omega,BS hF [1,3,40,50,51] rfl (rfl) ⟨rfl,rfl,rfl,rfl,rfl,rfl,trivial⟩⟩
  ·refine Ct (AG (AG ?_));have hke:k=its.length:=by have h:=h69;rw [List.length_map] at h;omega
   subst hke;rw [List.take_length];have hwbf:=hR.w;have hpzf:N.mh=none ->N.po.length=0:=fun h=>by have h1:BW M N.mh Te 1 ((List.range N.po.length).map fun j=>BQ (pb2 j)):=hR.rs.1 .m;have h2:=Vq h1 h;rw [List.length_range] at h2;exact h2
   have hids:=ids_of hT;have hNl:N.po.length=ros.length:=po_len hT;refine AJ (AC Z Z ?_)
   first | refine J (B1 Z Z) ?_ | refine J (BY Z Z) ?_ | refine J (B2 Z Z) ?_ | refine J (BZ Z Z) ?_
   first | refine J (AO rfl JJ Z Z Z) ?_ | refine J (AQ rfl JJ Z Z Z) ?_ | refine J (AR rfl JJ Z Z Z) ?_ | refine J (AP rfl JJ Z Z Z) ?_ | refine J (AN rfl JJ Z Z Z) ?_
   refine J (He (f:=40) Z Z (hwbf) rfl Tm rfl) (J (DO hpzf rfl Tryz.underlying100 rfl) (AC Z Z (AI (Aw (EN (α:=Nat×Net×MF) (fun r=>⟨142,[(5,(.d (pD wb 0))),(126,(.d (hdr N.mh N.po.length))),(127,(.d (AF (N.po.length:Int)))),(128,(.d (AF (r.1:Int))))],[(40,[.multi r.2.2]),(50,[CD AF KX (L0 nb (its.map AU.id))]),(51,[.addr 50 0 (.map (some mv))])]⟩) (fun r=>r.1≤N.po.length∧Cm wb mv nb pb2 r.2.1 r.2.2∧r.2.1.nd=N.nd∧r.2.1.mh=N.mh∧r.2.1.po=(N.po.take r.1).map Kf++N.po.drop r.1) (fun r=>N.po.length - r.1) ((0,N,M)) (⟨Nat.zero_le _,hR,rfl,rfl,rfl⟩) (BS hF [40,50,51] Z Z ⟨rfl,rfl,rfl,rfl,trivial⟩) ?_)))));rintro ⟨j,N5,M5⟩ ⟨hj0,hR5,hnd5,hmh5,hpo5⟩;dsimp only at hj0 hR5 hnd5 hmh5 hpo5⊢;refine AG (AJ ?_)
   first | refine J (Cc Z Z Z) ?_ | refine J (Cb Z Z Z) ?_
   refine AI (AG ?_)
   first | refine BP rfl (fun h129=>?_) (fun h129=>?_) | refine BK rfl (fun h129=>?_) (fun h129=>?_)
   ·have hj1:j<N.po.length:=EF h129;refine An (AG (Aw (AG ?_)));have hl5:N5.po.length=N.po.length:=by rw [hpo5];simp;omega
    have hpr5:BW M5 N.mh Te 1 ((List.range N.po.length).map fun j=>BQ (pb2 j)):=by have h:BW M5 N5.mh Te 1 ((List.range N5.po.length).map fun j=>BQ (pb2 j)):=hR5.rs.1 .m;rw [hl5,hmh5] at h;exact h
    obtain ⟨rb,rc,hre⟩:=ZcX hpr5 (j:=j) (by rw [List.length_range];exact hj1);have hrow:=Vp hpr5 hre
    obtain ⟨y,hy⟩:∃y,N5.po[j]?=some y:=⟨_,List.getElem?_eq_getElem (by omega)⟩
    obtain ⟨hyb,hyq⟩:=hR5.pp j y hy;have hqz:=Vq hyq;refine AJ (J (Zc0 hre (j) Z Z Z hj1 Tryz.underlying100 WI rfl) (J (Eh (f:=40) (e:=j) (off:=0) rfl (by omega) rfl (hrow) ((by rw [List.getElem?_map,List.getElem?_range hj1];rfl)) rfl B3 rfl) ?_));refine AD Z Z (AI (AJ (AC Z Z (AC Z Z ?_))))
    first | refine J (B1 Z Z) ?_ | refine J (BY Z Z) ?_ | refine J (B2 Z Z) ?_ | refine J (BZ Z Z) ?_
    first | refine J (AO rfl GL Z Z Z) ?_ | refine J (AQ rfl GL Z Z Z) ?_ | refine J (AR rfl GL Z Z Z) ?_ | refine J (AP rfl GL Z Z Z) ?_ | refine J (AN rfl GL Z Z Z) ?_
    refine J (He (f:=40) Z Z (hyb) rfl IH rfl) (J (DO hqz rfl Tryz.underlying98 rfl) ?_)
    first | refine J (B1 Z Z) ?_ | refine J (BY Z Z) ?_ | refine J (B2 Z Z) ?_ | refine J (BZ Z Z) ?_
    first | refine J (AO rfl GM Z Z Z) ?_ | refine J (AQ rfl GM Z Z Z) ?_ | refine J (AR rfl GM Z Z Z) ?_ | refine J (AP rfl GM Z Z Z) ?_ | refine J (AN rfl GM Z Z Z) ?_
    refine G (Zda (f:=40) Z Z Z Z (hyb) ((by show _<10;omega)) rfl Et) (AI ?_);have hR6:=hR5.setPo (y':=Kf y) hy Z Z;refine AJ (J (By Z Z (IntWalk.i64_in _ (by omega)) rfl) (AC Z Z (AI ?_)));exact ⟨(j+1,{N5 with po:=N5.po.set j (Kf y)},_),⟨by show j+1≤_;omega,hR6,hnd5,hmh5,Xn hj1 hpo5 hy⟩,by show N.po.length - (j+1)<N.po.length - j;omega,BS hF [40,50,51] rfl (rfl) ⟨rfl,rfl,rfl,rfl,trivial⟩⟩
   ·refine Ct (AG ?_);have hje:j=N.po.length:=by have h:=h129;omega
    subst hje;rw [List.take_length,List.drop_length,List.append_nil] at hpo5;have hids5:DR N5=its.map AU.id:=by unfold DR at hids⊢;rw [hnd5];exact hids
    refine AJ (AC Z Z (AD Z Z (AD Z Z (AI (Af ?_)))));exact ⟨_,[40,50,51],_,Ae rfl,rfl,rfl,wb,mv,nb,pb2,N5,M5,some (List.range (L0 nb (its.map AU.id)).length,(L0 nb (its.map AU.id)).length),rfl,by rw [hids5];rfl,hR5,by rw [net_fin hits hros];exact XO hT hnd5 hpo5⟩
end Go.Proofs.YtnkkaeblokdifaaGreat
/- Layer 30: the network while items are removed, in closed form. Plain laws. -/
namespace Go.Proofs.YtnkkaeblokdifaaGreat
open Go.RowKit
def JS (ds:List (List (A5×Int))) (on:Nat ->Bool) (r:A5):Int:=((List.range ds.length).map fun i=>if on i=true then Cw (ds.getD i []) r else 0).sum
def XZ (on:Nat ->Bool) (q:List Nat):Nat:=q.findIdx fun i=>!on i
def poS (ds:List (List (A5×Int))) (on:Nat ->Bool) (x:Roo):Po:=⟨x.r,x.n,JS ds on x.r,none,negQ ds x.r,XZ on (negQ ds x.r)⟩
def Pr (rs:List A5) (its:List AU) (on:Nat ->Bool) (i:Nat):Nd:={XR rs ((its.map dltS).take i) (its.getD i itm0) (dltS (its.getD i itm0)) with on:=on i}
def netS (ros:List Roo) (its:List AU) (on:Nat ->Bool):Net:=⟨(List.range its.length).map (Pr (ros.map Roo.r) its on),ros.map (poS (its.map dltS) on),none,none⟩
def Ax (on:Nat ->Bool) (i:Nat):Nat ->Bool:=fun j=>if j=i then false else on j
theorem miS_all (q:List Nat):XZ (fun _=>true) q=q.length:=by
 unfold XZ;exact List.findIdx_eq_length.2 fun x _=>rfl
theorem WK (ds:List (List (A5×Int))) (r:A5):JS ds (fun _=>true) r=(ds.map fun D=>Cw D r).sum:=by
 unfold JS
 congr 1
 apply List.ext_getElem (by simp)
 intro i h1 h2;simp only [List.getElem_map,List.getElem_range,if_true];rw [Bh [] (by simpa using h2)]
theorem netP_S (p:Prb):XQ p=netS (rosS p) (ordP p) fun _=>true:=by
 unfold XQ netS FJ HO;dsimp only;rw [List.map_map]
 congr 1
 refine List.map_congr_left fun x _=>?_;have ht:((ordP p).map dltS).take (ordP p).length=(ordP p).map dltS:=List.take_of_length_le (by simp);show Kf (S2 _ x)=_;unfold Kf S2 poS;rw [ht,WK,miS_all]
theorem UH {ros:List Roo} {f g:Roo ->Po} {j:Nat} (hj:j<ros.length) {y:Po} (hn:(ros.map Roo.r).Nodup) (h1:y=g ros[j]) (h2:∀x∈ros,x.r≠ros[j].r ->f x=g x):(ros.map f).set j y=ros.map g:=by
 refine List.ext_getElem? fun i=>?_;rw [List.getElem?_set]
 by_cases e:j=i
 ·subst e;rw [if_pos rfl,if_pos (by simpa using hj),List.getElem?_map,List.getElem?_eq_getElem hj,h1];rfl
 ·rw [if_neg e,List.getElem?_map,List.getElem?_map]
  cases hi:ros[i]? with
  | none=>rfl
  | some z=>
   have hil:=List.getElem?_eq_some_iff.1 hi;show some _=some _
   rw [h2 z (List.mem_of_getElem? hi) fun e2=>e (by
    have h3:(ros.map Roo.r)[j]'(by simpa using hj)=(ros.map Roo.r)[i]'(by simpa using hil.1):=by
     rw [List.getElem_map,List.getElem_map,hil.2,e2]
    exact (List.getElem_inj hn).1 h3)]
theorem P2 {ros:List Roo} {r:A5} (hm:r∈ros.map Roo.r):∃hj:(ros.map Roo.r).idxOf r<ros.length,ros[(ros.map Roo.r).idxOf r].r=r:=by
 have h:=List.idxOf_lt_length_of_mem hm;have h1:=List.getElem_idxOf h;rw [List.getElem_map] at h1;exact ⟨by simpa using h,h1⟩
theorem WM {ros:List Roo} (hn:(ros.map Roo.r).Nodup) (f:Roo ->Po):∀(D:List (A5×Int)),(D.map Prod.fst).Nodup ->(V4 (ros.map Roo.r) D).foldl LU (ros.map f)=ros.map fun x=>{f x with sum:=(f x).sum - Cw D x.r}:=by
 intro D
 induction D using Y0 with
 | h0=>
  intro _;show ros.map f=_;refine List.map_congr_left fun x _=>?_;show f x={f x with sum:=(f x).sum - 0}
  rw [Int.sub_zero]
 | h1 D d ih=>
  intro hD;rw [List.map_append,List.nodup_append] at hD;have hdn:d.1∉D.map Prod.fst:=fun h=>hD.2.2 _ h _ (List.mem_singleton_self _) rfl;have ih:=ih hD.1
  by_cases hm:d.1∈ros.map Roo.r
  ·rw [Xw hm,List.foldl_append,ih];obtain ⟨hj,hr⟩:=P2 hm;show LU _ ((ros.map Roo.r).idxOf d.1,d.2)=_;rw [TW (y:=(fun x=>{f x with sum:=(f x).sum - Cw D x.r}) ros[(ros.map Roo.r).idxOf d.1]) (by rw [List.getElem?_map,List.getElem?_eq_getElem hj];rfl)];refine UH hj hn ?_ fun x hx hne=>?_
   ·dsimp only;have h1:Cw (D++ [d]) ros[(ros.map Roo.r).idxOf d.1].r=d.2:=by rw [hr];exact E4 hdn
    have h2:Cw D ros[(ros.map Roo.r).idxOf d.1].r=0:=by rw [hr];exact FC hdn
    rw [h1,h2,Int.sub_zero]
   ·rw [hr] at hne;have:Cw (D++ [d]) x.r=Cw D x.r:=Ek hne;rw [this]
  ·rw [UI hm,ih];refine List.map_congr_left fun x hx=>?_;have:Cw (D++ [d]) x.r=Cw D x.r:=Ek fun e=>hm (e▸List.mem_map.2 ⟨x,hx,rfl⟩);rw [this]
theorem XY {ros:List Roo} (hn:(ros.map Roo.r).Nodup) (f:Roo ->Po) (ds:List (List (A5×Int))):∀(D:List (A5×Int)),(D.map Prod.fst).Nodup ->(plK (ros.map Roo.r) ds D).foldl NV (ros.map f)=ros.map fun x=>{f x with mi:=if Cw D x.r<0 then min (f x).mi (negQ ds x.r).length else (f x).mi}:=by
 intro D
 induction D using Y0 with
 | h0=>
  intro _;show ros.map f=_;refine List.map_congr_left fun x _=>?_;have h0:Cw [] x.r=0:=rfl;rw [h0,if_neg (by omega)]
 | h1 D d ih=>
  intro hD;rw [List.map_append,List.nodup_append] at hD;have hdn:d.1∉D.map Prod.fst:=fun h=>hD.2.2 _ h _ (List.mem_singleton_self _) rfl;have ih:=ih hD.1
  by_cases hm:d.1∈ros.map Roo.r∧d.2<0
  ·rw [Wn hm.1 hm.2,List.foldl_append,ih];obtain ⟨hj,hr⟩:=P2 hm.1;show NV _ ((ros.map Roo.r).idxOf d.1,(negQ ds d.1).length)=_;rw [Tv (y:=(fun x=>{f x with mi:=if Cw D x.r<0 then min (f x).mi (negQ ds x.r).length else (f x).mi}) ros[(ros.map Roo.r).idxOf d.1]) (by rw [List.getElem?_map,List.getElem?_eq_getElem hj];rfl)];refine UH hj hn ?_ fun x hx hne=>?_
   ·dsimp only;have h1:Cw (D++ [d]) ros[(ros.map Roo.r).idxOf d.1].r=d.2:=by rw [hr];exact E4 hdn
    have h2:Cw D ros[(ros.map Roo.r).idxOf d.1].r=0:=by rw [hr];exact FC hdn
    rw [h1,h2,if_neg (by omega),if_pos hm.2,hr]
   ·rw [hr] at hne;have:Cw (D++ [d]) x.r=Cw D x.r:=Ek hne;rw [this]
  ·rw [PJ hm,ih];refine List.map_congr_left fun x hx=>?_
   by_cases e:x.r=d.1
   ·have hin:d.1∈ros.map Roo.r:=e▸List.mem_map.2 ⟨x,hx,rfl⟩;have h1:Cw (D++ [d]) x.r=d.2:=by rw [e];exact E4 hdn
    have h2:Cw D x.r=0:=by rw [e];exact FC hdn
    rw [h1,h2,if_neg (by omega),if_neg (fun h=>hm ⟨hin,h⟩)]
   ·have:Cw (D++ [d]) x.r=Cw D x.r:=Ek e;rw [this]
theorem D0 {on:Nat ->Bool} {i j:Nat} (h:j≠i):Ax on i j=on j:=if_neg h
theorem Hn {on:Nat ->Bool} {i:Nat}:Ax on i i=false:=if_pos rfl
theorem HZ {α:Type} (p:α ->Bool) (l m:List α):(l++m).findIdx p=if l.findIdx p<l.length then l.findIdx p else m.findIdx p+l.length:=List.findIdx_append
theorem Ir {α:Type} {p q:α ->Bool}:∀{l:List α},(∀x∈l,p x=q x) ->l.findIdx p=l.findIdx q
 | [],_=>rfl
 | a::l,h=>by
  rw [List.findIdx_cons,List.findIdx_cons,h a (List.mem_cons_self ..),Ir fun x hx=>h x (List.mem_cons_of_mem _ hx)]
theorem KY {n i:Nat} (h:i<n):∃B:List Nat,List.range n=List.range i++i::B∧∀j∈B,i<j:=by
 refine ⟨List.range' (i+1) (n - i - 1),?_,fun j hj=>?_⟩
 ·rw [List.range_eq_range',List.range_eq_range'];have h1:n=i+(1+(n - i - 1)):=by omega
  conv=>lhs;rw [h1]
  rw [←List.range'_append_1,Nat.zero_add,Nat.add_comm 1 (n - i - 1),List.range'_succ]
 ·rw [List.mem_range'_1] at hj;omega
theorem MT {ds:List (List (A5×Int))} {i:Nat} (h:i<ds.length) (r:A5):∃B:List Nat,negQ ds r=negQ (ds.take i) r++((if Cw (ds.getD i []) r<0 then [i] else [])++B)∧(∀j∈negQ (ds.take i) r,j<i)∧∀j∈B,i<j:=by
 obtain ⟨B,h1,h2⟩:=KY h;refine ⟨B.filter fun i=>decide (Cw (ds.getD i []) r<0),?_,fun j hj=>?_,fun j hj=>h2 j (List.mem_filter.1 hj).1⟩
 ·unfold negQ;rw [h1,List.filter_append,List.filter_cons,show (ds.take i).length=i by rw [List.length_take];omega]
  congr 1
  ·refine List.filter_congr fun j hj=>?_;have hj':=List.mem_range.1 hj;rw [List.getD_eq_getElem?_getD,List.getD_eq_getElem?_getD,List.getElem?_take_of_lt hj']
  ·by_cases h0:Cw (ds.getD i []) r<0
   ·rw [if_pos (decide_eq_true h0),if_pos h0];rfl
   ·rw [if_neg (by simpa using h0),if_neg h0];rfl
 ·unfold negQ at hj;have:=List.mem_range.1 (List.mem_filter.1 hj).1;rw [List.length_take] at this;omega
theorem miS_off {ds:List (List (A5×Int))} {i:Nat} (h:i<ds.length) (on:Nat ->Bool) (r:A5):XZ (Ax on i) (negQ ds r)=if Cw (ds.getD i []) r<0 then min (XZ on (negQ ds r)) (negQ (ds.take i) r).length else XZ on (negQ ds r):=by
 obtain ⟨B,h1,h2,h3⟩:=MT h r;rw [h1]
 generalize negQ (ds.take i) r=A at h2⊢
 have hA:A.findIdx (fun j=>!Ax on i j)=A.findIdx fun j=>!on j:=Ir fun j hj=>by
  rw [D0 (by have:=h2 j hj;omega)]
 have hB:B.findIdx (fun j=>!Ax on i j)=B.findIdx fun j=>!on j:=Ir fun j hj=>by
  rw [D0 (by have:=h3 j hj;omega)]
 unfold XZ
 by_cases h0:Cw (ds.getD i []) r<0
 ·rw [if_pos h0,if_pos h0,HZ (fun j=>!Ax on i j) A,HZ (fun j=>!on j) A,hA]
  split
  ·omega
  ·have:(([i]:List Nat)++B).findIdx (fun j=>!Ax on i j)=0:=by
    rw [List.singleton_append,List.findIdx_cons];rw [Hn];rfl
   rw [this];omega
 ·rw [if_neg h0,if_neg h0,List.nil_append,HZ (fun j=>!Ax on i j) A,HZ (fun j=>!on j) A,hA,hB]
theorem WJ {ds:List (List (A5×Int))} {i:Nat} (h:i<ds.length) {on:Nat ->Bool} (ho:on i=true) (r:A5):JS ds (Ax on i) r=JS ds on r - Cw (ds.getD i []) r:=by
 obtain ⟨B,h1,h3⟩:=KY h;unfold JS;rw [h1,List.map_append,List.map_append,List.map_cons,List.map_cons,List.sum_append,List.sum_append,List.sum_cons,List.sum_cons]
 have e1:(List.range i).map (fun j=>if Ax on i j=true then Cw (ds.getD j []) r else 0)=(List.range i).map fun j=>if on j=true then Cw (ds.getD j []) r else 0:=List.map_congr_left fun j hj=>by
  rw [D0 (by have:=List.mem_range.1 hj;omega)]
 have e2:B.map (fun j=>if Ax on i j=true then Cw (ds.getD j []) r else 0)=B.map fun j=>if on j=true then Cw (ds.getD j []) r else 0:=List.map_congr_left fun j hj=>by
  rw [D0 (by have:=h3 j hj;omega)]
 have e3:(if Ax on i i=true then Cw (ds.getD i []) r else 0)=0:=by rw [Hn];rfl
 rw [e1,e2,e3,if_pos ho];omega
theorem TV:∀(l:List (Nat×Int)) (po:List Po),(l.foldl LU po).map Cf=l.foldl LU (po.map Cf)
 | [],_=>rfl
 | e::l,po=>by
  rw [List.foldl_cons,List.foldl_cons,TV l]
  congr 1
  unfold LU;rw [List.getElem?_map]
  cases po[e.1]? with
  | none=>rfl
  | some y=>show (po.set e.1 _).map Cf=_;rw [List.map_set];rfl
theorem Tu:∀(l:List (Nat×Nat)) (po:List Po),(l.foldl NV po).map Cf=l.foldl NV (po.map Cf)
 | [],_=>rfl
 | e::l,po=>by
  rw [List.foldl_cons,List.foldl_cons,Tu l]
  congr 1
  unfold NV;rw [List.getElem?_map]
  cases po[e.1]? with
  | none=>rfl
  | some y=>show (po.set e.1 _).map Cf=_;rw [List.map_set];rfl
theorem rm_S {ros:List Roo} {its:List AU} (hn:(ros.map Roo.r).Nodup) {on:Nat ->Bool} {N:Net} (h:BI N=netS ros its on) {i:Nat} (hi:i<its.length) (ho:on i=true) {x:Nd} (hx:N.nd[i]?=some x):BI (rmN N i x)=netS ros its (Ax on i):=by
 have hnd:N.nd.map GB=(List.range its.length).map (Pr (ros.map Roo.r) its on):=congrArg Net.nd h;have hpo:N.po.map Cf=ros.map (poS (its.map dltS) on):=congrArg Net.po h
 have hxe:GB x=Pr (ros.map Roo.r) its on i:=by
  have h1:(N.nd.map GB)[i]?=some (GB x):=by rw [List.getElem?_map,hx];rfl
  rw [hnd,List.getElem?_map,List.getElem?_range hi] at h1;exact (Option.some.inj h1).symm
 have hef:x.ef=V4 (ros.map Roo.r) (dltS (its.getD i itm0)):=congrArg Nd.ef hxe;have hpl:x.pl=plK (ros.map Roo.r) ((its.map dltS).take i) (dltS (its.getD i itm0)):=congrArg Nd.pl hxe;have hdi:i<(its.map dltS).length:=by simpa using hi
 have hgi:(its.map dltS).getD i []=dltS (its.getD i itm0):=by rw [Bh [] hdi,Bh itm0 hi,List.getElem_map]
 unfold BI rmN netS;dsimp only
 congr 1
 ·rw [List.map_set,hnd]
  have:GB (Jb x)=Pr (ros.map Roo.r) its (Ax on i) i:=by
   have h1:GB (Jb x)=Jb (GB x):=rfl;rw [h1,hxe];unfold Pr Jb Ax;rw [if_pos rfl]
  rw [this];refine List.ext_getElem? fun j=>?_;rw [List.getElem?_set]
  by_cases e:i=j
  ·subst e;rw [if_pos rfl,if_pos (by simpa using hi),List.getElem?_map,List.getElem?_range hi];rfl
  ·rw [if_neg e,List.getElem?_map,List.getElem?_map]
   cases hj:(List.range its.length)[j]? with
   | none=>rfl
   | some z=>
    have hz:=List.getElem?_eq_some_iff.1 hj;have:z=j:=by have:=hz.2;simp at this;exact this.symm
    subst this;show some _=some _;unfold Pr Ax;rw [if_neg (fun h=>e h.symm)]
 ·rw [Tu,TV,hpo,hef,hpl,WM hn _ _ (DB _),XY hn _ _ _ (DB _)];refine List.map_congr_left fun z _=>?_;unfold poS;dsimp only;rw [WJ hdi ho,miS_off hdi,hgi]
end Go.Proofs.YtnkkaeblokdifaaGreat
