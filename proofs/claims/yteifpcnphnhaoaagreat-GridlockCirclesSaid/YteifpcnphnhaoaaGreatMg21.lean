import Derived.Test.YteifpcnphnhaoaaGreatMg20
import Derived.Shelf.SlSortCmp.Whole1
namespace Go.Proofs.YteifpcnphnhaoaaGreat
open Go.RowKit Go.Shelf
open Go.Sort (putRow Holds PermIn SortedIn SWO mapBlock onCells putCells)
variable {P:Program}
section
variable {ρr:Ren} {τ:Type}
theorem Zb3 {α:Type} [Inhabited α] {enc:α ->Value} {w:World} {b off m:Nat} {dk:Array α} {os:Array Obj} {b':Nat} (hne:b'≠b) (hlt:b'<w.heap.size):(sortWorld enc w b off m dk os).heap[b']? =w.heap[b']?:=by
 unfold sortWorld;rw [Go.Sort.heap_grow_old _ _ (by rw [Go.Sort.size_putRow];exact hlt)];show (w.heap.modify b _)[b']? =_;rw [ψv,ϑ (Ne.symm hne)]
theorem G1 {α:Type} [Inhabited α] {enc:α ->Value} {w:World} {b off m:Nat} {dk:Array α} {os:Array Obj}:w.heap.size≤(sortWorld enc w b off m dk os).heap.size:=by
 unfold sortWorld Go.Sort.grow;rw [Array.size_append,Go.Sort.size_putRow];exact Nat.le_add_right _ _
theorem ZA (L:SlLaysF.n6 P ρr) {E:TypeId} {g g6:FuncId} {fn:Func} (hfn:P.funcs[g]? =some fn) (hnm:(fn.name== "runtime.NumGoroutine")=false) {c:Code} (hbody:fn.body=some c)
  {bl:τ ->Nat} {px:τ ->List D} {tx:τ ->TypeId} (cf:τ ->τ ->Int) (hO:SWO (ltOf cf)) (xs ys0:List τ) (hsz:xs.length<4611686018427387904) (hc:∀x∈xs,∀y∈xs,AO P g [.d (.ptr (.agg (px x))),.d (.ptr (.agg (px y)))] (.raw (.int .i64 (cf x y))))
  (hu:∀ys:List τ,ys.Perm xs ->ys.Pairwise (fun a b=>¬cf b a<0) ->ys=ys0)
  {F:Fr} {s:AS} {d:Nat} {x y:Operand} {ty:TypeId} {pos:String} {aft:Array Edge} {gd:Option (Nat×Bool)} {at_:Array TypeId} {f b cap n:Nat} {M:MF} {fa:AV} {row:List D} {hp':Hp}
  (hg:ρr.f 6=g6) (hM:hfam s.hp f=some [.multi M]) (hpx:∀x∈xs,M (bl x)=some (.cells (tx x) (px x))) (h1x:∀x∈xs,∀c∈px x,c.one=true) (hx:s.ev x=some (.d (.raw (sV b n cap)))) (hy:s.ev y=some fa) (hfa:∀w O ρ v,AW w O ρ fa v ->v= .func (.func g) #[] #[]) (hb:M b=some (.row E 1 cap row)) (hrow:row=xs.map fun x=>pD (bl x) 0) (hn:n=xs.length) (hxs:xs≠ []) (hh:B1 s.hp f (BQ M b (.row E 1 cap (ys0.map fun x=>pD (bl x) 0)))=some hp') (hd:Nat.blt d s.n=true):
  AI P F ⟨some d,.call {callee:= .value (.func g6),args:= #[x,y],argTypes:=at_},ty,pos,aft,gd⟩ s ⟨s.n,(d,.d (.tup []))::s.env,hp'⟩ (fun _ _=>true):=by
 subst hg hrow hn;intro ρ act w hs
 obtain ⟨fn6,hf1,hf2,hf3⟩:∃fn,P.funcs[ρr.f 6]? =some fn∧(fn.name== "runtime.NumGoroutine")=false∧fn.body.isSome=true:=by
  obtain ⟨nm,hn,hf⟩:=L.f6;exact ⟨_,hf,hn,Z⟩
 unfold Oper.wp;rw [show (#[x,y]:Array Operand)=[x,y].toArray from rfl,DV hf1 hf2 hf3,Oper.upon_enter]
 suffices key:Calls P (ρr.f 6) ([x,y].map act.eval).toArray w fun e w'=>e= .returned (.tuple #[])∧SR F ⟨s.n,s.env,hp'⟩ ρ act w' by
  refine key.mono fun e w' ⟨e1,hsr⟩=>?_;subst e1;exact ⟨ρ,hsr.put (IB hd) (.d (.tup Z fun i c v hc=>by cases hc)),fun _ _ _=>rfl⟩
 have r0:=hs.raw hx;have r1:=hfa _ _ _ _ (hs.ev hy);have h3:=hs.heap
 have hO0:Az ρ s.hp b:=⟨f,b,_,by rw [Ft hM,hb];rfl,by rw [(hs.rowN hM hb).1];rfl⟩
 obtain ⟨hρ,us,q1,q2,q3⟩:=hs.rowN hM hb;show Calls P (ρr.f 6) #[act.eval x,act.eval y] w _;rw [r1,r0];have hn:0<xs.length:=χg.2 hxs
 have hus:us=xs.map fun x=>pV (bl x) 0:=by
  apply χq
  intro i;rw [η]
  by_cases hi:i<xs.length
  ·rw [ω hi];obtain ⟨u,h1,h2,h4⟩:=q2.2.2 i (pD (bl xs[i]) 0) (by rw [η,ω hi];rfl) 0 (pD (bl xs[i]) 0) rfl;rw [χu,χm] at h1;rw [h1]
   cases h4 with
   | raw _=>rfl
  ·have:us.length=xs.length:=by have:=q2.1;rwa [ψ,χu] at this
   rw [ωw (by omega),ωw (by omega)];rfl
 obtain ⟨cur,p1,p2,p3,p3',p4⟩:∃cur,w.heap[b]? =some (.cells cur E (0,0))∧cur.size=cap∧xs.length≤cap∧cap≤maxLen∧cur.toList.take xs.length=us:=by
  rcases q1.2 with ⟨_,h⟩ | ⟨b',cap',cur,e1,_,e2,e3,e4,e5,e6⟩
  ·rw [ψ] at h;omega
  ·rw [ψ] at e1;injection e1 with e1 e7 e8
   injection e1 with e1
   injection e1 with e1
   subst e1 e8;rw [ψ] at e3 e6;exact ⟨cur,e2,by omega,e3,e4,by rwa [χu] at e6⟩
 rw [ψ] at*;have hlt:b<w.heap.size:=(ωr.1 p1).1;have hOb:F.O ρ s.hp b:= .inr hO0;have hOl:∀b',F.O ρ s.hp b' ->b'<w.heap.size:=fun b' h=>h3.ltO h
 let x0:τ:=xs[0]
 let ix:Nat ->Nat:=fun i=>if i<xs.length then i else 0
 let el:Nat ->τ:=fun i=>(xs[ix i]?).getD x0
 have hel:∀i,el i∈xs:=fun i=>by
  have hix:ix i<xs.length:=by show (if _ then _ else _)<_;split<;>omega
  show (xs[ix i]?).getD x0∈xs;rw [ω hix];exact κ hix
 have heli:∀i (hi:i<xs.length),el i=xs[i]:=fun i hi=>by
  show (xs[ix i]?).getD x0=_;rw [show ix i=i from θ hi,ω hi];rfl
 let enc:Nat ->Value:=fun i=>pV (bl (el i)) 0
 let cf':Nat ->Nat ->Int:=fun i j=>cf (el i) (el j)
 have hO':SWO (ltOf cf'):=⟨fun x=>hO.irrefl (el x),fun x y z=>hO.trans (el x) (el y) (el z),fun x y z=>hO.ntrans (el x) (el y) (el z)⟩
 have henc1:OneCell enc:=fun _=>rfl;have hd0:∀i,i<xs.length ->(Array.range xs.length)[i]! =i:=fun i hi=>by rw [getElem!_pos _ i (by simpa using hi)];simp
 have hcu:∀i (hi:i<xs.length),cur[i]? =some (pV (bl xs[i]) 0):=fun i hi=>by
  have:us[i]? =cur.toList[i]?:=by rw [←p4,ψf hi]
  rw [hus,η,ω hi] at this;rw [←ψm];exact this.symm
 have hH:Holds enc w b 0 (Array.range xs.length):=by
  intro j hj;simp only [χz] at hj;rw [hd0 _ hj];refine ⟨?_,?_⟩
  ·simp only [World.cell?,p1,ψq];rw [hcu j hj];show _=some (pV (bl (el j)) 0);rw [heli j hj];rfl
  ·simp only [World.frozen?,p1]
   simp
 have hcmp:CmpLays1 P g #[] enc cf' b 0 (Array.range xs.length).size w:=by
  intro m os dk _ x y;have hWs:w.heap.size≤(sortWorld enc w b 0 m dk os).heap.size:=G1
  let O':Nat ->Prop:=fun b'=>F.O ρ s.hp b'∧b'≠bl (el x)∧b'≠bl (el y)
  have hne:∀i,bl (el i)≠b:=fun i e=>by
   have:=hpx _ (hel i);rw [e,hb] at this;cases this
  have hptr:∀i,i=x∨i=y ->AQ (sortWorld enc w b 0 m dk os) O' (.ptr (.agg (px (el i)))) (pV (bl (el i)) 0):=fun i hi=>by
   obtain ⟨_,vs,c1,c2,c3,c4⟩:=hs.cellsN hM (hpx _ (hel i));have hl:bl (el i)<w.heap.size:=(ωr.1 c1).1
   have hOn:¬O' (bl (el i)):=fun h=>by
    rcases hi with e | e
    ·exact h.2.1 (by rw [e])
    ·exact h.2.2 (by rw [e])
   show AQ _ _ (.ptr (.agg (px (el i)))) (.pointer (some ⟨bl (el i),0,none⟩));refine AQ.ptr (x:= .agg (px (el i))) (fun j=>vs.getD j undef) (ψr hl hWs) hOn (h1x _ (hel i)) (fun j c hj=>?_) fun j c hj=>?_
   ·have hj':j<vs.length:=by rw [c2];exact (χ.1 hj).1
    simp only [World.cell?,Zb3 (hne i) hl,c1,ψq]
    simp [hj']
   ·have hj':j<vs.length:=by rw [c2];exact (χ.1 hj).1
    have hv:vs[j]? =some vs[j]:=ω hj';have:vs.getD j undef=vs[j]:=by rw [ϖ,hv];rfl
    rw [this];exact (c3 j c _ hj hv).mono hWs (fun b' hl hno=>Zb3 (fun e=>hno (e▸hOb)) hl) (fun _ _ h=>h.1)
  refine (Pv (hc (el x) (hel x) (el y) (hel y)) (w:=sortWorld enc w b 0 m dk os) (O:=O') (fun b' h=>ψr (hOl b' h.1) hWs) (vs:=[pV (bl (el x)) 0,pV (bl (el y)) 0]) Z (fun i a v ha hv=>?_)).mono fun e w' ⟨v,e1,e2,e3,e4,e5⟩=>⟨?_,NN e3 e4 e5⟩
  ·match i,ha,hv with
   | 0,ha,hv=>injection ha with ha;injection hv with hv;subst ha hv;exact .d (hptr x (.inl Z))
   | 1,ha,hv=>injection ha with ha;injection hv with hv;subst ha hv;exact .d (hptr y (.inr Z))
  ·cases e2 with
   | raw _=>exact e1
 have eg:∀args w,(callFunc g args).run P w= .ok (.enter g args) w:=enters_of hfn hnm hbody;have key:=Any.slices_SortFunc L enc henc1 cf' hO' g #[] b 0 cap (Array.range xs.length) w eg hcmp hH hlt (by simpa using hsz);rw [χz] at key;refine key.mono fun e w' ⟨e1,d',n,os,hp,hsort,hw⟩=>?_;subst e1 hw;obtain ⟨s1,_,s3⟩:=hp;rw [χz] at s1
 have hperm:d'.toList.Perm (List.range xs.length):=by
  have e1:d'.extract 0 xs.length=d':=by rw [←s1];exact Array.extract_size
  have e2:(Array.range xs.length).extract 0 xs.length=Array.range xs.length:=by
   conv=>lhs;arg 3;rw [←χz (n:=xs.length)]
   exact Array.extract_size
  rw [e1,e2] at s3
  simpa using s3
 refine ⟨Z,?_⟩
 have hys:d'.toList.map el=ys0:=by
  apply hu
  ·refine (hperm.map el).trans (List.Perm.of_eq ?_)
   apply χc (by simp)
   intro i h5 h6;simp only [ωd,ψs];exact heli i h6
  ·rw [ωv];intro i j hi hj hij;simp only [ψ,χh] at hi hj;have:=hsort i j (ς _) hij (by omega);rw [getElem!_pos _ j hj,getElem!_pos _ i hi] at this;simp only [ltOf,decide_eq_false_iff_not] at this
   simpa using this
 have hlen':ys0.length=xs.length:=by rw [←hys];simp [s1]
 -- the world: first what lies in the row, then the new blocks
 have hheap:(sortWorld enc w b 0 n d' os).heap[b]? =some (.cells (putCells enc 0 d' cur) E (0,0)):=by
  unfold sortWorld;rw [Go.Sort.heap_grow_old _ _ (by rw [Go.Sort.size_putRow];exact hlt)];show (w.heap.modify b _)[b]? =_;rw [ψv,θ Z,p1];rfl
 refine hs.writeG f b (.nr b E 1 cap (xs.map fun x=>pD (bl x) 0)) (.nr b E 1 cap (ys0.map fun x=>pD (bl x) 0)) (by rw [Ft hM,hb];rfl) (fun g i=>?_) Z Z Z G1 (Nat.le_add_right _ _) (fun b' hl hno=>Zb3 (fun e=>hno (by rw [e,hρ];rfl)) hl) (fun _ _ e=>by cases e) fun hrep=>?_
 ·rw [DA hh]
  by_cases e:g=f
  ·subst e;rw [θ Z,Ft hM]
   by_cases e2:i=b
   ·subst e2;rw [θ ⟨Z,Z⟩,E2];rfl
   ·rw [ϑ (fun h=>e2 h.2),FR e2]
  ·rw [ϑ e,ϑ (fun h=>e h.1)]
 have hcs:(putCells enc 0 d' cur).size=cap:=by simp only [putCells,Array.size_mapIdx];omega
 have hrow:(putCells enc 0 d' cur).toList.take ys0.length=ys0.map fun x=>pV (bl x) 0:=by
  apply χq
  intro i
  by_cases hi:i<xs.length
  ·rw [ψf (by omega),η,←hys,η,ψm,ψm,ωl (by omega),ωl (by omega)];simp only [putCells,Array.getElem_mapIdx,ψz];rw [θ ⟨ς _,by omega⟩];simp only [Nat.sub_zero];rw [getElem!_pos _ i (by omega)]
  ·rw [ωw (by rw [Υ];omega),ωw (by rw [ψ];omega)]
 refine ⟨hρ,ys0.map fun x=>pV (bl x) 0,⟨by simp,.inr ⟨b,cap,_,by simp only [ψ],ς _,hheap,by rw [ψ,hlen'];exact p3,p3',by rw [hcs];omega,by rw [ψ,χu,hrow]⟩⟩,⟨by simp,fun x hx2=>?_,fun i x hx2 j c hc2=>?_⟩,fun x hx2 c hc2=>?_⟩
 ·obtain ⟨y,_,rfl⟩:=ϱ.1 hx2;rfl
 ·rw [η] at hx2
  cases hdi:ys0[i]? with
  | none=>rw [hdi] at hx2;cases hx2
  | some q=>
   rw [hdi] at hx2;injection hx2 with hx2;subst hx2
   match j,hc2 with
   | 0,hc2=>
    injection hc2 with hc2;subst hc2
    exact ⟨pV (bl q) 0,by rw [χu,χm,η,hdi];rfl,Z,.raw Z⟩
 ·obtain ⟨y,_,rfl⟩:=ϱ.1 hx2
  cases hc2 with
  | head=>rfl
  | tail _ h=>cases h
theorem Wu (L:SlLaysF.n6 P ρr) {g6:FuncId} {F:Fr} {s:AS} {d:Nat} {x y:Operand} {ty:TypeId} {pos:String} {aft:Array Edge} {gd:Option (Nat×Bool)} {at_:Array TypeId} {fa:AV} 
  (hg:ρr.f 6=g6) (hx:s.ev x=some (.d (.raw (.slice none 0 0)))) (hy:s.ev y=some fa) (hd:Nat.blt d s.n=true):
  AI P F ⟨some d,.call {callee:= .value (.func g6),args:= #[x,y],argTypes:=at_},ty,pos,aft,gd⟩ s ⟨s.n,(d,.d (.tup []))::s.env,s.hp⟩ (fun _ _=>true):=by
 subst hg;intro ρ act w hs
 obtain ⟨fn6,hf1,hf2,hf3⟩:∃fn,P.funcs[ρr.f 6]? =some fn∧(fn.name== "runtime.NumGoroutine")=false∧fn.body.isSome=true:=by
  obtain ⟨nm,hn,hf⟩:=L.f6;exact ⟨_,hf,hn,Z⟩
 unfold Oper.wp;rw [show (#[x,y]:Array Operand)=[x,y].toArray from rfl,DV hf1 hf2 hf3,Oper.upon_enter];have r0:=hs.raw hx;show Calls P (ρr.f 6) #[act.eval x,act.eval y] w _;rw [r0];refine (AnyF.slices_SortFunc_none {L with} none 0 _ w).mono fun e w' ⟨e1,e2⟩=>?_;subst e1 e2;exact ⟨ρ,hs.put (IB hd) (.d (.tup Z fun i c v hc=>by cases hc)),fun _ _ _=>rfl⟩
end
end Go.Proofs.YteifpcnphnhaoaaGreat
namespace Go.Proofs.YteifpcnphnhaoaaGreat
open Go.RowKit Go.Shelf
set_option maxRecDepth 100000 in
theorem cmpPo_p (x y:Po):AO Tryz.prog 142 [.d (.ptr (.agg (poC x))),.d (.ptr (.agg (poC y)))] (AF (Bh x.r y.r)):=by
 refine BB Tryz.func142 Z Z Tryz.ntmps142 Z Z Z fun F hF=>(AC ?_);refine AE (AB Z Z (AD (AC (Ch [[],[0],[0,1],[0,1,2],[],[4],[4,5],[4,5,6],[0,1,2,3,4,5,6,7],[0,1,2,3,4,5,6,7,8]] mixed Z (Cq (AJ [0] [] Z Z (fun _=>AG (Ak Z Z)) (AJ [5] [] Z Z (fun _=>AG (JS Z Z)) (AJ [6] [] Z Z (fun _=>AG (Dc Z MD Z Z Z)) ?_))))))));refine AJ [7] [] Z Z (fun _=>AG (HE Z Z C7 Z)) (AJ [1] [] Z Z (fun _=>AG (Ak Z Z)) (AJ [9] [] Z Z (fun _=>AG (JS Z Z)) (AJ [10] [] Z Z (fun _=>AG (Dc Z MD Z Z Z)) (AJ [11] [] Z Z (fun _=>AG (HE Z Z C7 Z)) (C5 8 Z Z Z (Af 9 Z Z (J (B2 (LC x.r y.r) Z Z) (AD ⟨Z,?_⟩))))))));refine Af 10 Z Z (AB Z Z (AD ⟨Z,?_⟩));refine C9 (A8 ?_);exact ⟨_,[],[],A6 Z,Z,Z,Z,Z⟩
theorem GH {M:MF} {bn b':Nat} {m m':Ad} (hb:M bn=none) (h:M b'=some m):BQ M bn m' b'=some m:=by
 rw [FR]
 ·exact h
 ·rintro rfl;rw [hb] at h;cases h
theorem LN {M:MF} {bn:Nat} {m':Ad} (hb:M bn=none) {h:Hd} {t:TypeId} {k:Nat} {xs:List D} (hr:BJ M h t k xs):BJ (BQ M bn m') h t k xs:=by
 match h,hr with
 | none,hr=>exact hr
 | some (b',c),hr=>exact ⟨hr.1,GH hb hr.2⟩
theorem CB.fresh {wb mv:Nat} {nb pb:Nat ->Nat} {N:Net} {M:MF} (h:CB wb mv nb pb N M) {bn:Nat} {m:Ad} (hb:M bn=none):CB wb mv nb pb N (BQ M bn m):=
 ⟨fun i x hx=>GH hb (h.n i x hx),fun j y hy=>GH hb (h.p j y hy),⟨fun r=>LN hb (h.rs.1 r),h.rs.2⟩,GH hb h.w,h.ni,h.pi,h.e,h.q⟩
def MH (f:Nat ->Nat) (k b:Nat):Nat ->Nat:=fun j=>if j=k then b else f j
theorem DB {f:Nat ->Nat} {k b j:Nat} (h:j<k):MH f k b j=f j:=ϑ (by omega)
theorem Fq {f:Nat ->Nat} {k b:Nat}:MH f k b k=b:=θ rfl
theorem Oo {f:Nat ->Nat} {k b:Nat}:(List.range (k+1)).map (fun j=>BK (MH f k b j))=(List.range k).map (fun j=>BK (f j))++ [BK b]:=by
 rw [ψj,ωc,φd,Fq]
 congr 1
 exact ωj fun j hj=>by rw [DB (Ξ.1 hj)]
abbrev X1 (nh:Hd) (a:Nat) (mh:Hd) (c mv:Nat):Ad:= .cells 180 [hdr nh a,hdr mh c,K8 (.map (some mv))]
theorem CB.keepM {wb mv:Nat} {nb pb:Nat ->Nat} {N:Net} {M:MF} (h:CB wb mv nb pb N M) {b:Nat} (hb:B6 M N.mh b=none) {v:Ad} {b':Nat} {t:TypeId} {cs:List D} (hm:M b'=some (.cells t cs)):BQ (B6 M N.mh) b v b'=some (.cells t cs):=
 Go.Proofs.YteifpcnphnhaoaaGreat.keepM hb hm fun c hc=>by have:=h.rs.blk (r:= .m) hc;rw [hm] at this;cases this
theorem Kq {α:Type} (l:List α) (y d:α) (j:Nat):(l++ [y]).getD j d=if j=l.length then y else l.getD j d:=by
 rw [ϖ,ϖ,List.getElem?_append]
 split
 ·rw [ϑ (by omega)]
 ·split
  ·rename_i e;subst e;simp
  ·rw [ωw (by simp;omega),ωw (by omega)]
theorem getD_mem {α:Type} {l:List α} {d:α} (i:Nat):l.getD i d∈l∨l.getD i d=d:=by
 by_cases h:i<l.length
 ·left;rw [CY d h];exact κ h
 ·right;rw [ϖ,ωw (by omega)];rfl
theorem snoc_get {α:Type} {l:List α} {y z:α} {i:Nat} (h:(l++ [y])[i]? =some z):(i<l.length∧l[i]? =some z)∨(i=l.length∧z=y):=by
 rw [List.getElem?_append] at h
 split at h
 ·rename_i hi;exact .inl ⟨hi,h⟩
 ·rename_i hi
  right
  have:i - l.length=0:=by
   have:=(χ.1 h).1
   simp at this;omega
  rw [this] at h;exact ⟨by omega,(Option.some.inj h).symm⟩
theorem CB.addM {wb mv:Nat} {nb pb:Nat ->Nat} {N:Net} {M:MF} (h:CB wb mv nb pb N M) {y:Po} (hy:y.q=[]) (hyh:y.qh=none) {bn:Nat} (hM:M bn=some (Te y)) (hbn:∀j,j<N.po.length ->pb j≠bn) {b cap:Nat} (hb:B6 M N.mh b=none) (hl:N.po.length+1≤cap):
  CB wb mv nb (MH pb N.po.length bn) {N with po:=N.po++ [y],mh:=some (b,cap)} (BQ (BQ (B6 M N.mh) b (.row V7 1 cap ((List.range N.po.length).map (fun j=>BK (pb j))++ [BK bn]))) wb (X1 N.nh N.nd.length (some (b,cap)) (N.po.length+1) mv)):=by
 have hef:∀i,((N.nd.getD i Bl).ef.map (bh (MH pb N.po.length bn)))=(N.nd.getD i Bl).ef.map (bh pb):=fun i=>ωj fun e he=>by
  rcases getD_mem (l:=N.nd) (d:=Bl) i with hm | hm
  ·show D.agg [pD (MH pb N.po.length bn e.1) 0,_]=_;rw [DB ((h.e _ hm).1 e he)]
  ·rw [hm] at he;cases he
 have hpl:∀i,((N.nd.getD i Bl).pl.map (plD (MH pb N.po.length bn)))=(N.nd.getD i Bl).pl.map (plD pb):=fun i=>ωj fun e he=>by
  rcases getD_mem (l:=N.nd) (d:=Bl) i with hm | hm
  ·show D.agg [pD (MH pb N.po.length bn e.1) 0,_]=_;rw [DB ((h.e _ hm).2 e he)]
  ·rw [hm] at he;cases he
 have hR:∀r,r≠RI.m ->CT nb (MH pb N.po.length bn) {N with po:=N.po++ [y],mh:=some (b,cap)} r=CT nb pb N r:=fun r hr=>by
  cases r with
  | e i=>show (⟨_,_,_,(N.nd.getD i Bl).ef.map _⟩:RowM)=_;rw [hef];rfl
  | p i=>show (⟨_,_,_,(N.nd.getD i Bl).pl.map _⟩:RowM)=_;rw [hpl];rfl
  | n=>rfl
  | m=>exact absurd Z hr
  | q j=>
   show (⟨((N.po++ [y]).getD j CV).qh,_,_,((N.po++ [y]).getD j CV).q.map _⟩:RowM)=⟨(N.po.getD j CV).qh,_,_,(N.po.getD j CV).q.map _⟩
   rw [Kq]
   split
   ·rename_i e
    rw [hy,hyh,ϖ,ωw (by omega)];rfl
   ·rfl
 have hup:=h.rs.upd (R':=CT nb (MH pb N.po.length bn) {N with po:=N.po++ [y],mh:=some (b,cap)}) .m hR (b:=b) (cap:=cap) hb Z (by
  show ((List.range (N.po++ [y]).length).map _).length≤cap
  simp;exact hl)
 have hrow:(CT nb (MH pb N.po.length bn) {N with po:=N.po++ [y],mh:=some (b,cap)} .m).xs=(List.range N.po.length).map (fun j=>BK (pb j))++ [BK bn]:=by
  show (List.range (N.po++ [y]).length).map _=_;rw [Δ,Φ,Oo]
 rw [hrow] at hup
 have hk:∀(b':Nat) (t:TypeId) (cs:List D),t≠180 ->M b'=some (.cells t cs) ->BQ (BQ (B6 M N.mh) b (.row V7 1 cap ((List.range N.po.length).map (fun j=>BK (pb j))++ [BK bn]))) wb (X1 N.nh N.nd.length (some (b,cap)) (N.po.length+1) mv) b'=some (.cells t cs):=fun b' t cs ht hm=>by
  rw [FR]
  ·exact h.keepM hb hm
  ·rintro rfl;rw [h.w] at hm;injection hm with hm;injection hm with hm;exact ht hm.symm
 refine ⟨fun i x hx=>hk _ _ _ (by decide) (h.n i x hx),fun i z hz=>?_,hup.cells (h.keepM hb h.w),?_,h.ni,fun i k hi hk e=>?_,fun x hx=>?_,fun z hz=>?_⟩
 ·rcases snoc_get hz with ⟨h1,h2⟩ | ⟨h1,h2⟩
  ·rw [DB h1];exact hk _ _ _ (by decide) (h.p i z h2)
  ·subst h1 h2;rw [Fq];exact hk _ _ _ (by decide) hM
 ·rw [E2];show _=some (Ad.cells _ [_,hdr _ (N.po++ [y]).length,_]);rw [Δ];rfl
 ·have hi':i<N.po.length+1:=by simpa using hi
  have hk':k<N.po.length+1:=by simpa using hk
  by_cases e1:i=N.po.length<;>by_cases e2:k=N.po.length
  ·omega
  ·subst e1;rw [Fq,DB (by omega)] at e;exact absurd e.symm (hbn k (by omega))
  ·subst e2;rw [Fq,DB (by omega)] at e;exact absurd e (hbn i (by omega))
  ·rw [DB (by omega),DB (by omega)] at e;exact h.pi i k (by omega) (by omega) e
 ·have:=h.e x hx;refine ⟨fun e he=>?_,fun e he=>?_⟩
  ·have:=this.1 e he;simp;omega
  ·have:=this.2 e he;simp;omega
 ·rcases υ.1 hz with hz | hz
  ·exact h.q z hz
  ·rw [ξ.1 hz,hy];intro i hi;cases hi
theorem CB.perm {wb mv:Nat} {nb pb:Nat ->Nat} {N:Net} {M:MF} (h:CB wb mv nb pb N M) (hn:N.nd=[]) (hqn:∀y∈N.po,y.q=[]∧y.qh=none) {ys:List Nat} (hp:ys.Perm (List.range N.po.length)) {b cap:Nat} (hm:N.mh=some (b,cap)):
  CB wb mv nb (fun k=>pb (ys.getD k 0)) {N with po:=ys.map fun i=>N.po.getD i CV} (BQ M b (.row V7 1 cap (ys.map fun j=>BK (pb j)))):=by
 have hyl:ys.length=N.po.length:=by rw [hp.length_eq,ωg]
 have hys:∀k,k<ys.length ->ys.getD k 0<N.po.length:=fun k hk=>by
  rw [CY 0 hk];exact Ξ.1 (hp.mem_iff.1 (κ hk))
 have hrow:=h.rs.blk (r:= .m) hm
 have hrl:=(h.rs.1 .m)
 rw [show (CT nb pb N .m).h=some (b,cap) from hm] at hrl
 have hlen:N.po.length≤cap:=by
  have:=hrl.1;have e:((List.range N.po.length).map fun j=>BK (pb j)).length=N.po.length:=by simp
  exact e▸this
 have hk:∀(b':Nat) (t:TypeId) (cs:List D),M b'=some (.cells t cs) ->BQ M b (.row V7 1 cap (ys.map fun j=>BK (pb j))) b'=some (.cells t cs):=fun b' t cs hm'=>by
  rw [FR]
  ·exact hm'
  ·rintro rfl;rw [hrow] at hm';cases hm'
 have hq0:∀(l:List Po),(∀y∈l,y.q=[]∧y.qh=none) ->∀j,(l.getD j CV).q=[]∧(l.getD j CV).qh=none:=fun l hl j=>by
  rcases getD_mem (l:=l) (d:=CV) j with hm | hm
  ·exact hl _ hm
  ·rw [hm];exact ⟨Z,Z⟩
 have hqn':∀y∈ys.map fun i=>N.po.getD i CV,y.q=[]∧y.qh=none:=fun y hy=>by
  obtain ⟨i,_,rfl⟩:=ϱ.1 hy;exact hq0 _ hqn i
 refine ⟨fun i x hx=>?_,fun j y hy=>?_,⟨fun r=>?_,fun r r' b1 c c' h1 h2=>?_⟩,?_,h.ni,fun i k hi hk' e=>?_,fun x hx=>?_,fun y hy=>?_⟩
 ·have:N.nd[i]? =some x:=hx;rw [hn] at this;simp at this
 ·have hy':(ys.map fun i=>N.po.getD i CV)[j]? =some y:=hy;rw [η] at hy'
  cases hj:ys[j]? with
  | none=>rw [hj] at hy';cases hy'
  | some i=>
   rw [hj] at hy';have e:y=N.po.getD i CV:=(Option.some.inj hy').symm;have hjl:=(χ.1 hj).1;have hi:=hys j hjl;rw [Fd hj] at hi;show BQ M b _ (pb (ys.getD j 0))=_;rw [Fd hj,e,CY CV hi];exact hk _ _ _ (h.p i _ (ω hi))
 ·cases r with
  | e i=> 
   have:N.nd.getD i Bl=Bl:=by rw [hn];rfl
   show BJ _ (N.nd.getD i Bl).eh _ _ ((N.nd.getD i Bl).ef.map _);rw [this];rfl
  | p i=> 
   have:N.nd.getD i Bl=Bl:=by rw [hn];rfl
   show BJ _ (N.nd.getD i Bl).ph _ _ ((N.nd.getD i Bl).pl.map _);rw [this];rfl
  | q j=>
   show BJ _ ((ys.map fun i=>N.po.getD i CV).getD j CV).qh _ _ (((ys.map fun i=>N.po.getD i CV).getD j CV).q.map _);obtain ⟨e1,e2⟩:=hq0 _ hqn' j;rw [e1,e2];rfl
  | n=>
   have hnr:=h.rs.1 .n;show BJ _ N.nh _ _ ((List.range N.nd.length).map _)
   cases hh:N.nh with
   | none=>show _=[];rw [hn];rfl
   | some p=>
    obtain ⟨b',c'⟩:=p;rw [show (CT nb pb N .n).h=some (b',c') from hh] at hnr;refine ⟨by have:=hnr.1;exact this,?_⟩;rw [FR]
    ·exact hnr.2
    ·rintro rfl;exact absurd (h.rs.2 .n .m b' c' cap hh hm) (by intro e;cases e)
  | m=>
   show BJ _ N.mh _ _ ((List.range (ys.map fun i=>N.po.getD i CV).length).map fun k=>BK (pb (ys.getD k 0)))
   have e:((List.range (ys.map fun i=>N.po.getD i CV).length).map fun k=>BK (pb (ys.getD k 0)))=ys.map fun j=>BK (pb j):=by
    apply χc (by simp)
    intro k h1 h2;simp only [ωd,ψs];rw [CY 0 (by simpa using h2)]
   rw [e,hm];exact ⟨by rw [ψ,hyl];exact hlen,E2 _ _ _⟩
 ·have hcase:∀r b1 c,(CT nb (fun k=>pb (ys.getD k 0)) {N with po:=ys.map fun i=>N.po.getD i CV} r).h=some (b1,c) ->(CT nb pb N r).h=some (b1,c):=fun r b1 c h1=>by
   cases r with
   | e i=>exact h1
   | p i=>exact h1
   | n=>exact h1
   | m=>exact h1
   | q j=>
    have h1':((ys.map fun i=>N.po.getD i CV).getD j CV).qh=some (b1,c):=h1;rw [(hq0 _ hqn' j).2] at h1';cases h1'
  exact h.rs.2 r r' b1 c c' (hcase _ _ _ h1) (hcase _ _ _ h2)
 ·have:=hk _ _ _ h.w;show _=some (Ad.cells _ [_,hdr N.mh (ys.map fun i=>N.po.getD i CV).length,_]);rw [ψ,hyl];exact this
 ·have hi':i<ys.length:=by simpa using hi
  have hk2:k<ys.length:=by simpa using hk'
  have:=h.pi _ _ (hys i hi') (hys k hk2) e;rw [CY 0 hi',CY 0 hk2] at this;have hnd:ys.Nodup:=hp.nodup_iff.2 List.nodup_range;exact (List.getElem_inj hnd).1 this
 ·have:x∈N.nd:=hx;rw [hn] at this;cases this
 ·intro i hi;rw [(hqn' y hy).1] at hi;cases hi
end Go.Proofs.YteifpcnphnhaoaaGreat
namespace Go.Proofs.YteifpcnphnhaoaaGreat
open Go.RowKit
theorem aX {α β:Type} [DecidableEq α] {m:List (α×β)} {a:α} {b:β} (h:a∉m.map Prod.fst):Aw m a b=m++ [(a,b)]:=by
 induction m with
 | nil=>rfl
 | cons p r ih=>
  obtain ⟨k,b'⟩:=p;simp only [ωm,Ψ,not_or] at h;simp only [Aw,φi];rw [ϑ h.1,ih h.2]
theorem GJ {α β:Type} [DecidableEq α] {m:List (α×β)} {a:α} {z:β} (h:a∉m.map Prod.fst):A7 m a z=z:=by
 induction m with
 | nil=>rfl
 | cons p r ih=>
  obtain ⟨k,b'⟩:=p;simp only [ωm,Ψ,not_or] at h;simp only [A7];rw [ϑ h.1,ih h.2]
theorem DI {α β:Type} [DecidableEq α] {m:List (α×β)} {a k:α} {b z:β} (h:a≠k):A7 (m++ [(k,b)]) a z=A7 m a z:=by
 induction m with
 | nil=>simp only [List.nil_append,A7];rw [ϑ h]
 | cons p r ih=>
  obtain ⟨k',b'⟩:=p;simp only [φi,A7,ih]
theorem D2 {α β:Type} [DecidableEq α] {m:List (α×β)} {a:α} {b z:β} (h:a∉m.map Prod.fst):A7 (m++ [(a,b)]) a z=b:=by
 induction m with
 | nil=>simp [A7]
 | cons p r ih=>
  obtain ⟨k',b'⟩:=p;simp only [ωm,Ψ,not_or] at h;simp only [φi,A7];rw [ϑ h.1,ih h.2]
def Tt {α:Type} (d:α) (f:Nat ->Nat) (l:List α):List (α×Value):=(List.range l.length).map fun i=>(l.getD i d,pV (f i) 0)
theorem MY {α:Type} (d:α) (f:Nat ->Nat) (l:List α):(Tt d f l).map Prod.fst=l:=by
 unfold Tt;rw [ωu];refine χc (by simp) fun j h1 h2=>?_;simp only [ωd,ψs,Function.comp];exact CY d h2
theorem VP {α:Type} [DecidableEq α] {d:α} {f:Nat ->Nat} {l:List α} {a:α} {b:Nat} (h:a∉l):Aw (Tt d f l) a (pV b 0)=Tt d (MH f l.length b) (l++ [a]):=by
 rw [aX (by rw [MY];exact h)];unfold Tt;rw [Δ,Φ,ψj,ωc,φd,Fq]
 congr 1
 ·refine ωj fun i hi=>?_;have hi':=Ξ.1 hi;rw [DB hi',ϖ,ϖ,ψb hi']
 ·rw [ϖ,ωq (ν _)];simp
theorem VQ {α:Type} [DecidableEq α] [BEq α] [LawfulBEq α] {d:α} {f:Nat ->Nat} {l:List α} (hn:l.Nodup) {a:α} {z:Value} {i:Nat} (hi:i<l.length) (e:l[i]=a):A7 (Tt d f l) a z=pV (f i) 0:=by
 refine DJ (by rw [MY];exact hn) ?_;exact ϱ.2 ⟨i,Ξ.2 hi,by rw [CY d hi,e]⟩
theorem tab_no {α:Type} [DecidableEq α] {d:α} {f:Nat ->Nat} {l:List α} {a:α} {z:Value} (h:a∉l):A7 (Tt d f l) a z=z:=GJ (by rw [MY];exact h)
def JG (rs:List AP) (i j:Nat):Int:=Bh (rs.getD i EH) (rs.getD j EH)
theorem Pc (rs:List AP):PC (JG rs):=OY.comap fun i=>rs.getD i EH
def GA (rs:List AP):List Nat:=(List.range rs.length).mergeSort fun i j=>decide (JG rs i j≤0)
theorem YO (rs:List AP):(GA rs).Perm (List.range rs.length):=List.mergeSort_perm _ _
theorem Wy {rs:List AP} (hn:rs.Nodup) {ys:List Nat} (hp:ys.Perm (List.range rs.length)) (hs:ys.Pairwise fun a b=>¬JG rs b a<0):ys=GA rs:=by
 have key:∀zs:List Nat,zs.Perm (List.range rs.length) ->(zs.Pairwise fun a b=>¬JG rs b a<0) ->zs.Pairwise fun a b=>JG rs a b<0:=fun zs hz hs=>by
  have hnd:zs.Pairwise fun a b=>a≠b:=hz.nodup_iff.2 List.nodup_range;have hm:∀x∈zs,x<rs.length:=fun x hx=>Ξ.1 (hz.mem_iff.1 hx);refine χt (fun {a b} ha hb h=>?_) (hs.and hnd);have h1:=(Pc rs).anti a b
  by_cases h0:JG rs a b=0
  ·exfalso
   have h3:=Dr.1 h0;rw [CY EH (hm a ha),CY EH (hm b hb)] at h3;exact h.2 ((List.getElem_inj hn).1 h3)
  ·have:=h.1;omega
 refine Cv (R:=fun a b=>JG rs a b<0) (fun x=>by rw [(Pc rs).refl];omega) (fun x y z=>(Pc rs).trans x y z) (key ys hp hs) (key _ (YO rs) ?_) fun x=>hp.mem_iff.trans (YO rs).mem_iff.symm;have:=List.pairwise_mergeSort (le:=fun i j=>decide (JG rs i j≤0)) (fun a b c h1 h2=>?_) (fun a b=>?_) (List.range rs.length)
 ·refine List.Pairwise.imp (fun {a b} h=>?_) this;have h1:=(Pc rs).anti a b;have h2:JG rs a b≤0:=by simpa using h
  omega
 ·have h1':JG rs a b≤0:=by simpa using h1
  have h2':JG rs b c≤0:=by simpa using h2
  have:JG rs a c≤0:=by
   by_cases e1:JG rs a b=0
   ·rw [(Pc rs).eqv a b c e1];exact h2'
   ·by_cases e2:JG rs b c=0
    ·have a1:=(Pc rs).anti b c;have e3:=(Pc rs).eqv c b a (by omega);have a2:=(Pc rs).anti a c;have a3:=(Pc rs).anti a b;omega
    ·have:=(Pc rs).trans a b c (by omega) (by omega);omega
  simpa using this
 ·have h1:=(Pc rs).anti a b
  by_cases h:JG rs a b≤0
  ·simp [h]
  ·have:JG rs b a≤0:=by omega
   simp [this]
abbrev C6 (D:List (AP×Int)) (r:AP):Int:=A7 D r 0
def negQ (ds:List (List (AP×Int))) (r:AP):List Nat:=(List.range ds.length).filter fun i=>decide (C6 (ds.getD i []) r<0)
def I7 (x:A2):Po:=⟨x.r,x.n,0,none,[],0⟩
def UP (ds:List (List (AP×Int))) (x:A2):Po:=⟨x.r,x.n,(ds.map fun D=>C6 D x.r).sum,none,negQ ds x.r,0⟩
def Ug (rs:List AP) (D:List (AP×Int)):List (Nat×Int):=(D.filter fun d=>decide (d.1∈rs)).map fun d=>(rs.idxOf d.1,d.2)
def XQ (rs:List AP) (ds:List (List (AP×Int))) (D:List (AP×Int)):List (Nat×Nat):=(D.filter fun d=>decide (d.1∈rs) && decide (d.2<0)).map fun d=>(rs.idxOf d.1,(negQ ds d.1).length)
def aT (rs:List AP) (ds:List (List (AP×Int))) (x:AK) (D:List (AP×Int)):Nd:=⟨x,none,Ug rs D,none,XQ rs ds D,true⟩
def H8 (rs:List AP) (its:List AK) (k:Nat):List Nd:=(List.range k).map fun i=>aT rs ((its.map AR).take i) (its.getD i A0) (AR (its.getD i A0))
def FV (ro:List A2) (its:List AK) (k:Nat):Net:=⟨H8 (ro.map A2.r) its k,ro.map (UP ((its.map AR).take k)),none,none⟩
def EN (ro:List A2) (its:List AK) (k t:Nat):Net:=⟨H8 (ro.map A2.r) its k++ [aT (ro.map A2.r) ((its.map AR).take k) (its.getD k A0) ((AR (its.getD k A0)).take t)],ro.map (UP ((its.map AR).take k++ [(AR (its.getD k A0)).take t])),none,none⟩
theorem P1 {α:Type} (p:α ->Bool) (d:α):[d].filter p=if p d=true then [d] else []:=by
 cases h:p d<;>simp [List.filter,h]
theorem Uf {rs:List AP} {T:List (AP×Int)} {d:AP×Int} (h:d.1∈rs):Ug rs (T++ [d])=Ug rs T++ [(rs.idxOf d.1,d.2)]:=by
 unfold Ug;rw [ψa,P1,θ (ωi h),ωc];rfl
theorem QY {rs:List AP} {T:List (AP×Int)} {d:AP×Int} (h:d.1∉rs):Ug rs (T++ [d])=Ug rs T:=by
 unfold Ug;rw [ψa,P1,ϑ (by simp only [ωx];exact h),ωk]
theorem Zn {rs:List AP} {ds:List (List (AP×Int))} {T:List (AP×Int)} {d:AP×Int} (h:d.1∈rs) (h2:d.2<0):XQ rs ds (T++ [d])=XQ rs ds T++ [(rs.idxOf d.1,(negQ ds d.1).length)]:=by
 unfold XQ;rw [ψa,P1,θ (by rw [ωi h,ωi h2];rfl),ωc];rfl
theorem Pw {rs:List AP} {ds:List (List (AP×Int))} {T:List (AP×Int)} {d:AP×Int} (h:¬(d.1∈rs∧d.2<0)):XQ rs ds (T++ [d])=XQ rs ds T:=by
 unfold XQ;rw [ψa,P1,ϑ (by rw [ωa,ωx,ωx];exact h),ωk]
theorem X8 (ds:List (List (AP×Int))) (D:List (AP×Int)) (r:AP):negQ (ds++ [D]) r=negQ ds r++if C6 D r<0 then [ds.length] else []:=by
 unfold negQ;rw [Δ,Φ,ψj,ψa]
 congr 1
 ·refine χp fun i hi=>?_;have hi':=Ξ.1 hi;rw [ϖ,ψb hi',←ϖ]
 ·have e:(ds++ [D]).getD ds.length []=D:=by rw [ϖ,ωq (ν _)];simp
  rw [P1,e]
  by_cases h:C6 D r<0
  ·rw [θ (ωi h),θ h]
  ·rw [ϑ (by simpa using h),ϑ h]
theorem EK (ds:List (List (AP×Int))) (D:List (AP×Int)) (x:A2):UP (ds++ [D]) x=⟨x.r,x.n,(UP ds x).sum+C6 D x.r,none,(UP ds x).q++(if C6 D x.r<0 then [ds.length] else []),0⟩:=by
 unfold UP;rw [X8,ωc,χa]
 simp
theorem X4 {ro:List A2} {its:List AK} {k:Nat}:EN ro its k 0=⟨(FV ro its k).nd++ [⟨its.getD k A0,none,[],none,[],true⟩],(FV ro its k).po,none,none⟩:=by
 unfold EN FV
 congr 1
 refine ωj fun x _=>?_;rw [EK];unfold UP
 simp [C6,A7]
theorem X6 {ro:List A2} {its:List AK} {k:Nat} (hk:k<its.length):EN ro its k (AR (its.getD k A0)).length=FV ro its (k+1):=by
 unfold EN FV H8;rw [ωs,ψj,ωc,φd]
 congr 1
 have:(its.map AR).take (k+1)=(its.map AR).take k++ [AR (its.getD k A0)]:=by
  rw [φ (by simpa using hk),ωd,CY A0 hk]
 rw [this]
theorem X5 {ro:List A2} {its:List AK} {k t:Nat} (ht:t<(AR (its.getD k A0)).length) (hr:((AR (its.getD k A0))[t]).1∉ro.map A2.r):EN ro its k (t+1)=EN ro its k t:=by
 unfold EN
 obtain ⟨D,hD⟩:∃D,AR (its.getD k A0)=D:=⟨_,Z⟩
 obtain ⟨d,hd⟩:∃d,(AR (its.getD k A0))[t]=d:=⟨_,Z⟩
 rw [hd] at hr;rw [φ ht,hd]
 have e1:∀(ds:List (List (AP×Int))) (T:List (AP×Int)),aT (ro.map A2.r) ds (its.getD k A0) (T++ [d])=aT (ro.map A2.r) ds (its.getD k A0) T:=fun ds T=>by
  unfold aT;rw [QY hr,Pw (fun h=>hr h.1)]
 rw [e1]
 congr 1
 refine ωj fun x hx=>?_;have hne:x.r≠d.1:=fun e=>hr (e▸ϱ.2 ⟨x,hx,Z⟩);rw [EK,EK];have:C6 ((AR (its.getD k A0)).take t++ [d]) x.r=C6 ((AR (its.getD k A0)).take t) x.r:=DI hne;rw [this]
theorem DC (x:AK):((AR x).map Prod.fst).Nodup:=by
 unfold AR
 split
 ·have:=N8 (ctr x);show ((Lj (ctr x)).map Prod.fst).Pairwise _;rw [ψe];refine this.imp fun {a b} h e=>?_;rw [e,OY.refl] at h;omega
 ·exact List.nodup_nil
theorem X7 {ro:List A2} (hro:(ro.map A2.r).Nodup) {its:List AK} {k t j:Nat} (hk:k≤its.length) (ht:t<(AR (its.getD k A0)).length) (hj:j<ro.length) (hr:(ro.map A2.r).idxOf ((AR (its.getD k A0))[t]).1=j) (hm:((AR (its.getD k A0))[t]).1∈ro.map A2.r) {x:Nd} {y:Po} (hx:(EN ro its k t).nd[k]? =some x) (hy:(EN ro its k t).po[j]? =some y):
  EN ro its k (t+1)=⟨(EN ro its k t).nd.set k (jnX x j y.q.length ((AR (its.getD k A0))[t]).2),(EN ro its k t).po.set j (jnY y k ((AR (its.getD k A0))[t]).2),none,none⟩:=by
 obtain ⟨d,hd⟩:∃d,(AR (its.getD k A0))[t]=d:=⟨_,Z⟩
 rw [hd] at hr hm⊢
 have hdn:d.1∉((AR (its.getD k A0)).take t).map Prod.fst:=fun h=>by
  have h1:=DC (its.getD k A0);rw [←φa t (AR (its.getD k A0)),χf ht,hd,ωc,ωm,χn] at h1;exact h1.2.2 _ h _ (ωo ..) rfl
 have hl:(H8 (ro.map A2.r) its k).length=k:=by unfold H8;simp
 have hdsl:((its.map AR).take k).length=k:=by simp;omega
 have ex:x=aT (ro.map A2.r) ((its.map AR).take k) (its.getD k A0) ((AR (its.getD k A0)).take t):=by
  have hx':(H8 (ro.map A2.r) its k++ [aT (ro.map A2.r) ((its.map AR).take k) (its.getD k A0) ((AR (its.getD k A0)).take t)])[k]? =some x:=hx;rw [ωq (by omega),hl,Nat.sub_self] at hx';exact (Option.some.inj hx').symm
 have hy':(ro.map (UP ((its.map AR).take k++ [(AR (its.getD k A0)).take t])))[j]? =some y:=hy;rw [η,ω hj] at hy';have ey:y=UP ((its.map AR).take k++ [(AR (its.getD k A0)).take t]) ro[j]:=(Option.some.inj hy').symm
 have hrj:ro[j].r=d.1:=by
  have h1:=φe (ψp hm);simp only [hr,ωd] at h1;exact h1
 have ha0:C6 ((AR (its.getD k A0)).take t) d.1=0:=GJ hdn
 have hyq:y.q.length=(negQ ((its.map AR).take k) d.1).length:=by
  rw [ey,EK,hrj,ha0];show (negQ _ _++_).length=_;rw [hrj];simp
 unfold EN;rw [φ ht,hd]
 congr 1
 ·rw [List.set_append_right _ _ (by omega),hl,Nat.sub_self,List.set_cons_zero]
  congr 2
  rw [ex];unfold aT jnX;rw [Uf hm,hr,hyq]
  by_cases h0:d.2<0
  ·rw [Zn hm h0,hr,θ h0]
  ·rw [Pw (fun h=>h0 h.2),ϑ h0]
 ·refine χq fun i=>?_;rw [χo]
  by_cases e:j=i
  ·subst e;rw [θ Z,θ (by simpa using hj),η,ω hj];show some _=some _
   congr 1
   rw [ey];unfold jnY;rw [EK,EK,hrj];have h1:C6 ((AR (its.getD k A0)).take t++ [d]) d.1=d.2:=D2 hdn;rw [h1,ha0,hdsl,hrj.symm];simp only [Int.add_zero,Po.mk.injEq,true_and,and_true]
   by_cases h0:d.2<0
   ·simp [h0]
   ·simp [h0]
  ·rw [ϑ e,η,η]
   cases hi:ro[i]? with
   | none=>rfl
   | some z=>
    show some _=some _
    congr 1
    have hil:=(χ.1 hi)
    have hne:z.r≠d.1:=fun e2=>e (by
     have h1:(ro.map A2.r)[j]'(by simpa using hj)=(ro.map A2.r)[i]'(by simpa using hil.1):=by
      rw [ωd,ωd,hil.2,hrj,e2]
     exact (List.getElem_inj hro).1 h1)
    rw [EK,EK];have:C6 ((AR (its.getD k A0)).take t++ [d]) z.r=C6 ((AR (its.getD k A0)).take t) z.r:=DI hne;rw [this]
end Go.Proofs.YteifpcnphnhaoaaGreat
namespace Go.Proofs.YteifpcnphnhaoaaGreat
open Go.RowKit Go.Shelf
set_option maxRecDepth 100000
def nrm1:D ->D
 | .sl (some true) []=> .raw (.slice none 0 0)
 | x=>x
def nrm:D ->D
 | .agg cs=> .agg (cs.map nrm1)
 | x=>nrm1 x
theorem aL (x:D):(nrm1 x).one=x.one:=by
 unfold nrm1
 split<;>rfl
theorem AQ.nrm1 {w:World} {O:Nat ->Prop} {x:D} {v:Value} (h:AQ w O x v):AQ w O (nrm1 x) v:=by
 unfold Go.Proofs.YteifpcnphnhaoaaGreat.nrm1
 split
 ·cases h with
  | sl k hn hz hln hc hm hk ha hp=>
   rename_i a n cap
   have h1:=hn true rfl
   have h2:a=none:=by cases a with
    | none=>rfl
    | some _=>cases h1
   subst h2;have h3:=hz rfl;have h4:n=0:=hln.symm;subst h3 h4;exact .raw rfl
 ·exact h
theorem AQ.nrm {w:World} {O:Nat ->Prop} {x:D} {v:Value} (h:AQ w O x v):AQ w O (nrm x) v:=by
 unfold Go.Proofs.YteifpcnphnhaoaaGreat.nrm
 split
 ·rename_i cs
  cases h with
  | agg hl h1 hr=>
   refine .agg (by rw [hl,ψ]) (fun c hc=>?_) fun i c v hc hv=>?_
   ·obtain ⟨d,hd,rfl⟩:=ϱ.1 hc;rw [aL];exact h1 d hd
   ·rw [η] at hc
    cases hd:cs[i]? with
    | none=>rw [hd] at hc;cases hc
    | some d=>
     rw [hd] at hc;injection hc with hc;subst hc
     exact (hr i d v hd hv).nrm1
 ·exact h.nrm1
section
variable {P:Program} {F:Fr} {Q:Exit ->AS ->Prop} {ops:Array Oper} {l:List Oper} {n:Nat} {env:List (Nat×AV)} {hp:Hp}
theorem aH (t:Nat) {x:D} (ht:get env t=some (.d x)) (h:Ab P F ops l Q ⟨n,(t,.d (nrm x))::env,hp⟩):Ab P F ops l Q ⟨n,env,hp⟩:=fun ρ act w hs=>h ρ act w ⟨hs.size,hs.defs,fun t' a ha=>by
 rcases KJ ha with ⟨rfl,rfl⟩ | ⟨_,ha⟩
 ·have hr:=hs.env t _ ht
  generalize act.tmps.getD t undef=v at hr⊢
  cases hr with
  | d h=>exact .d h.nrm
 ·exact hs.env t' a ha,hs.heap⟩
end
def ZM (M:MF) (h:Hd) (E:TypeId) (ys:List D):MF:=match h with
 | none=>M
 | some (b,c)=>BQ M b (.row E 1 c ys)
theorem Xo {f:Nat} {M:MF}:∀(H H':Hp),hfam H f=some [.multi M] ->B1 H f M=some H' ->H'=H:=by
 intro H
 induction H with
 | nil=>intro H' h;cases h
 | cons p r ih=>
  obtain ⟨k,l⟩:=p;intro H' h1 h2;simp only [hfam] at h1;simp only [B1] at h2
  cases hk:Nat.beq k f with
  | true=>
   rw [hk] at h1 h2;injection h1 with h1
   subst h1;simp only [isM] at h2;injection h2 with h2;exact h2.symm
  | false=>
   rw [hk] at h1 h2;dsimp only at h1 h2
   cases hr:B1 r f M with
   | none=>rw [hr] at h2;cases h2
   | some r'=>
    rw [hr] at h2;injection h2 with h2
    rw [←h2,ih r' h1 hr]
theorem ZB {P:Program} {ρr:Ren} {τ:Type} (L:SlLaysF.n6 P ρr) {E:TypeId} {g g6:FuncId} {fn:Func} (hfn:P.funcs[g]? =some fn) (hnm:(fn.name== "runtime.NumGoroutine")=false) {c:Code} (hbody:fn.body=some c)
  {bl:τ ->Nat} {px:τ ->List D} {tx:τ ->TypeId} (cf:τ ->τ ->Int) (hO:Go.Sort.SWO (ltOf cf)) (xs ys0:List τ) (hsz:xs.length<4611686018427387904) (hc:∀x∈xs,∀y∈xs,AO P g [.d (.ptr (.agg (px x))),.d (.ptr (.agg (px y)))] (.raw (.int .i64 (cf x y))))
  (hu:∀ys:List τ,ys.Perm xs ->ys.Pairwise (fun a b=>¬cf b a<0) ->ys=ys0)
  {F:Fr} {s:AS} {d:Nat} {x y:Operand} {ty:TypeId} {pos:String} {aft:Array Edge} {gd:Option (Nat×Bool)} {at_:Array TypeId} {f n:Nat} {h:Hd} {M:MF} {fa:AV} {row:List D} {hp':Hp}
  (hg:ρr.f 6=g6) (hM:hfam s.hp f=some [.multi M]) (hpx:∀x∈xs,M (bl x)=some (.cells (tx x) (px x))) (h1x:∀x∈xs,∀c∈px x,c.one=true) (hx:s.ev x=some (.d (hdr h n))) (hy:s.ev y=some fa) (hfa:∀w O ρ v,AW w O ρ fa v ->v= .func (.func g) #[] #[]) (hb:BJ M h E 1 row) (hrow:row=xs.map fun x=>pD (bl x) 0) (hn:n=xs.length) (hxh:h≠none ->xs≠ []) (hh:B1 s.hp f (ZM M h E (ys0.map fun x=>pD (bl x) 0))=some hp') (hd:Nat.blt d s.n=true):
  AI P F ⟨some d,.call {callee:= .value (.func g6),args:= #[x,y],argTypes:=at_},ty,pos,aft,gd⟩ s ⟨s.n,(d,.d (.tup []))::s.env,hp'⟩ (fun _ _=>true):=by
 match h,hx,hb,hh,hxh with
 | none,hx,hb,hh,_=>
  rw [Xo _ _ hM hh];exact Wu L hg hx hy hd
 | some (b,cap),hx,hb,hh,hxh=>exact ZA L hfn hnm hbody cf hO xs ys0 hsz hc hu hg hM hpx h1x hx hy hfa hb.2 hrow hn (hxh (by simp)) hh hd
theorem rep0 (wb mv:Nat) (nb pb:Nat ->Nat) {M:MF} (hw:M wb=some (X1 none 0 none 0 mv)):CB wb mv nb pb ⟨[],[],none,none⟩ M:=by
 refine ⟨fun i x hx=>by simp at hx,fun j y hy=>by simp at hy,⟨fun r=>?_,fun r r' b c c' h1 h2=>?_⟩,hw,fun i j hi _=>by simp at hi,fun i j hi _=>by simp at hi,fun x hx=>(by cases hx),fun y hy=>(by cases hy)⟩
 ·cases r<;>rfl
 ·cases r<;>cases h1
structure Ed (p:Prb):Prop where
 i:p.it.length≤30
 r:p.ro.length≤100
 x:∀x∈p.it,x.po.length≤12∧x.pa.length≤12∧x.af.length≤12
def cv (x:AK):Prop:=x.po.length≤12∧x.pa.length≤12∧x.af.length≤12
theorem Ed.b {p:Prb} (h:Ed p):EW p:=⟨by have:=h.r;omega,by have:=h.i;omega,fun i hi=>by have:=h.x i hi;omega⟩
theorem QA {α β:Type} {l:List (α×β)} (h:(l.map Prod.fst).Nodup):l.Nodup:=by
 have h':(l.map Prod.fst).Pairwise (fun a b=>a≠b):=h;rw [ψe] at h';exact h'.imp fun {a b} h e=>h (by rw [e])
theorem MI {x:AK} (h:cv x):(AR x).length≤60:=by
 unfold AR
 split
 ·have h1:(Xr x).length≤(ctr x).length:=by
   have h2:(Lj (ctr x)).length≤(sumL (ctr x)).length:=by
    have hp:(Lj (ctr x)).Perm ((sumL (ctr x)).filter fun d=>decide (d.2≠0)):=by
     refine (List.perm_ext_iff_of_nodup ?_ ?_).2 fun d=>?_
     ·have:=N8 (ctr x);refine this.imp fun {a b} h e=>?_;rw [e,OY.refl] at h;omega
     ·exact (QA (Es (ctr x))).filter _
     ·rw [KE,ωb];simp
    rw [hp.length_eq];exact ωh _ _
   exact ωe h2 (HX _)
  have:=JF x;have:=h.1;have:=h.2.1;omega
 ·exact ς _
theorem KD (x:AK):Qm (AR x):=by
 unfold AR
 split
 ·rename_i hE
  intro d hd;exact bnd_E hE d ((KE _ _).1 hd).1
 ·intro d hd;cases hd
theorem W3 {D:List (AP×Int)} (h:Qm D) (r:AP): -1000000000000000≤C6 D r∧C6 D r≤1000000000000000:=by
 unfold C6
 induction D with
 | nil=>simp [A7]
 | cons d D ih=>
  obtain ⟨k,b⟩:=d;simp only [A7]
  split
  ·exact h (k,b) (ωo ..)
  ·exact ih fun x hx=>h x (ωn _ hx)
theorem VV:∀{ds:List (List (AP×Int))} (_:∀D∈ds,Qm D) (r:AP),-(ds.length*1000000000000000)≤(ds.map fun D=>C6 D r).sum∧(ds.map fun D=>C6 D r).sum≤ds.length*1000000000000000
 | [],_,r=>by simp
 | D::ds,h,r=>by
  have h1:=W3 (h D (ωo ..)) r;have h2:=VV (ds:=ds) (fun D hD=>h D (ωn _ hD)) r;simp only [ωm,φb,ψo];omega
theorem J7 (ds:List (List (AP×Int))) (r:AP):(negQ ds r).length≤ds.length:=by
 unfold negQ;refine ωe (ωh _ _) ?_
 simp
theorem WR (rs:List AP) (D:List (AP×Int)):(Ug rs D).length≤D.length:=by
 unfold Ug;rw [ψ];exact ωh _ _
theorem Va (rs:List AP) (ds:List (List (AP×Int))) (D:List (AP×Int)):(XQ rs ds D).length≤D.length:=by
 unfold XQ;rw [ψ];exact ωh _ _
theorem bb {N:Net} {i:Nat} {x:Nd} (h:N.nd[i]? =some x):(Au N).nd[i]? =some (EC x):=by
 show (N.nd.map EC)[i]? =_;rw [η,h];rfl
theorem ba {N:Net} {i:Nat} {y:Po} (h:N.po[i]? =some y):(Au N).po[i]? =some (CR y):=by
 show (N.po.map CR)[i]? =_;rw [η,h];rfl
theorem cn {ro:List A2} {its:List AK} (hi:its.length≤30) (hx:∀x∈its,cv x) {k t j:Nat} (hk:k<its.length) {N:Net} (h:Au N=EN ro its k t) {x:Nd} {y:Po} (h1:N.nd[k]? =some x) (h2:N.po[j]? =some y):
  (-1000000000000000000≤y.sum∧y.sum≤1000000000000000000)∧x.ef.length≤100000∧x.pl.length≤100000∧y.q.length≤100000:=by
 have a1:=bb h1;have a2:=ba h2;rw [h] at a1 a2;have hl:(H8 (ro.map A2.r) its k).length=k:=by unfold H8;simp
 have hdl:(AR (its.getD k A0)).length≤60:=MI (hx _ (by rw [CY A0 hk];exact κ hk));have a1':(H8 (ro.map A2.r) its k++ [aT (ro.map A2.r) ((its.map AR).take k) (its.getD k A0) ((AR (its.getD k A0)).take t)])[k]? =some (EC x):=a1;rw [ωq (by omega),hl,Nat.sub_self] at a1';have ex:EC x=_:=(Option.some.inj a1').symm;have e1:x.ef=(EC x).ef:=rfl;have e2:x.pl=(EC x).pl:=rfl;have a2':(ro.map (UP ((its.map AR).take k++ [(AR (its.getD k A0)).take t])))[j]? =some (CR y):=a2;rw [η] at a2'
 cases hj:ro[j]? with
 | none=>rw [hj] at a2';cases a2'
 | some z=>
  rw [hj] at a2';have ey:CR y=UP ((its.map AR).take k++ [(AR (its.getD k A0)).take t]) z:=(Option.some.inj a2').symm;have e3:y.sum=(CR y).sum:=rfl;have e4:y.q=(CR y).q:=rfl;have hds:((its.map AR).take k++ [(AR (its.getD k A0)).take t]).length≤31:=by simp;omega
  have hb:=VV (ds:=(its.map AR).take k++ [(AR (its.getD k A0)).take t]) (fun D hD=>by
   rcases υ.1 hD with hD | hD
   ·obtain ⟨x,_,rfl⟩:=ϱ.1 (ωy hD);exact KD x
   ·rw [ξ.1 hD];exact (KD _).take t) z.r
  have hq:=J7 ((its.map AR).take k++ [(AR (its.getD k A0)).take t]) z.r;have he:=WR (ro.map A2.r) ((AR (its.getD k A0)).take t);have hp:=Va (ro.map A2.r) ((its.map AR).take k) ((AR (its.getD k A0)).take t);rw [Υ] at he hp;rw [e1,e2,e3,e4,ex,ey];unfold UP aT;dsimp only
  generalize (List.map (fun D=>C6 D z.r) (List.take k (List.map AR its)++ [List.take t (AR (its.getD k A0))])).sum=S at hb⊢
  generalize (List.take k (List.map AR its)++ [List.take t (AR (its.getD k A0))]).length=m at*
  omega
theorem T_step {ro:List A2} (hro:(ro.map A2.r).Nodup) {its:List AK} {k t j:Nat} (hk:k<its.length) (ht:t<(AR (its.getD k A0)).length) {N N':Net} (h:Au N=EN ro its k t) (hr:(ro.map A2.r).idxOf ((AR (its.getD k A0))[t]).1=j) (hm:((AR (its.getD k A0))[t]).1∈ro.map A2.r) {x x':Nd} {y y':Po} (h1:N.nd[k]? =some x) (h2:N.po[j]? =some y)
  (e1:N'.nd=N.nd.set k x') (ex:EC x'=EC (jnX x j y.q.length ((AR (its.getD k A0))[t]).2)) (e2:N'.po=N.po.set j y') (ey:CR y'=CR (jnY y k ((AR (its.getD k A0))[t]).2)):Au N'=EN ro its k (t+1):=by
 have a1:=bb h1;have a2:=ba h2
 have hj:j<ro.length:=by
  have:=ψp hm;rw [hr] at this;simpa using this
 rw [h] at a1 a2;rw [X7 hro (Nat.le_of_lt hk) ht hj hr hm a1 a2,←h];unfold Au;dsimp only;rw [e1,e2,List.map_set,List.map_set,ex,ey]
 rfl
theorem FP.del {M:MF} {R:RI ->RowM} (h:FP M R) {b:Nat} {t:TypeId} {cs:List D} (hb:M b=some (.cells t cs)):FP (EZ M b) R:=by
 refine ⟨fun r=>?_,h.2⟩;have h1:=h.1 r
 cases hh:(R r).h with
 | none=>rw [hh] at h1;exact h1
 | some p=>
  obtain ⟨b',c⟩:=p;rw [hh] at h1;refine ⟨h1.1,?_⟩;rw [Ga]
  ·exact h1.2
  ·rintro rfl;have:=h1.2;rw [hb] at this;cases this
theorem CB.addN2 {wb mv:Nat} {nb pb:Nat ->Nat} {N:Net} {M:MF} (h:CB wb mv nb pb N M) {x:Nd} (hx1:x.ef=[]) (hx2:x.eh=none) (hx3:x.pl=[]) (hx4:x.ph=none) {bn:Nat} (hM:M bn=some (Tg x)) (hbn:∀j,j<N.nd.length ->nb j≠bn) {b cap:Nat} (hb:B6 (EZ M wb) N.nh b=none) (hl:N.nd.length+1≤cap) {wb':Nat} (hw':BQ (B6 (EZ M wb) N.nh) b (.row Zk 1 cap ((List.range N.nd.length).map (fun j=>BK (nb j))++ [BK bn])) wb'=none):
  CB wb' mv (MH nb N.nd.length bn) pb {N with nd:=N.nd++ [x],nh:=some (b,cap)} (BQ (BQ (B6 (EZ M wb) N.nh) b (.row Zk 1 cap ((List.range N.nd.length).map (fun j=>BK (nb j))++ [BK bn]))) wb' (X1 (some (b,cap)) (N.nd.length+1) N.mh N.po.length mv)):=by
 have hq:∀j,((N.po.getD j CV).q.map fun i=>BK (MH nb N.nd.length bn i))=(N.po.getD j CV).q.map fun i=>BK (nb i):=fun j=>ωj fun e he=>by
  rcases getD_mem (l:=N.po) (d:=CV) j with hm | hm
  ·rw [DB (h.q _ hm e he)]
  ·rw [hm] at he;cases he
 have hR:∀r,r≠RI.n ->CT (MH nb N.nd.length bn) pb {N with nd:=N.nd++ [x],nh:=some (b,cap)} r=CT nb pb N r:=fun r hr=>by
  cases r with
  | q j=>show (⟨_,_,_,(N.po.getD j CV).q.map _⟩:RowM)=_;rw [hq];rfl
  | m=>rfl
  | n=>exact absurd Z hr
  | e i=>
   show (⟨((N.nd++ [x]).getD i Bl).eh,_,_,((N.nd++ [x]).getD i Bl).ef.map _⟩:RowM)=⟨(N.nd.getD i Bl).eh,_,_,(N.nd.getD i Bl).ef.map _⟩
   rw [Kq]
   split
   ·rename_i e
    rw [hx1,hx2,ϖ,ωw (by omega)];rfl
   ·rfl
  | p i=>
   show (⟨((N.nd++ [x]).getD i Bl).ph,_,_,((N.nd++ [x]).getD i Bl).pl.map _⟩:RowM)=⟨(N.nd.getD i Bl).ph,_,_,(N.nd.getD i Bl).pl.map _⟩
   rw [Kq]
   split
   ·rename_i e
    rw [hx3,hx4,ϖ,ωw (by omega)];rfl
   ·rfl
 have hd:=h.rs.del h.w
 have hup:=hd.upd (R':=CT (MH nb N.nd.length bn) pb {N with nd:=N.nd++ [x],nh:=some (b,cap)}) .n hR (b:=b) (cap:=cap) hb Z (by
  show ((List.range (N.nd++ [x]).length).map _).length≤cap
  simp;exact hl)
 have hrow:(CT (MH nb N.nd.length bn) pb {N with nd:=N.nd++ [x],nh:=some (b,cap)} .n).xs=(List.range N.nd.length).map (fun j=>BK (nb j))++ [BK bn]:=by
  show (List.range (N.nd++ [x]).length).map _=_;rw [Δ,Φ,Oo]
 rw [hrow] at hup
 have hk:∀(b':Nat) (t:TypeId) (cs:List D),t≠180 ->M b'=some (.cells t cs) ->BQ (BQ (B6 (EZ M wb) N.nh) b (.row Zk 1 cap ((List.range N.nd.length).map (fun j=>BK (nb j))++ [BK bn]))) wb' (X1 (some (b,cap)) (N.nd.length+1) N.mh N.po.length mv) b'=some (.cells t cs):=fun b' t cs ht hm=>by
  refine GH hw' ?_
  have h1:EZ M wb b'=some (.cells t cs):=by
   rw [Ga]
   ·exact hm
   ·rintro rfl;rw [h.w] at hm;injection hm with hm;injection hm with hm;exact ht hm.symm
  exact Go.Proofs.YteifpcnphnhaoaaGreat.keepM hb h1 fun c hc=>by have:=hd.blk (r:= .n) hc;rw [h1] at this;cases this
 refine ⟨fun i z hz=>?_,fun j y hy=>hk _ _ _ (by decide) (h.p j y hy),⟨fun r=>LN hw' (hup.1 r),hup.2⟩,?_,fun i k hi hk e=>?_,h.pi,fun z hz=>?_,fun y hy=>?_⟩
 ·rcases snoc_get hz with ⟨h1,h2⟩ | ⟨h1,h2⟩
  ·rw [DB h1];exact hk _ _ _ (by decide) (h.n i z h2)
  ·subst h1 h2;rw [Fq];exact hk _ _ _ (by decide) hM
 ·rw [E2];show _=some (Ad.cells _ [hdr _ (N.nd++ [x]).length,_,_]);rw [Δ];rfl
 ·have hi':i<N.nd.length+1:=by simpa using hi
  have hk':k<N.nd.length+1:=by simpa using hk
  by_cases e1:i=N.nd.length<;>by_cases e2:k=N.nd.length
  ·omega
  ·subst e1;rw [Fq,DB (by omega)] at e;exact absurd e.symm (hbn k (by omega))
  ·subst e2;rw [Fq,DB (by omega)] at e;exact absurd e (hbn i (by omega))
  ·rw [DB (by omega),DB (by omega)] at e;exact h.ni i k (by omega) (by omega) e
 ·rcases υ.1 hz with hz | hz
  ·exact h.e z hz
  ·have e:=ξ.1 hz;subst e;refine ⟨fun e he=>?_,fun e he=>?_⟩
   ·rw [hx1] at he;cases he
   ·rw [hx3] at he;cases he
 ·intro i hi;have:=h.q y hy i hi
  simp;omega
section
variable {P:Program} {F:Fr} {s:AS} {d:Nat} {ty T T' E:TypeId} {pos:String} {aft:Array Edge} {g:Option (Nat×Bool)} {x:Operand}
theorem RK {p:Option Addr} (hT:P.underlying T=some (.pointer E)) (hx:s.ev x=some (.d (.raw (.pointer p)))) (hd:Nat.blt d s.n=true):AA P F ⟨some d,.binOp .neq T x (.const (.pointer none)) T',ty,pos,aft,g⟩ s d (.d (.raw (.bool (!p.isNone)))):=
 Cj _ hd fun ρ act w hs=>by
  have hv:=hs.raw hx;have hp:P.pointee T=E:=by unfold Program.pointee;rw [hT]
  have hc:act.eval (.const (.pointer none))= .pointer none:=rfl;exact ⟨.bool (!p.isNone),by simp [execOp,hv,hc,Si,binOp,run_equal_pointer_nil w T p (by rw [hp];exact hT)],.d (.raw Z)⟩
end
section
variable {P:Program} {F:Fr} {s:AS} {d:Nat} {ty T:TypeId} {pos:String} {aft:Array Edge} {g:Option (Nat×Bool)} {x:Operand}
theorem Wv (gg jg:Nat) {f j off f2 j2 m:Nat} {t:TypeId} {cs:List AV} (hx:s.ev x=some (.ptr f j off)) (ho:hget s.hp f j=some (.blk t cs)) (hc:cs[off]? =some (.d (.raw (.map (some m))))) (hg:hget s.hp gg jg=some (.addr f2 j2 (.map (some m)))) (hT:BG P T=true) (hd:Nat.blt d s.n=true):
  AA P F ⟨some d,.load T x,ty,pos,aft,g⟩ s d (.map f2 j2):=by
 have h:=A9 (F:=F) (ty:=ty) (pos:=pos) (aft:=aft) (g:=g) hx ho hc hT hd;refine ⟨h.1,h.2.1,fun ρ act w hs=>?_⟩;refine Zcr (fun a w' ⟨v,e1,e2,e3⟩=>⟨v,e1,?_,e3⟩) (h.2.2 ρ act w hs)
 cases e2 with
 | d e2=>cases e2 with
  | raw _=>
   obtain ⟨_,hv⟩:=hs.heap.sim gg jg _ hg;exact .map hv
end
def Co (p:Prb):List A2:=(GA (p.ro.map A2.r)).map fun i=>p.ro.getD i DX
def Ks (y:Po):Po:={y with mi:=y.q.length}
def aR (p:Prb):Net:=⟨(FV (Co p) (ordP p) (ordP p).length).nd,(FV (Co p) (ordP p) (ordP p).length).po.map Ks,none,none⟩
theorem aN {α:Type} {l:List A2} {f:A2 ->α} (h:(l.map f).Nodup) (k:Nat):((l.take k).map f).Nodup:=by
 exact h.sublist ((List.take_sublist k l).map f)
theorem aO {l:List A2} {f:A2 ->AP} (h:(l.map f).Nodup) {k:Nat} (hk:k<l.length):f l[k]∉(l.take k).map f:=fun hm=>by
 have h1:=aN h (k+1);rw [DQ hk,χn] at h1;exact h1.2.2 _ hm _ (List.mem_singleton_self _) rfl
abbrev nilP:D:= .raw (.pointer none)
theorem G4 {p:Prb} (hE:Al p=0):(p.ro.map A2.r).Nodup:=by
 have h0:=YY.1 (C3 hE).1;rw [List.Nodup,ψe,ωv];intro i j hi hj hij e;have:=h0 j (Ξ.2 hj);unfold Pu at this;rw [CY DX hj] at this
 split at this
 ·contradiction
 ·split at this
  ·cases this
  ·split at this
   ·cases this
   ·rename_i hn;exact hn (Mw hj hij e)
theorem pm_in {rs:List AP} (hn:rs.Nodup) {ys:List Nat} (hp:ys.Perm (List.range rs.length)) {f:Nat ->Nat} {r:AP} {z:Value} (hm:r∈ys.map fun i=>rs.getD i EH):A7 (Tt EH f rs) r z=pV (f (ys.getD ((ys.map fun i=>rs.getD i EH).idxOf r) 0)) 0:=by
 have hj:=ψp hm;have he:=φe hj
 generalize (ys.map fun i=>rs.getD i EH).idxOf r=j at hj he⊢
 rw [ψ] at hj;rw [ωd] at he;have hi:ys[j]<rs.length:=Ξ.1 (hp.mem_iff.1 (κ hj));rw [CY EH hi] at he;rw [CY 0 hj];exact VQ hn hi he
theorem pm_out {rs:List AP} {ys:List Nat} (hp:ys.Perm (List.range rs.length)) {f:Nat ->Nat} {r:AP} {z:Value} (hm:r∉ys.map fun i=>rs.getD i EH):A7 (Tt EH f rs) r z=z:=by
 refine tab_no fun h=>hm ?_;obtain ⟨i,hi,e⟩:=ωz h;exact ϱ.2 ⟨i,hp.mem_iff.2 (Ξ.2 hi),by rw [CY EH hi,e]⟩
theorem UG (p:Prb):(Co p).map A2.r=(GA (p.ro.map A2.r)).map fun i=>(p.ro.map A2.r).getD i EH:=by
 unfold Co;rw [ωu];refine ωj fun i hi=>?_;have hi':=Ξ.1 ((YO (p.ro.map A2.r)).mem_iff.1 hi);have hi2:i<p.ro.length:=by simpa using hi'
 show (p.ro.getD i DX).r=_;rw [CY DX hi2,CY EH hi',ωd]
set_option maxHeartbeats 2000000 in
theorem YD (p:Prb) (hf:Ed p) (hE:Al p≠0):AM Tryz.prog 96 [.d (Bs p)] [] fun r H'=>r= .d (.tup [nilP,AF (Al p)])∧H'=[]:=by
 have hck:=DY p hf.b;refine BB Tryz.func96 Z Z Tryz.ntmps96 Z Z Z fun F hF=>(AC (AE (V (Bz 1 Z Z Z Z Z Z Z) (AB Z Z (AB Z Z (AD (AC (AC ?_))))))));refine AE (J (BM Z Z BW Z Z Z) (J (B2 (hck) Z Z) (AB Z Z (AD (AC (AE (goMv Z Z (J (D6 Z Z Z) ?_))))))));refine AD (DP Z ((by simpa using hE)) (AC (AE (goMv Z Z (AB Z Z (AB Z Z (AD (A8 ?_))))))));exact ⟨_,[],[],A6 Z,Z,Z,Z,Z⟩
theorem poC_one (y:Po):∀c∈poC y,c.one=true:=by
 intro c hc;simp only [Ψ,List.not_mem_nil,or_false] at hc;rcases hc with rfl | rfl | rfl | rfl | rfl | rfl | rfl | rfl | rfl | rfl<;>rfl
theorem Lo {p:Prb} {i:Nat} (hi:i<p.ro.length):(p.ro.map A2.r).getD i EH=(p.ro.getD i DX).r:=by
 rw [CY DX hi,CY EH (by simpa using hi),ωd]
theorem ZL (p:Prb):∀i∈List.range p.ro.length,∀j∈List.range p.ro.length,AO Tryz.prog 142 [.d (.ptr (.agg (poC (I7 (p.ro.getD i DX))))),.d (.ptr (.agg (poC (I7 (p.ro.getD j DX)))))] (.raw (.int .i64 (JG (p.ro.map A2.r) i j))):=fun i hi j hj=>by
 have h:=cmpPo_p (I7 (p.ro.getD i DX)) (I7 (p.ro.getD j DX))
 have e:JG (p.ro.map A2.r) i j=Bh (p.ro.getD i DX).r (p.ro.getD j DX).r:=by
  unfold JG;rw [Lo (Ξ.1 hi),Lo (Ξ.1 hj)]
 rw [e];exact h
theorem sort_px {p:Prb} {wb mv:Nat} {pb:Nat ->Nat} {mh:Hd} {M:MF} (hR:CB wb mv (fun _=>0) pb ⟨[],p.ro.map I7,none,mh⟩ M):∀i∈List.range p.ro.length,M (pb i)=some (.cells 190 (poC (I7 (p.ro.getD i DX)))):=fun i hi=>by
 have hi':=Ξ.1 hi;refine hR.p i (I7 (p.ro.getD i DX)) ?_;show (p.ro.map I7)[i]? =_;rw [η,ω hi',CY DX hi'];rfl
theorem ZK {p:Prb} {wb mv:Nat} {pb:Nat ->Nat} {mh:Hd} {M:MF} (hR:CB wb mv (fun _=>0) pb ⟨[],p.ro.map I7,none,mh⟩ M):
  CB wb mv (fun _=>0) (fun k=>pb ((GA (p.ro.map A2.r)).getD k 0)) ⟨[],(Co p).map I7,none,mh⟩ (ZM M mh V7 ((GA (p.ro.map A2.r)).map fun x=>pD (pb x) 0)):=by
 have hp:(GA (p.ro.map A2.r)).Perm (List.range (p.ro.map I7).length):=by
  have:=YO (p.ro.map A2.r);rw [ψ] at this⊢;exact this
 have hpo:(GA (p.ro.map A2.r)).map (fun i=>(p.ro.map I7).getD i CV)=(Co p).map I7:=by
  unfold Co;rw [ωu];refine ωj fun i hi=>?_;have hi':=Ξ.1 (hp.mem_iff.1 hi);have hi2:i<p.ro.length:=by simpa using hi'
  show _=I7 (p.ro.getD i DX);rw [CY CV hi',CY DX hi2,ωd]
 cases hmh:mh with
 | some q=>
  obtain ⟨b,c⟩:=q;subst hmh;have h:=hR.perm Z (fun y hy=>by obtain ⟨x,_,rfl⟩:=ϱ.1 hy;exact ⟨Z,Z⟩) hp rfl;dsimp only at h;rw [hpo] at h;exact h
 | none=>
  subst hmh;have h0:BJ M none V7 1 ((List.range (p.ro.map I7).length).map fun j=>BK (pb j)):=hR.rs.1 .m;have h1:=T8 h0 rfl;rw [ωg,ψ] at h1;have h2:p.ro=[]:=ωt h1
  have h3:(Co p).map I7=p.ro.map I7:=by
   have h4:GA (p.ro.map A2.r)=[]:=ωt (by rw [hp.length_eq,ωg,ψ,h1]);rw [←hpo,h4,h2];rfl
  rw [h3];rw [h2] at hR⊢;exact ⟨hR.n,fun j y hy=>by simp at hy,⟨fun r=>by cases r<;>rfl,fun r r' b c c' e1 e2=>by cases r<;>cases e1⟩,hR.w,hR.ni,fun i j hi _ _=>by simp at hi,hR.e,hR.q⟩
theorem X3 (ros:List A2) (its:List AK) {mh:Hd}:Au ⟨[],ros.map I7,none,mh⟩=FV ros its 0:=by
 unfold Au FV H8;dsimp only;rw [ωu]
 rfl
theorem F6 {p:Prb} (hE:Al p=0):((ordP p).map AK.id).Nodup:=by
 have h1:ordP p=Ay p.it:=θ hE;rw [h1];exact ((YV p.it).map AK.id).nodup_iff.2 (Dm (C3 hE).2.1)
theorem Mc {p:Prb} (hE:Al p=0):((Co p).map A2.r).Nodup:=by
 have h1:(Co p).Perm p.ro:=by
  unfold Co;refine ((YO (p.ro.map A2.r)).map _).trans (List.Perm.of_eq ?_);rw [ψ]
  apply χc (by simp)
  intro i h1 h2;simp only [ωd,ψs];exact CY DX (by simpa using h2)
 exact (h1.map A2.r).nodup_iff.2 (G4 hE)
theorem Oz {l:List AK} (h:(l.map AK.id).Nodup) {k:Nat} (hk:k<l.length):l[k].id∉(l.take k).map AK.id:=fun hm=>by
 have h1:((l.take (k+1)).map AK.id).Nodup:=h.sublist ((List.take_sublist (k+1) l).map AK.id);rw [DQ hk,χn] at h1;exact h1.2.2 _ hm _ (List.mem_singleton_self _) rfl
theorem nd_len {N:Net} {ros:List A2} {its:List AK} {k:Nat} (h:Au N=FV ros its k):N.nd.length=k:=by
 have h1:=Γ (fun N=>N.nd.length) h;have h2:(N.nd.map EC).length=(H8 (ros.map A2.r) its k).length:=h1;rw [ψ] at h2;rw [h2];unfold H8;simp
theorem po_len {N:Net} {ros:List A2} {its:List AK} {k:Nat} (h:Au N=FV ros its k):N.po.length=ros.length:=by
 have h1:=Γ (fun N=>N.po.length) h;have h2:(N.po.map CR).length=(ros.map (UP ((its.map AR).take k))).length:=h1
 rwa [ψ,ψ] at h2
theorem T_zeroX {N:Net} {ros:List A2} {its:List AK} {k:Nat} {x:AK} {nh:Hd} (hX:its.getD k A0=x) (h:Au N=FV ros its k):Au {N with nd:=N.nd++ [⟨x,none,[],none,[],true⟩],nh:=nh}=EN ros its k 0:=by
 subst hX;rw [X4,←h];unfold Au;dsimp only;rw [ωc];rfl
theorem T_skipX {ros:List A2} {its:List AK} {k t:Nat} {X:AK} (hX:its.getD k A0=X) (ht:t<(AR X).length) (hr:((AR X)[t]).1∉ros.map A2.r):EN ros its k (t+1)=EN ros its k t:=by
 subst hX;exact X5 ht hr
theorem T_stepX {ro:List A2} {its:List AK} {k t j:Nat} {X:AK} (hX:its.getD k A0=X) (hro:(ro.map A2.r).Nodup) (hk:k<its.length) (ht:t<(AR X).length) {N N':Net} (h:Au N=EN ro its k t) (hr:(ro.map A2.r).idxOf ((AR X)[t]).1=j) (hm:((AR X)[t]).1∈ro.map A2.r) {x x':Nd} {y y':Po} (h1:N.nd[k]? =some x) (h2:N.po[j]? =some y)
  (e1:N'.nd=N.nd.set k x') (ex:EC x'=EC (jnX x j y.q.length ((AR X)[t]).2)) (e2:N'.po=N.po.set j y') (ey:CR y'=CR (jnY y k ((AR X)[t]).2)):Au N'=EN ro its k (t+1):=by
 subst hX;exact T_step hro hk ht h hr hm h1 h2 e1 ex e2 ey
theorem T_nd {N:Net} {ros:List A2} {its:List AK} {k t:Nat} (h:Au N=EN ros its k t):N.nd.length=k+1:=by
 have h1:=Γ (fun N=>N.nd.length) h;have h2:(N.nd.map EC).length=(H8 (ros.map A2.r) its k++ [_]).length:=h1;rw [ψ,Δ] at h2;rw [h2];unfold H8;simp
theorem T_po {N:Net} {ros:List A2} {its:List AK} {k t:Nat} (h:Au N=EN ros its k t):N.po.length=ros.length:=by
 have h1:=Γ (fun N=>N.po.length) h;have h2:(N.po.map CR).length=(ros.map _).length:=h1
 rwa [ψ,ψ] at h2
theorem T_lastX {ros:List A2} {its:List AK} {k:Nat} {X:AK} (hX:its.getD k A0=X) (hk:k<its.length):EN ros its k (AR X).length=FV ros its (k+1):=by
 subst hX;exact X6 hk
theorem ids_of {N:Net} {ros:List A2} {its:List AK} (h:Au N=FV ros its its.length):BT N=its.map AK.id:=by
 have h1:N.nd.map EC=H8 (ros.map A2.r) its its.length:=Γ (fun N=>N.nd) h;have h2:BT N=(N.nd.map EC).map fun x=>x.it.id:=by unfold BT;rw [ωu];rfl
 rw [h2,h1];unfold H8;rw [ωu]
 apply χc (by simp)
 intro i a b;simp only [ωd,ψs,Function.comp];show (its.getD i A0).id=_;rw [CY A0 (by simpa using b)]
theorem bU {po po':List Po} {j:Nat} {y:Po} (hj:j<po.length) (h:po'=(po.take j).map Ks++po.drop j) (hy:po'[j]? =some y):po'.set j (Ks y)=(po.take (j+1)).map Ks++po.drop (j+1):=by
 subst h;have hl:((po.take j).map Ks).length=j:=by rw [ψ,Υ];omega
 rw [ωq (by omega),hl,Nat.sub_self,χf hj] at hy;have e:y=po[j]:=(Option.some.inj hy).symm;rw [List.set_append_right _ _ (by omega),hl,Nat.sub_self,χf hj,List.set_cons_zero,DQ hj,e,ψl];rfl
theorem net_fin {p:Prb} {its:List AK} {ros:List A2} (h1:ordP p=its) (h2:Co p=ros):aR p=⟨(FV ros its its.length).nd,(FV ros its its.length).po.map Ks,none,none⟩:=by
 unfold aR;rw [h1,h2]
theorem aP {N N5:Net} {ros:List A2} {its:List AK} (hT:Au N=FV ros its its.length) (h1:N5.nd=N.nd) (h2:N5.po=N.po.map Ks):Au N5=⟨(FV ros its its.length).nd,(FV ros its its.length).po.map Ks,none,none⟩:=by
 rw [←hT];unfold Au;dsimp only;rw [h1,h2,ωu,ωu]
 rfl
set_option maxHeartbeats 2000000 in
theorem TO (p:Prb) (hf:Ed p) (hE:Al p=0):AM Tryz.prog 96 [.d (Bs p)] [] fun r H'=>∃wb mv nb pb N M bs,r= .d (.tup [pD wb 0,AF 0])∧H'=HW mv bs (Fh nb (BT N)) M∧CB wb mv nb pb N M∧Au N=aR p:=by
 have hck:=DY p hf.b;rw [hE] at hck;have hrn:=G4 hE;have hrl:=hf.r;refine BB Tryz.func96 Z Z Tryz.ntmps96 Z Z Z fun F hF=>(AC (AE ?_));refine V (Bz 1 Z Z Z Z Z Z Z) (AB Z Z (AB Z Z (AD (AC (AC (AE (J (BM Z Z BW Z Z Z) (J (B2 (hck) Z Z) ?_))))))));refine AB Z Z (AD (AC (AE (goMv Z Z (J (D6 Z Z Z) (AD (D9 Z (Z) (A3 ?_))))))));refine AC (AE (V (Pb 50 Z Z Z Z) (aI 51 50 0 Z Z Z Z Z fun mv=>(o_toRaw 26 51 0 (.inl Z) Z (J (FZ zl180 pl180 Z Z Z) (aH 27 Z (V (Bz 2 Z Z Z Z Z Z Z) (AB Z Z ?_))))))));refine AD (AC (Fi 40 Z Z Z (YT 5 2 40 (ds:=[hdr none 0,hdr none 0,K8 (.map (some mv))]) hF Z Z Z Z Z Z Z Z Z Z Z (fun _=>rfl) fun wb hwb=>(AE (V (Pb 3 Z Z Z Z) (AB Z Z (AD (AC ?_))))))));refine AC (AE (J (A4 Z Fp Z Z Z) (J (A9 Z Z Z Rm Z) (J (CO Z Tryz.underlying36 Z) (goMv Z Z (AD (A5 (B7 (α:=Nat×(Nat ->Nat)×Hd×MF) (fun q=>⟨142,[(1,(.ptr 1 0 0)),(5,(.d (pD wb 0))),(6,(.map 3 0)),(31,(.d (.sl none (p.ro.map Cy)))),(32,(.d (AF (p.ro.length:Int)))),(33,(.d (AF (q.1:Int))))],[(1,[.blk 39 [.d (.sl none (p.ro.map Cy)),.d (.sl none (p.it.map As))]]),(3,[BL C1 K8 (Tt EH q.2.1 ((p.ro.take q.1).map A2.r))]),(40,[.multi q.2.2.2]),(50,[BL AF K8 (Fh (fun _=>0) [])]),(51,[.addr 50 0 (.map (some mv))])]⟩) (fun q=>q.1≤p.ro.length∧CB wb mv (fun _=>0) q.2.1 ⟨[],(p.ro.take q.1).map I7,none,q.2.2.1⟩ q.2.2.2∧(q.2.2.1≠none ->0<q.1)) (fun q=>p.ro.length - q.1) ((0,(fun _=>0),none,BQ (fun _=>none) wb (X1 none 0 none 0 mv))) (⟨ς _,rep0 _ _ _ _ (show BQ (fun _=>none) wb (X1 none 0 none 0 mv) wb=_ from E2 _ _ _),fun h=>absurd Z h⟩) (A1 hF [1,3,40,50,51] Z Z ⟨Z,Z,Z,Z,Z,Z,trivial⟩) ?_))))))));rintro ⟨k,pb,mh,M⟩ ⟨hk0,hR,hmh⟩;dsimp only at hk0 hR hmh⊢;refine AC (AE (J (BR Z Z Z) (AD (AC (Ae Z (fun h34=>?_) (fun h34=>?_))))))
 ·have hk1:k<p.ro.length:=Bf h34;refine A3 (AC (A5 (AC ?_)));have hpl:((p.ro.take k).map I7).length=k:=by rw [ψ,Υ];omega
  have hpr:((p.ro.take k).map A2.r).length=k:=by rw [ψ,Υ];omega
  refine AE (J (Be (k) Z Z (Z) (Ah hk1) Tryz.underlying36 Z OG Z) (J (HE Z Z ZW Z) ?_));refine V (CF 4 Qn Z Z Z Z) (V (Bi Z Z Z Z Z Z Z OG) (AD (AC (AE (goMv Z Z (J (A4 Z FG Z Z Z) (J (BM Z Z C7 Z Z Z) (J (A4 Z FG Z Z Z) ?_))))))));refine J (BM Z Z C7 Z Z Z) (J (A4 Z QO Z Z Z) (J (A9 Z Z Z Ke Z) (J (FZ zl190 pl190 Z Z Z) (aH 44 Z (V (Bz 5 Z Z Z Z Z Z Z) (aK 45 5 40 (ds:=poC (I7 p.ro[k])) hF Z Z Z Z Z Z Z Z Z Z Z (fun _=>rfl) fun bn hbn=>(V (Tj (Tt EH pb ((p.ro.take k).map A2.r)) (p.ro[k].r) (pV bn 0) Z Z Z Vv CJ Z Z) (AD ?_))))))));have hrnk:p.ro[k].r∉(p.ro.take k).map A2.r:=aO hrn hk1;rw [VP hrnk,hpr,←DQ hk1];have hget:A7 (Tt EH (MH pb k bn) ((p.ro.take (k+1)).map A2.r)) p.ro[k].r (.pointer none)=pV bn 0:=by rw [VQ (i:=k) (aN hrn (k+1)) (by rw [ψ,Υ];omega) (by rw [ωd,List.getElem_take]),Fq]
  have hR1:=hR.fresh (m:=Te (I7 p.ro[k])) hbn;have hpb:((List.range k).map pb).length=k:=by simp
  have hwb1:BQ M bn (Te (I7 p.ro[k])) wb=some (X1 none 0 mh ((List.range k).map pb).length mv):=by rw [hpb];have h:_=some (X1 none 0 mh ((p.ro.take k).map I7).length mv):=hR1.w;rw [hpl] at h;exact h
  have hmr:BJ (BQ M bn (Te (I7 p.ro[k]))) mh V7 1 (((List.range k).map pb).map BK):=by have h:BJ _ mh V7 1 ((List.range ((p.ro.take k).map I7).length).map fun j=>BK (pb j)):=hR1.rs.1 .m;rw [hpl] at h;rw [ωu];exact h
  refine Ch [[],[],[1],[1,2],[1,2,3],[],[],[6],[5,6,7],[5,6,7,8],[1,2,3,4,5,6,7,8,9],[0,1,2,3,4,5,6,7,8,9,10],[0,1,2,3,4,5,6,7,8,9,10,11],[0,1,2,3,4,5,6,7,8,9,10,11,12]] mixed Z (Cq (AJ [5] [] Z Z (fun _=>AG (Ak Z Z)) (AJ [5] [] Z Z (fun _=>AG (Ak Z Z)) (AJ [47] [] Z Z (fun _=>AG (DO Z Z)) (AJ [48] [] Z Z (fun _=>AG (CS Z Ju Z Z Z)) (AJ [49] [40] Z Z (fun _=>AG (Dv (f:=40) Z Z (hwb1) Z Vj Z)) (AJ [6] [] Z Z (fun _=>AG (Ak Z Z)) (AJ [8] [] Z Z (fun _=>AG (A4 Z FG Z Z Z)) ?_))))))));refine AJ [52] [4] Z Z (fun _=>AG (BM Z Z C7 Z Z Z)) (AJ [51,53] [3] Z Z (fun _=>AG (HQ (Tt EH (MH pb k bn) ((p.ro.take (k+1)).map A2.r)) p.ro[k].r (.pointer none) (pV bn 0) Z Z Z Vv CJ Y7 hget Z)) (Gv [54] [6] [(55,_)] Z Z (fun _=>Gw (D7 6 sl177 Z Z Z Z Z Z Z Z)) (.inr ⟨55,_,Z,Z,Z,Z,Z⟩) Z Z Z Z Z (Gv [50,55] [61,40,6] [(56,_)] Z Z (fun _=>Gw (G0 50 61 40 hmr Z Z (by simp) Z Z Z Z Z (Hz (emb:=BK) ((List.range k).map pb) [bn] Z Z Z Z Z Z Z Z sl177 (by simp;omega) Z Z Z Z))) (.inr ⟨56,_,Z,Z,Z,Z,Z⟩) Z Z Z Z Z (C5 11 Z Z Z (Af 12 Z Z (Eh 56 61 40 hF Z Z Z (by simp) (by simp) Z Z Z Z Z Z Z (fun _ _=>rfl) fun b1 c1 hb1 hc1=>(J (DO Z Z) (AD ⟨Z,?_⟩))))))));refine Af 13 Z Z (J (CS Z Ju Z Z Z) (AD ⟨Z,?_⟩));refine Af 14 Z Z (V (OX (f:=40) Z Z Z Z (hR1.keepM hb1 hwb1) ((by show _<3;omega)) Z sz177) (AD ⟨Z,?_⟩));refine C9 ?_;have e1:((List.range ((p.ro.take k).map I7).length).map (fun j=>BK (pb j))++ [BK bn])=((List.range k).map pb++ [bn]).map BK:=by rw [hpl,ωc,ωu];rfl
  have e2:((List.range k).map pb++ [bn]).length=((p.ro.take k).map I7).length+1:=by simp;omega
  have hR2:=hR1.addM (y:=I7 p.ro[k]) (bn:=bn) Z Z (E2 _ _ _) (fun j hj e=>by have h1:=hR.p j _ (ω hj);rw [e,hbn] at h1;cases h1) hb1 (cap:=c1) (by have h:=hc1;simp at h⊢;omega);dsimp only at hR2;rw [e1,←e2,←DQ hk1,hpl] at hR2;refine AE (J (BA Z Z (Ω _ (by omega)) Z) (goMv Z Z (AD ?_)));exact ⟨(k+1,MH pb k bn,some (b1,c1),_),⟨by show k+1≤_;omega,hR2,fun _=>Nat.succ_pos _⟩,by show p.ro.length - (k+1)<p.ro.length - k;omega,A1 hF [1,3,40,50,51] Z (Z) ⟨Z,Z,Z,Z,Z,Z,trivial⟩⟩
 ·refine BF (AC ?_);have hkk:k=p.ro.length:=by have h:=h34;omega
  subst hkk;rw [ωs] at hR⊢;have hwb2:M wb=some (X1 none 0 mh p.ro.length mv):=by have h:_=some (X1 none 0 mh (p.ro.map I7).length mv):=hR.w;rw [ψ] at h;exact h
  have hR3:=ZK hR;have hmr:BJ M mh V7 1 ((List.range p.ro.length).map fun j=>BK (pb j)):=by have h:BJ _ mh V7 1 ((List.range (p.ro.map I7).length).map fun j=>BK (pb j)):=hR.rs.1 .m;rw [ψ] at h;exact h
  refine AE (goMv Z Z (J (DO Z Z) (J (CS Z Ju Z Z Z) (J (Dv (f:=40) Z Z (hwb2) Z Vj Z) (V (ZB laysPo Tryz.func142 Z Z (f:=40) (bl:=pb) (px:=fun j=>poC (I7 (p.ro.getD j DX))) (tx:=fun _=>190) (JG (p.ro.map A2.r)) (Pc _).swo (List.range p.ro.length) (GA (p.ro.map A2.r)) (by simp;omega) (ZL p) (fun ys h1 h2=>Wy hrn (by rw [ψ];exact h1) h2) Z Z (sort_px hR) (fun _ _=>poC_one _) Z Z Kv hmr Z (by simp) (fun h=>by have h1:=hmh h;intro h2;have h3:=Γ List.length h2;rw [ωg,φo] at h3;omega) Z Z) (AD (AC (AC ?_))))))))
  obtain ⟨its,hits⟩:∃its,ordP p=its:=⟨_,Z⟩
  have hoi:=F5 p hf.b;rw [hits] at hoi
  obtain ⟨ros,hros⟩:∃ros,Co p=ros:=⟨_,Z⟩
  have hitl:its.length≤30:=by rw [←hits];exact ωe (DZ p) hf.i
  have hrol:ros.length≤100:=by rw [←hros];unfold Co;rw [ψ,(YO _).length_eq,ωg,ψ];exact hrl
  have hitx:∀x∈its,cv x:=fun x hx=>hf.x x (H6 (p:=p) (by rw [hits];exact hx));have hin:(its.map AK.id).Nodup:=by rw [←hits];exact F6 hE
  have hroN:(ros.map A2.r).Nodup:=by rw [←hros];exact Mc hE
  have hpin:=fun (r:AP) (h:r∈ros.map A2.r)=>pm_in (z:= .pointer none) hrn (YO (p.ro.map A2.r)) (f:=pb) (r:=r) (by rw [←UG,hros];exact h);have hpout:=fun (r:AP) (h:r∉ros.map A2.r)=>pm_out (z:= .pointer none) (YO (p.ro.map A2.r)) (f:=pb) (r:=r) (by rw [←UG,hros];exact h);rw [←UG,hros] at hpin;rw [hros] at hR3
  generalize ZM M mh V7 ((GA (p.ro.map A2.r)).map fun x=>pD (pb x) 0)=M2 at hR3⊢
  obtain ⟨pb2,hpb2⟩:∃f:Nat ->Nat,(fun k=>pb ((GA (p.ro.map A2.r)).getD k 0))=f:=⟨_,Z⟩
  rw [hpb2] at hR3;have hpin2:∀r,r∈ros.map A2.r ->A7 (Tt EH pb (p.ro.map A2.r)) r (.pointer none)=pV (pb2 ((ros.map A2.r).idxOf r)) 0:=fun r h=>by rw [hpin r h,←hpb2]
  obtain ⟨pm,hpm⟩:∃m,Tt EH pb (p.ro.map A2.r)=m:=⟨_,Z⟩
  rw [hpm] at hpin2 hpout⊢;refine AE (J (BM Z Z BW Z Z Z) (J (B2 (hoi) Z Z) (J (CO Z Tryz.underlying28 Z) (goMv Z Z (AD (A5 (B7 (α:=Nat×Nat×(Nat ->Nat)×Net×MF) (fun q=>⟨142,[(1,(.ptr 1 0 0)),(5,(.d (pD q.2.1 0))),(6,(.map 3 0)),(66,(.d (.sl none ((its.map AK.id).map AF)))),(67,(.d (AF ((its.map AK.id).length:Int)))),(68,(.d (AF (q.1:Int))))],[(1,[.blk 39 [.d (.sl none (p.ro.map Cy)),.d (.sl none (p.it.map As))]]),(3,[BL C1 K8 pm]),(40,[.multi q.2.2.2.2]),(50,[BL AF K8 (Fh q.2.2.1 ((its.take q.1).map AK.id))]),(51,[.addr 50 0 (.map (some mv))])]⟩) (fun q=>q.1≤its.length∧CB q.2.1 mv q.2.2.1 pb2 q.2.2.2.1 q.2.2.2.2∧Au q.2.2.2.1=FV ros its q.1) (fun q=>its.length - q.1) ((0,wb,(fun _=>0),⟨[],ros.map I7,none,mh⟩,M2)) (⟨ς _,hR3,X3 ros its⟩) (A1 hF [1,3,40,50,51] Z Z ⟨Z,Z,Z,Z,Z,Z,trivial⟩) ?_)))))));rintro ⟨k,wb,nb,N,M⟩ ⟨hk0,hR,hT⟩;dsimp only at hk0 hR hT⊢;refine AC (AE (J (BR Z Z Z) (AD (AC (Ae Z (fun h69=>?_) (fun h69=>?_))))))
  ·have hk1:k<its.length:=by have h:=h69;rw [ψ] at h;exact Bf h
   refine A3 (AC (A5 (AC ?_)))
   obtain ⟨X,hX⟩:∃X,its.getD k A0=X:=⟨_,Z⟩
   have hXk:its[k]=X:=by rw [←hX,CY A0 hk1]
   have hidk:X.id∉(its.take k).map AK.id:=by rw [←hXk];exact Oz hin hk1
   have hitk:NG its X.id=(X,true):=by have h:=SW hk1 (Oz hin hk1) rfl;rw [hXk] at h;exact h
   have hip:=item_p p X.id hf.b;rw [hits,hitk] at hip;have hk70:((its.map AK.id).map AF)[k]? =some (AF X.id):=by rw [η,η,ω hk1,hXk];rfl
   refine AE (J (Be (k) Z Z (Z) (hk70) Tryz.underlying28 Z BE Z) (J (Cr Z Z Aq Z) (AB Z Z (AD (AC (AE (J (BM Z Z BW Z Z Z) (goMv Z Z ?_))))))));refine J (B2 (hip) Z Z) (goMv Z Z (J (DD Z Z Z) (J (DD Z Z Z) (V (CF 7 Em Z Z Z Z) (V (Bi Z Z Z Z Z Z Z Ck) (AB Z Z (AD (AC ?_))))))));refine AE (J (BM Z Z CC Z Z Z) (J (FZ zl184 pl184 Z Z Z) (aH 79 Z (V (Bz 8 Z Z Z Z Z Z Z) (AB Z Z (AD (AC (YT 13 8 40 (ds:=ndC ⟨X,none,[],none,[],true⟩) hF Z Z Z Z Z Z Z Z Z Z Z (fun _=>rfl) fun bn hbn=>?_))))))));have hNk:N.nd.length=k:=nd_len hT;have hR1:=hR.fresh (m:=Tg ⟨X,none,[],none,[],true⟩) hbn;have hnb:((List.range k).map nb).length=k:=by simp
   have hwb1:BQ M bn (Tg ⟨X,none,[],none,[],true⟩) wb=some (X1 N.nh ((List.range k).map nb).length N.mh N.po.length mv):=by rw [hnb];have h:_=some (X1 N.nh N.nd.length N.mh N.po.length mv):=hR1.w;rw [hNk] at h;exact h
   have hnr:BJ (EZ (BQ M bn (Tg ⟨X,none,[],none,[],true⟩)) wb) N.nh Zk 1 (((List.range k).map nb).map BK):=by have h:BJ _ N.nh Zk 1 ((List.range N.nd.length).map fun j=>BK (nb j)):=(hR1.rs.del hR1.w).1 .n;rw [hNk] at h;rw [ωu];exact h
   refine a_split 5 20 40 Z Z Z hwb1 Z Z Z Z (Ch [[],[],[1],[1,2],[1,2,3],[],[],[6],[6,7],[6,7,8],[],[10],[6,7,8,9,10,11],[],[0,1,2,3,4,6,7,8,9,10,11,12],[0,1,2,3,4,6,7,8,9,10,11,12,14],[0,1,2,3,4,6,7,8,9,10,11,12,14,15],[0,1,2,3,4,5,6,7,8,9,10,11,12,14,15,16],[0,1,2,3,4,5,6,7,8,9,10,11,12,14,15,16,17],[0,1,2,3,4,5,6,7,8,9,10,11,12,13,14,15,16,17,18]] mixed Z (Cq (AJ [5] [] Z Z (fun _=>AG (Ak Z Z)) (AJ [5] [] Z Z (fun _=>AG (Ak Z Z)) (AJ [82] [] Z Z (fun _=>AG (KL Z Z)) (AJ [83] [] Z Z (fun _=>AG (A4 Z ME Z Z Z)) (AJ [84] [20,51] Z Z (fun _=>AG (Wv 51 0 Z Z Z Z Vi Z)) ?_)))))));refine AJ [10] [] Z Z (fun _=>AG (Ak Z Z)) (AJ [5] [] Z Z (fun _=>AG (Ak Z Z)) (AJ [87] [] Z Z (fun _=>AG (KL Z Z)) (AJ [88] [] Z Z (fun _=>AG (A4 Z IX Z Z Z)) (AJ [89] [20] Z Z (fun _=>AG (A9 Z Z Z GG Z)) (AJ [13] [] Z Z (fun _=>AG (Ak Z Z)) (Gv [91] [9] [(92,_)] Z Z (fun _=>Gw (D7 9 V2 Z Z Z Z Z Z Z Z)) (.inr ⟨92,_,Z,Z,Z,Z,Z⟩) Z Z Z Z Z (Gv [90,92] [60,40,9] [(93,_)] Z Z (fun _=>Gw (G0 90 60 40 hnr Z Z (by simp) Z Z Z Z Z (Hz (emb:=BK) ((List.range k).map nb) [bn] Z Z Z Z Z Z Z Z V2 (by simp;omega) Z Z Z Z))) (.inr ⟨93,_,Z,Z,Z,Z,Z⟩) Z Z Z Z Z (AJ [13] [] Z Z (fun _=>AG (Ak Z Z)) ?_))))))));refine AJ [81] [] Z Z (fun _=>AG (KL Z Z)) (AJ [95] [] Z Z (fun _=>AG (A4 Z IX Z Z Z)) (Gv [96,93] [20,60] [] Z Z (fun _=>Gw (Bi Z Z Z Z Z Z Z sz175)) (.inl ⟨Z,Z⟩) Z Z Z Z Z (Gv [85,86] [50] [(97,_)] Z Z (fun _=>Gw (GX (Fh nb ((its.take k).map AK.id)) (X.id) ((.pointer none)) Z Z Z Vw HP VG Z Z)) (.inr ⟨97,_,Z,Z,Z,Z,Z⟩) Z Z Z Z Z (AJ [97] [] Z Z (fun _=>AG (Ct Z Z Z)) (C5 19 Z Z Z (Af 20 Z Z (V (GZ (Fh nb ((its.take k).map AK.id)) (X.id) ((.pointer none)) (pV bn 0) Z Z Z HP Z Z) (AD ⟨Z,?_⟩))))))));refine C9 (AC (Uw 93 60 40 20 0 hF Z Z Z (by simp) (by simp) Z Z (fun _ _=>rfl) (fun _ _=>rfl) Z (fun _ _=>rfl) (fun _ _=>rfl) Z Z (fun _ _=>rfl) (fun _ _=>rfl) (fun _ _=>rfl) (fun _ _=>rfl) fun b1 c1 hb1 hc1=>(YT 5 20 40 (ds:=[hdr (some (b1,c1)) ((List.range k).map nb++ [bn]).length,hdr N.mh N.po.length,K8 (.map (some mv))]) hF Z Z Z Z Z Z Z Z Z Z Z (fun _=>rfl) fun wb2 hwb2=>?_)));have hby:Aw (Fh nb ((its.take k).map AK.id)) X.id (pV bn 0)=Fh (MH nb k bn) ((its.take (k+1)).map AK.id):=by have h:=VP (d:=(0:Int)) (f:=nb) (b:=bn) hidk;rw [show ((its.take k).map AK.id).length=k by rw [ψ,Υ];omega,←hXk,←DQ hk1] at h;rw [←hXk];exact h
   rw [hby];have e1:((List.range N.nd.length).map (fun j=>BK (nb j))++ [BK bn])=((List.range k).map nb++ [bn]).map BK:=by rw [hNk,ωc,ωu];rfl
   have e2:((List.range k).map nb++ [bn]).length=N.nd.length+1:=by simp;omega
   have hR2:=hR1.addN2 (x:=⟨X,none,[],none,[],true⟩) (bn:=bn) Z Z Z Z (E2 _ _ _) (fun j hj e=>by have h1:=hR.n j _ (ω hj);rw [e,hbn] at h1;cases h1) hb1 (cap:=c1) (by have h:=hc1;simp at h;omega) (wb':=wb2) (by rw [e1];exact hwb2);rw [e1,←e2,hNk] at hR2;have hT0:=T_zeroX (x:=X) (nh:=some (b1,c1)) hX hT;have hfk:cv X:=hitx X (by rw [←hXk];exact κ hk1);have hdl:=MI hfk;refine AE (J (BM Z Z CC Z Z Z) (J (B2 (St X (by have h:=hfk.1;omega) (by have h:=hfk.2.1;omega) (by have h:=hfk.2.2;omega)) Z Z) (goMv Z Z (J (DD Z Z Z) (J (DD Z Z Z) (AB Z Z (AB Z Z ?_)))))));refine AD (AC (AE (goMv Z Z (J (CO Z Tryz.underlying215 Z) (goMv Z Z (AD (A5 (B7 (α:=Nat×Net×MF) (fun r=>⟨142,[(1,(.ptr 1 0 0)),(5,(.d (pD wb2 0))),(6,(.map 3 0)),(66,(.d (.sl none ((its.map AK.id).map AF)))),(67,(.d (AF ((its.map AK.id).length:Int)))),(68,(.d (AF (k:Int)))),(13,(.d (pD bn 0))),(104,(.d (.sl none ((AR X).map OQ)))),(105,(.d (AF ((AR X).length:Int)))),(106,(.d (AF (r.1:Int))))],[(1,[.blk 39 [.d (.sl none (p.ro.map Cy)),.d (.sl none (p.it.map As))]]),(3,[BL C1 K8 pm]),(40,[.multi r.2.2]),(50,[BL AF K8 (Fh (MH nb k bn) ((its.take (k+1)).map AK.id))]),(51,[.addr 50 0 (.map (some mv))])]⟩) (fun r=>r.1≤(AR X).length∧CB wb2 mv (MH nb k bn) pb2 r.2.1 r.2.2∧Au r.2.1=EN ros its k r.1) (fun r=>(AR X).length - r.1) ((0,_,_)) (⟨ς _,hR2,hT0⟩) (A1 hF [1,3,40,50,51] Z Z ⟨Z,Z,Z,Z,Z,Z,Z,Z,Z,Z,trivial⟩) ?_))))))));rintro ⟨t,N3,M3⟩ ⟨ht0,hR4,hT3⟩;dsimp only at ht0 hR4 hT3⊢;refine AC (AE (J (BR Z Z Z) (AD (AC (Ae Z (fun h107=>?_) (fun h107=>?_))))))
   ·have ht1:t<(AR X).length:=Bf h107;refine A3 (AC (A5 (AC (AE (J (Be (t) Z Z (Z) (Ah ht1) Tryz.underlying215 Z VS Z) ?_)))));refine J (HE Z Z rw218 Z) (V (CF 10 Y4 Z Z Z Z) (V (Bi Z Z Z Z Z Z Z VS) (AD (AC (AE (goMv Z Z (J (A4 Z Jp Z Z Z) (J (BM Z Z C7 Z Z Z) ?_))))))))
    by_cases hm:((AR X)[t]).1∈ros.map A2.r
    ·refine J (HQ pm ((AR X)[t]).1 (.pointer none) (pV (pb2 ((ros.map A2.r).idxOf ((AR X)[t]).1)) 0) Z Z Z Vv CJ Y7 (hpin2 _ hm) Z) (AB Z Z (AD (AC (AE (goMv Z Z (J (RK Tryz.underlying186 Z Z) (AD (DP Z (Z) ?_))))))));have hnl3:N3.nd.length=k+1:=T_nd hT3;have hpl3:N3.po.length=ros.length:=T_po hT3
     obtain ⟨x,hx⟩:∃x,N3.nd[k]? =some x:=⟨_,ω (by omega)⟩
     have hjl:(ros.map A2.r).idxOf ((AR X)[t]).1<N3.po.length:=by rw [hpl3];have h:=ψp hm;rw [ψ] at h;exact h
     obtain ⟨y,hy⟩:∃y,N3.po[(ros.map A2.r).idxOf ((AR X)[t]).1]? =some y:=⟨_,ω hjl⟩
     have hbd:=cn hitl hitx hk1 hT3 hx hy;have hda:=KD X _ (κ ht1);have hj:=join_c hR4 hx hy ((AR X)[t]).2 ⟨by omega,by omega⟩ hbd.1 hbd.2.1 hbd.2.2.1 hbd.2.2.2;rw [Fq] at hj;refine AE (goMv Z Z (goMv Z Z (J (A4 Z WP Z Z Z) (J (A9 Z Z Z Ke Z) ?_))));refine CP (Ux hj Z [40] ⟨Z,trivial⟩ Z Z Z Z (fun r H' ⟨e1,N',M',e2,_⟩=>by subst e1 e2;exact ⟨Z,Z,Z⟩) Z) Z ?_;rintro _ ⟨r,H',⟨rfl,N4,M4,rfl,hR5,hnh4,hmh4,⟨x',hx4,ex4⟩,y',hy4,ey4⟩,rfl⟩;refine AD (AE (J (BA Z Z (Ω _ (by omega)) Z) (goMv Z Z (AD ?_))));exact ⟨(t+1,N4,M4),⟨by show t+1≤_;omega,hR5,T_stepX hX hroN hk1 ht1 hT3 Z hm hx hy hx4 ex4 hy4 ey4⟩,by show (AR X).length - (t+1)<(AR X).length - t;omega,A1 hF [1,3,40,50,51] Z (Z) ⟨Z,Z,Z,Z,Z,Z,Z,Z,Z,Z,trivial⟩⟩
    ·refine J (HQ pm ((AR X)[t]).1 (.pointer none) (.pointer none) Z Z Z Vv CJ Y7 (hpout _ hm) Z) (AB Z Z (AD (AC (AE ?_))));refine goMv Z Z (J (RK Tryz.underlying186 Z Z) (AD (D9 Z (Z) (A3 (AE (J (BA Z Z (Ω _ (by omega)) Z) (goMv Z Z (AD ?_))))))));exact ⟨(t+1,N3,M3),⟨by show t+1≤_;omega,hR4,by show Au N3=EN ros its k (t+1);rw [T_skipX hX ht1 hm];exact hT3⟩,by show (AR X).length - (t+1)<(AR X).length - t;omega,A1 hF [1,3,40,50,51] Z (Z) ⟨Z,Z,Z,Z,Z,Z,Z,Z,Z,Z,trivial⟩⟩
   ·refine BF ?_;have hte:t=(AR X).length:=by have h:=h107;omega
    have hT5:Au N3=FV ros its (k+1):=by rw [←T_lastX hX hk1,←hte];exact hT3
    refine AE (J (BA Z Z (Ω _ (by omega)) Z) (goMv Z Z (AD ?_)));exact ⟨(k+1,wb2,MH nb k bn,N3,M3),⟨by show k+1≤_;omega,hR4,hT5⟩,by show its.length - (k+1)<its.length - k;omega,A1 hF [1,3,40,50,51] Z (Z) ⟨Z,Z,Z,Z,Z,Z,trivial⟩⟩
  ·refine BF (AC (AC ?_));have hke:k=its.length:=by have h:=h69;rw [ψ] at h;omega
   subst hke;rw [ωs];have hwbf:=hR.w;have hpzf:N.mh=none ->N.po.length=0:=fun h=>by have h1:BJ M N.mh V7 1 ((List.range N.po.length).map fun j=>BK (pb2 j)):=hR.rs.1 .m;have h2:=T8 h1 h;rw [ωg] at h2;exact h2
   have hids:=ids_of hT;have hNl:N.po.length=ros.length:=po_len hT;refine AE ?_;refine goMv Z Z (J (DO Z Z) (J (CS Z Ju Z Z Z) (J (Dv (f:=40) Z Z (hwbf) Z Vj Z) (J (VC hpzf Z Tryz.underlying177 Z) (goMv Z Z (AD (A5 (B7 (α:=Nat×Net×MF) (fun r=>⟨142,[(5,(.d (pD wb 0))),(126,(.d (hdr N.mh N.po.length))),(127,(.d (AF (N.po.length:Int)))),(128,(.d (AF (r.1:Int))))],[(40,[.multi r.2.2]),(50,[BL AF K8 (Fh nb (its.map AK.id))]),(51,[.addr 50 0 (.map (some mv))])]⟩) (fun r=>r.1≤N.po.length∧CB wb mv nb pb2 r.2.1 r.2.2∧r.2.1.nd=N.nd∧r.2.1.mh=N.mh∧r.2.1.po=(N.po.take r.1).map Ks++N.po.drop r.1) (fun r=>N.po.length - r.1) ((0,N,M)) (⟨ς _,hR,Z,Z,Z⟩) (A1 hF [40,50,51] Z Z ⟨Z,Z,Z,Z,trivial⟩) ?_))))))));rintro ⟨j,N5,M5⟩ ⟨hj0,hR5,hnd5,hmh5,hpo5⟩;dsimp only at hj0 hR5 hnd5 hmh5 hpo5⊢;refine AC (AE (J (BR Z Z Z) (AD (AC (Ae Z (fun h129=>?_) (fun h129=>?_))))))
   ·have hj1:j<N.po.length:=Bf h129;refine A3 (AC (A5 (AC ?_)));have hl5:N5.po.length=N.po.length:=by rw [hpo5];simp;omega
    have hpr5:BJ M5 N.mh V7 1 ((List.range N.po.length).map fun j=>BK (pb2 j)):=by have h:BJ M5 N5.mh V7 1 ((List.range N5.po.length).map fun j=>BK (pb2 j)):=hR5.rs.1 .m;rw [hl5,hmh5] at h;exact h
    obtain ⟨rb,rc,hre⟩:=Ti hpr5 (j:=j) (by rw [ωg];exact hj1);have hrow:=Qk hpr5 hre
    obtain ⟨y,hy⟩:∃y,N5.po[j]? =some y:=⟨_,ω (by omega)⟩
    obtain ⟨hyb,hyq⟩:=hR5.pp j y hy;have hqz:=T8 hyq;refine AE (J (Uy hre (j) Z Z Z hj1 Tryz.underlying177 Yu Z) (J (Zcs (f:=40) (e:=j) (off:=0) Z (by omega) Z (hrow) ((by rw [η,ψt hj1];rfl)) Z EX Z) ?_));refine AB Z Z (AD (AE (goMv Z Z ?_)));refine goMv Z Z (J (DO Z Z) (J (CS Z Gn Z Z Z) (J (Dv (f:=40) Z Z (hyb) Z GG Z) (J (VC hqz Z Tryz.underlying175 Z) (J (DO Z Z) (J (CS Z Jq Z Z Z) (V (OX (f:=40) Z Z Z Z (hyb) ((by show _<10;omega)) Z BE) (AD ?_))))))));have hR6:=hR5.setPo (y':=Ks y) hy Z Z;refine AE (J (BA Z Z (Ω _ (by omega)) Z) (goMv Z Z (AD ?_)));exact ⟨(j+1,{N5 with po:=N5.po.set j (Ks y)},_),⟨by show j+1≤_;omega,hR6,hnd5,hmh5,bU hj1 hpo5 hy⟩,by show N.po.length - (j+1)<N.po.length - j;omega,A1 hF [40,50,51] Z (Z) ⟨Z,Z,Z,Z,trivial⟩⟩
   ·refine BF (AC ?_);have hje:j=N.po.length:=by have h:=h129;omega
    subst hje;rw [ωs,List.drop_length,ωk] at hpo5;have hids5:BT N5=its.map AK.id:=by unfold BT at hids⊢;rw [hnd5];exact hids
    refine AE (goMv Z Z (AB Z Z (AB Z Z (AD (A8 ?_)))));exact ⟨_,[40,50,51],_,A6 Z,Z,Z,wb,mv,nb,pb2,N5,M5,some (List.range (Fh nb (its.map AK.id)).length,(Fh nb (its.map AK.id)).length),Z,by rw [hids5];rfl,hR5,by rw [net_fin hits hros];exact aP hT hnd5 hpo5⟩
end Go.Proofs.YteifpcnphnhaoaaGreat
namespace Go.Proofs.YteifpcnphnhaoaaGreat
open Go.RowKit
def GW (ds:List (List (AP×Int))) (on:Nat ->Bool) (r:AP):Int:=((List.range ds.length).map fun i=>if on i=true then C6 (ds.getD i []) r else 0).sum
def miS (on:Nat ->Bool) (q:List Nat):Nat:=q.findIdx fun i=>!on i
def poS (ds:List (List (AP×Int))) (on:Nat ->Bool) (x:A2):Po:=⟨x.r,x.n,GW ds on x.r,none,negQ ds x.r,miS on (negQ ds x.r)⟩
def Qi (rs:List AP) (its:List AK) (on:Nat ->Bool) (i:Nat):Nd:={aT rs ((its.map AR).take i) (its.getD i A0) (AR (its.getD i A0)) with on:=on i}
def netS (ros:List A2) (its:List AK) (on:Nat ->Bool):Net:=⟨(List.range its.length).map (Qi (ros.map A2.r) its on),ros.map (poS (its.map AR) on),none,none⟩
def Ac (on:Nat ->Bool) (i:Nat):Nat ->Bool:=fun j=>if j=i then false else on j
theorem WA (q:List Nat):miS (fun _=>true) q=q.length:=by
 unfold miS;exact List.findIdx_eq_length.2 fun x _=>rfl
theorem Yx (ds:List (List (AP×Int))) (r:AP):GW ds (fun _=>true) r=(ds.map fun D=>C6 D r).sum:=by
 unfold GW
 congr 1
 apply χc (by simp)
 intro i h1 h2;simp only [ωd,ψs,if_true];rw [CY [] (by simpa using h2)]
theorem aQ (p:Prb):aR p=netS (Co p) (ordP p) fun _=>true:=by
 unfold aR netS FV H8;dsimp only;rw [ωu]
 congr 1
 refine ωj fun x _=>?_;have ht:((ordP p).map AR).take (ordP p).length=(ordP p).map AR:=Θ (by simp);show Ks (UP _ x)=_;unfold Ks UP poS;rw [ht,Yx,WA]
theorem QW {ros:List A2} {f g:A2 ->Po} {j:Nat} (hj:j<ros.length) {y:Po} (hn:(ros.map A2.r).Nodup) (h1:y=g ros[j]) (h2:∀x∈ros,x.r≠ros[j].r ->f x=g x):(ros.map f).set j y=ros.map g:=by
 refine χq fun i=>?_;rw [χo]
 by_cases e:j=i
 ·subst e;rw [θ Z,θ (by simpa using hj),η,ω hj,h1];rfl
 ·rw [ϑ e,η,η]
  cases hi:ros[i]? with
  | none=>rfl
  | some z=>
   have hil:=χ.1 hi;show some _=some _
   rw [h2 z (ζ hi) fun e2=>e (by
    have h3:(ros.map A2.r)[j]'(by simpa using hj)=(ros.map A2.r)[i]'(by simpa using hil.1):=by
     rw [ωd,ωd,hil.2,e2]
    exact (List.getElem_inj hn).1 h3)]
theorem MB {ros:List A2} {r:AP} (hm:r∈ros.map A2.r):∃hj:(ros.map A2.r).idxOf r<ros.length,ros[(ros.map A2.r).idxOf r].r=r:=by
 have h:=ψp hm;have h1:=φe h;rw [ωd] at h1;exact ⟨by simpa using h,h1⟩
theorem Yz {ros:List A2} (hn:(ros.map A2.r).Nodup) (f:A2 ->Po):∀(D:List (AP×Int)),(D.map Prod.fst).Nodup ->(Ug (ros.map A2.r) D).foldl L9 (ros.map f)=ros.map fun x=>{f x with sum:=(f x).sum - C6 D x.r}:=by
 intro D
 induction D using YU with
 | h0=>
  intro _;show ros.map f=_;refine ωj fun x _=>?_;show f x={f x with sum:=(f x).sum - 0}
  rw [Int.sub_zero]
 | h1 D d ih=>
  intro hD;rw [ωc,χn] at hD;have hdn:d.1∉D.map Prod.fst:=fun h=>hD.2.2 _ h _ (List.mem_singleton_self _) rfl;have ih:=ih hD.1
  by_cases hm:d.1∈ros.map A2.r
  ·rw [Uf hm,List.foldl_append,ih];obtain ⟨hj,hr⟩:=MB hm;show L9 _ ((ros.map A2.r).idxOf d.1,d.2)=_;rw [VX (y:=(fun x=>{f x with sum:=(f x).sum - C6 D x.r}) ros[(ros.map A2.r).idxOf d.1]) (by rw [η,ω hj];rfl)];refine QW hj hn ?_ fun x hx hne=>?_
   ·dsimp only;have h1:C6 (D++ [d]) ros[(ros.map A2.r).idxOf d.1].r=d.2:=by rw [hr];exact D2 hdn
    have h2:C6 D ros[(ros.map A2.r).idxOf d.1].r=0:=by rw [hr];exact GJ hdn
    rw [h1,h2,Int.sub_zero]
   ·rw [hr] at hne;have:C6 (D++ [d]) x.r=C6 D x.r:=DI hne;rw [this]
  ·rw [QY hm,ih];refine ωj fun x hx=>?_;have:C6 (D++ [d]) x.r=C6 D x.r:=DI fun e=>hm (e▸ϱ.2 ⟨x,hx,Z⟩);rw [this]
theorem a8 {ros:List A2} (hn:(ros.map A2.r).Nodup) (f:A2 ->Po) (ds:List (List (AP×Int))):∀(D:List (AP×Int)),(D.map Prod.fst).Nodup ->(XQ (ros.map A2.r) ds D).foldl ON (ros.map f)=ros.map fun x=>{f x with mi:=if C6 D x.r<0 then min (f x).mi (negQ ds x.r).length else (f x).mi}:=by
 intro D
 induction D using YU with
 | h0=>
  intro _;show ros.map f=_;refine ωj fun x _=>?_;have h0:C6 [] x.r=0:=rfl;rw [h0,ϑ (by omega)]
 | h1 D d ih=>
  intro hD;rw [ωc,χn] at hD;have hdn:d.1∉D.map Prod.fst:=fun h=>hD.2.2 _ h _ (List.mem_singleton_self _) rfl;have ih:=ih hD.1
  by_cases hm:d.1∈ros.map A2.r∧d.2<0
  ·rw [Zn hm.1 hm.2,List.foldl_append,ih];obtain ⟨hj,hr⟩:=MB hm.1;show ON _ ((ros.map A2.r).idxOf d.1,(negQ ds d.1).length)=_;rw [Vz (y:=(fun x=>{f x with mi:=if C6 D x.r<0 then min (f x).mi (negQ ds x.r).length else (f x).mi}) ros[(ros.map A2.r).idxOf d.1]) (by rw [η,ω hj];rfl)];refine QW hj hn ?_ fun x hx hne=>?_
   ·dsimp only;have h1:C6 (D++ [d]) ros[(ros.map A2.r).idxOf d.1].r=d.2:=by rw [hr];exact D2 hdn
    have h2:C6 D ros[(ros.map A2.r).idxOf d.1].r=0:=by rw [hr];exact GJ hdn
    rw [h1,h2,ϑ (by omega),θ hm.2,hr]
   ·rw [hr] at hne;have:C6 (D++ [d]) x.r=C6 D x.r:=DI hne;rw [this]
  ·rw [Pw hm,ih];refine ωj fun x hx=>?_
   by_cases e:x.r=d.1
   ·have hin:d.1∈ros.map A2.r:=e▸ϱ.2 ⟨x,hx,Z⟩;have h1:C6 (D++ [d]) x.r=d.2:=by rw [e];exact D2 hdn
    have h2:C6 D x.r=0:=by rw [e];exact GJ hdn
    rw [h1,h2,ϑ (by omega),ϑ (fun h=>hm ⟨hin,h⟩)]
   ·have:C6 (D++ [d]) x.r=C6 D x.r:=DI e;rw [this]
theorem Zct {on:Nat ->Bool} {i j:Nat} (h:j≠i):Ac on i j=on j:=ϑ h
theorem GC {on:Nat ->Bool} {i:Nat}:Ac on i i=false:=θ rfl
theorem Jl {α:Type} (p:α ->Bool) (l m:List α):(l++m).findIdx p=if l.findIdx p<l.length then l.findIdx p else m.findIdx p+l.length:=List.findIdx_append
theorem JB {α:Type} {p q:α ->Bool}:∀{l:List α},(∀x∈l,p x=q x) ->l.findIdx p=l.findIdx q
 | [],_=>rfl
 | a::l,h=>by
  rw [List.findIdx_cons,List.findIdx_cons,h a (ωo ..),JB fun x hx=>h x (ωn _ hx)]
theorem IM {n i:Nat} (h:i<n):∃B:List Nat,List.range n=List.range i++i::B∧∀j∈B,i<j:=by
 refine ⟨List.range' (i+1) (n - i - 1),?_,fun j hj=>?_⟩
 ·rw [List.range_eq_range',List.range_eq_range'];have h1:n=i+(1+(n - i - 1)):=by omega
  conv=>lhs;rw [h1]
  rw [←List.range'_append_1,ψq,Nat.add_comm 1 (n - i - 1),List.range'_succ]
 ·rw [List.mem_range'_1] at hj;omega
theorem SA {ds:List (List (AP×Int))} {i:Nat} (h:i<ds.length) (r:AP):∃B:List Nat,negQ ds r=negQ (ds.take i) r++((if C6 (ds.getD i []) r<0 then [i] else [])++B)∧(∀j∈negQ (ds.take i) r,j<i)∧∀j∈B,i<j:=by
 obtain ⟨B,h1,h2⟩:=IM h;refine ⟨B.filter fun i=>decide (C6 (ds.getD i []) r<0),?_,fun j hj=>?_,fun j hj=>h2 j (ωb.1 hj).1⟩
 ·unfold negQ;rw [h1,ψa,φh,show (ds.take i).length=i by rw [Υ];omega]
  congr 1
  ·refine χp fun j hj=>?_;have hj':=Ξ.1 hj;rw [ϖ,ϖ,ψf hj']
  ·by_cases h0:C6 (ds.getD i []) r<0
   ·rw [θ (ωi h0),θ h0];rfl
   ·rw [ϑ (by simpa using h0),ϑ h0];rfl
 ·unfold negQ at hj;have:=Ξ.1 (ωb.1 hj).1;rw [Υ] at this;omega
theorem miS_off {ds:List (List (AP×Int))} {i:Nat} (h:i<ds.length) (on:Nat ->Bool) (r:AP):miS (Ac on i) (negQ ds r)=if C6 (ds.getD i []) r<0 then min (miS on (negQ ds r)) (negQ (ds.take i) r).length else miS on (negQ ds r):=by
 obtain ⟨B,h1,h2,h3⟩:=SA h r;rw [h1]
 generalize negQ (ds.take i) r=A at h2⊢
 have hA:A.findIdx (fun j=>!Ac on i j)=A.findIdx fun j=>!on j:=JB fun j hj=>by
  rw [Zct (by have:=h2 j hj;omega)]
 have hB:B.findIdx (fun j=>!Ac on i j)=B.findIdx fun j=>!on j:=JB fun j hj=>by
  rw [Zct (by have:=h3 j hj;omega)]
 unfold miS
 by_cases h0:C6 (ds.getD i []) r<0
 ·rw [θ h0,θ h0,Jl (fun j=>!Ac on i j) A,Jl (fun j=>!on j) A,hA]
  split
  ·omega
  ·have:(([i]:List Nat)++B).findIdx (fun j=>!Ac on i j)=0:=by
    rw [List.singleton_append,List.findIdx_cons];rw [GC];rfl
   rw [this];omega
 ·rw [ϑ h0,ϑ h0,List.nil_append,Jl (fun j=>!Ac on i j) A,Jl (fun j=>!on j) A,hA,hB]
theorem Yw {ds:List (List (AP×Int))} {i:Nat} (h:i<ds.length) {on:Nat ->Bool} (ho:on i=true) (r:AP):GW ds (Ac on i) r=GW ds on r - C6 (ds.getD i []) r:=by
 obtain ⟨B,h1,h3⟩:=IM h;unfold GW;rw [h1,ωc,ωc,ωm,ωm,χa,χa,φb,φb]
 have e1:(List.range i).map (fun j=>if Ac on i j=true then C6 (ds.getD j []) r else 0)=(List.range i).map fun j=>if on j=true then C6 (ds.getD j []) r else 0:=ωj fun j hj=>by
  rw [Zct (by have:=Ξ.1 hj;omega)]
 have e2:B.map (fun j=>if Ac on i j=true then C6 (ds.getD j []) r else 0)=B.map fun j=>if on j=true then C6 (ds.getD j []) r else 0:=ωj fun j hj=>by
  rw [Zct (by have:=h3 j hj;omega)]
 have e3:(if Ac on i i=true then C6 (ds.getD i []) r else 0)=0:=by rw [GC];rfl
 rw [e1,e2,e3,θ ho];omega
theorem VW:∀(l:List (Nat×Int)) (po:List Po),(l.foldl L9 po).map CR=l.foldl L9 (po.map CR)
 | [],_=>rfl
 | e::l,po=>by
  rw [List.foldl_cons,List.foldl_cons,VW l]
  congr 1
  unfold L9;rw [η]
  cases po[e.1]? with
  | none=>rfl
  | some y=>show (po.set e.1 _).map CR=_;rw [List.map_set];rfl
theorem Vy:∀(l:List (Nat×Nat)) (po:List Po),(l.foldl ON po).map CR=l.foldl ON (po.map CR)
 | [],_=>rfl
 | e::l,po=>by
  rw [List.foldl_cons,List.foldl_cons,Vy l]
  congr 1
  unfold ON;rw [η]
  cases po[e.1]? with
  | none=>rfl
  | some y=>show (po.set e.1 _).map CR=_;rw [List.map_set];rfl
theorem rm_S {ros:List A2} {its:List AK} (hn:(ros.map A2.r).Nodup) {on:Nat ->Bool} {N:Net} (h:Au N=netS ros its on) {i:Nat} (hi:i<its.length) (ho:on i=true) {x:Nd} (hx:N.nd[i]? =some x):Au (rmN N i x)=netS ros its (Ac on i):=by
 have hnd:N.nd.map EC=(List.range its.length).map (Qi (ros.map A2.r) its on):=Γ Net.nd h;have hpo:N.po.map CR=ros.map (poS (its.map AR) on):=Γ Net.po h
 have hxe:EC x=Qi (ros.map A2.r) its on i:=by
  have h1:(N.nd.map EC)[i]? =some (EC x):=by rw [η,hx];rfl
  rw [hnd,η,ψt hi] at h1;exact (Option.some.inj h1).symm
 have hef:x.ef=Ug (ros.map A2.r) (AR (its.getD i A0)):=Γ Nd.ef hxe;have hpl:x.pl=XQ (ros.map A2.r) ((its.map AR).take i) (AR (its.getD i A0)):=Γ Nd.pl hxe;have hdi:i<(its.map AR).length:=by simpa using hi
 have hgi:(its.map AR).getD i []=AR (its.getD i A0):=by rw [CY [] hdi,CY A0 hi,ωd]
 unfold Au rmN netS;dsimp only
 congr 1
 ·rw [List.map_set,hnd]
  have:EC (EM x)=Qi (ros.map A2.r) its (Ac on i) i:=by
   have h1:EC (EM x)=EM (EC x):=rfl;rw [h1,hxe];unfold Qi EM Ac;rw [θ rfl]
  rw [this];refine χq fun j=>?_;rw [χo]
  by_cases e:i=j
  ·subst e;rw [θ Z,θ (by simpa using hi),η,ψt hi];rfl
  ·rw [ϑ e,η,η]
   cases hj:(List.range its.length)[j]? with
   | none=>rfl
   | some z=>
    have hz:=χ.1 hj;have:z=j:=by have:=hz.2;simp at this;exact this.symm
    subst this;show some _=some _;unfold Qi Ac;rw [ϑ (fun h=>e h.symm)]
 ·rw [Vy,VW,hpo,hef,hpl,Yz hn _ _ (DC _),a8 hn _ _ _ (DC _)];refine ωj fun z _=>?_;unfold poS;dsimp only;rw [Yw hdi ho,miS_off hdi,hgi]
theorem FJ (N:Net) (i:Nat):(Au N).nd.getD i Bl=EC (N.nd.getD i Bl):=by
 show (N.nd.map EC).getD i Bl=_;rw [ϖ,ϖ,η]
 cases N.nd[i]?<;>rfl
theorem Hq (N:Net) (j:Nat):(Au N).po.getD j CV=CR (N.po.getD j CV):=by
 show (N.po.map CR).getD j CV=_;rw [ϖ,ϖ,η]
 cases N.po[j]?<;>rfl
theorem Gq (N:Net):BT (Au N)=BT N:=by
 unfold BT Au;rw [ωu];rfl
theorem Xk (N:Net) (x:Nd):Gz (Au N) (EC x)=Gz N x:=by
 have h1:badP (Au N)=badP N:=funext fun e=>by unfold badP;rw [Hq];rfl
 have h2:∀e,Ud (Au N) (EC x) e=Ud N x e:=fun e=>by unfold Ud;rw [Hq,FJ];rfl
 have h3:Cp (Au N)=Cp N:=funext fun e=>by unfold Cp;rw [FJ,Gq];rfl
 unfold Gz;rw [h1,h3];show (match x.pl.find? (badP N) with | some e=>_ | none=>match x.it.af.find? (Cp N) with | some id=>_ | none=>_)=_
 cases x.pl.find? (badP N) with
 | some e=>show some (Ud (Au N) (EC x) e)=some (Ud N x e);rw [h2]
 | none=>rfl
theorem Rz (N:Net):FD (Au N)=FD N:=by
 have h1:(Au N).nd.findSome? (Tf (Au N))=N.nd.findSome? (Tf N):=by
  show (N.nd.map EC).findSome? _=_;rw [List.findSome?_map]
  congr 1
  funext x
  show Tf (Au N) (EC x)=Tf N x;unfold Tf;rw [Xk];rfl
 have h2:(Au N).po.findSome? (XP (Au N))=N.po.findSome? (XP N):=by
  show (N.po.map CR).findSome? _=_;rw [List.findSome?_map]
  congr 1
  funext y
  show XP (Au N) (CR y)=XP N y;have h3:onN (Au N)=onN N:=funext fun i=>by unfold onN;rw [FJ];rfl
  have h4:∀i,((Au N).nd.getD i Bl).it.id=(N.nd.getD i Bl).it.id:=fun i=>by rw [FJ];rfl
  unfold XP;rw [h3];show (if Py y y.sum=true then (y.q.reverse.find? (onN N)).map fun i=>(⟨((Au N).nd.getD i Bl).it.id,0,y.r,-1⟩:Nw) else none)=_;rw [show (fun i=>(⟨((Au N).nd.getD i Bl).it.id,0,y.r,-1⟩:Nw))=fun i=>⟨(N.nd.getD i Bl).it.id,0,y.r,-1⟩ from funext fun i=>by rw [h4]]
 unfold FD;rw [h1,h2]
theorem bJ {N:Net} {x:Nd} {e:Nw} (h:Gz N x=some e):e.id=x.it.id:=by
 unfold Gz at h
 split at h
 ·injection h with h;subst h;rfl
 ·split at h
  ·injection h with h;subst h;rfl
  ·cases h
theorem Vu {N:Net} {e:Nw} (h:FD N=some e):∃(i:Nat) (x:Nd),N.nd[i]? =some x∧x.on=true∧e.id=x.it.id:=by
 unfold FD at h
 split at h
 ·rename_i e' h1
  injection h with h;subst h
  obtain ⟨x,hx,h2⟩:=List.exists_of_findSome?_eq_some h1;obtain ⟨i,hi,e1⟩:=ωz hx;unfold Tf at h2
  split at h2
  ·rename_i ho
   exact ⟨i,x,by rw [ω hi,e1],ho,bJ h2⟩
  ·cases h2
 ·obtain ⟨y,hy,h2⟩:=List.exists_of_findSome?_eq_some h;unfold XP at h2
  split at h2
  ·cases hf:y.q.reverse.find? (onN N) with
   | none=>rw [hf] at h2;cases h2
   | some i=>
    rw [hf] at h2;injection h2 with h2;subst h2
    have ho:=List.find?_some hf;unfold onN at ho
    by_cases hi:i<N.nd.length
    ·rw [CY Bl hi] at ho;exact ⟨i,N.nd[i],ω hi,ho,by show (N.nd.getD i Bl).it.id=_;rw [CY Bl hi]⟩
    ·rw [ϖ,ωw (by omega)] at ho
     cases ho
  ·cases h2
structure SmO (ros:List A2) (its:List AK):Prop where
 l:its.length≤30
 x:∀x∈its,cv x
 i:(its.map AK.id).Nodup
 a:∀x∈its,∀id∈x.af,id∈its.map AK.id
 r:(ros.map A2.r).Nodup
 n:∀x∈ros,-4000000000000000≤x.n∧x.n≤4000000000000000
 o:ros.length≤100
theorem S_nd {ros:List A2} {its:List AK} {on:Nat ->Bool} {x:Nd} (h:x∈(netS ros its on).nd):∃i,i<its.length∧x=Qi (ros.map A2.r) its on i:=by
 obtain ⟨i,hi,e⟩:=ϱ.1 h;exact ⟨i,Ξ.1 hi,e.symm⟩
theorem T9 (ros:List A2) (its:List AK) (on:Nat ->Bool):BT (netS ros its on)=its.map AK.id:=by
 unfold BT netS;rw [ωu]
 apply χc (by simp)
 intro i a b;simp only [ωd,ψs,Function.comp];show (its.getD i A0).id=_;rw [CY A0 (by simpa using b)]
theorem efK_mem {rs:List AP} {D:List (AP×Int)} {e:Nat×Int} (h:e∈Ug rs D):∃d∈D,e.2=d.2:=by
 obtain ⟨d,hd,rfl⟩:=ϱ.1 h;exact ⟨d,(ωb.1 hd).1,Z⟩
theorem plK_mem {rs:List AP} {ds:List (List (AP×Int))} {D:List (AP×Int)} {e:Nat×Nat} (h:e∈XQ rs ds D):∃d∈D,d.1∈rs∧d.2<0∧e=(rs.idxOf d.1,(negQ ds d.1).length):=by
 obtain ⟨d,hd,rfl⟩:=ϱ.1 h;have h1:=ωb.1 hd;have h2:=h1.2;simp only [ωa,ωx] at h2;exact ⟨d,h1.1,h2.1,h2.2,Z⟩
theorem S_sum {ros:List A2} {its:List AK} (h:SmO ros its) (on:Nat ->Bool) (r:AP): -30000000000000000≤GW (its.map AR) on r∧GW (its.map AR) on r≤30000000000000000:=by
 have key:∀l:List Nat,-(l.length*1000000000000000)≤(l.map fun i=>if on i=true then C6 ((its.map AR).getD i []) r else 0).sum∧(l.map fun i=>if on i=true then C6 ((its.map AR).getD i []) r else 0).sum≤l.length*1000000000000000:=by
  intro l
  induction l with
  | nil=>simp
  | cons i l ih=>
   simp only [ωm,φb,ψo]
   have hb:Qm ((its.map AR).getD i []):=by
    rcases getD_mem (l:=its.map AR) (d:=[]) i with hm | hm
    ·obtain ⟨x,_,e⟩:=ϱ.1 hm;rw [←e];exact KD x
    ·rw [hm];intro x hx;cases hx
   have h1:=W3 hb r
   split<;>omega
 have h1:=key (List.range (its.map AR).length);have h2:=h.l;unfold GW;rw [ωg,ψ] at h1;rw [ψ] at*;omega
theorem S_w {ros:List A2} {its:List AK} (h:SmO ros its) (on:Nat ->Bool):NetW (netS ros its on):=by
 have hl:=h.l
 have hmi:∀y∈(netS ros its on).po,y.q.length≤30∧y.mi≤30∧∃x∈ros,y=poS (its.map AR) on x:=fun y hy=>by
  obtain ⟨x,hx,e⟩:=ϱ.1 hy;subst e;have h1:=J7 (its.map AR) x.r;rw [ψ] at h1;have h2:miS on (negQ (its.map AR) x.r)≤(negQ (its.map AR) x.r).length:=List.findIdx_le_length;exact ⟨by show (negQ _ _).length≤_;omega,by show miS _ _≤_;omega,x,hx,Z⟩
 refine ⟨by rw [T9];exact h.i,fun x hx id hid=>?_,fun x hx=>?_,fun x hx e he=>?_,fun x hx e he=>?_,fun y hy=>?_,fun y hy=>?_,?_,fun y hy=>?_⟩
 ·obtain ⟨i,hi,rfl⟩:=S_nd hx;rw [T9];refine h.a (its.getD i A0) (by rw [CY A0 hi];exact κ hi) id hid
 ·obtain ⟨i,hi,rfl⟩:=S_nd hx;have hm:its.getD i A0∈its:=by rw [CY A0 hi];exact κ hi
  have h1:=MI (h.x _ hm);have h2:=WR (ros.map A2.r) (AR (its.getD i A0));have h3:=Va (ros.map A2.r) ((its.map AR).take i) (AR (its.getD i A0));have h4:=(h.x _ hm).2.2;exact ⟨by show (Ug _ _).length≤_;omega,by show (XQ _ _ _).length≤_;omega,by show (its.getD i A0).af.length≤_;omega⟩
 ·obtain ⟨i,hi,rfl⟩:=S_nd hx;obtain ⟨d,hd,e1⟩:=efK_mem he;have:=KD _ d hd;rw [e1];omega
 ·obtain ⟨i,hi,rfl⟩:=S_nd hx;obtain ⟨d,hd,hm,hneg,rfl⟩:=plK_mem he;obtain ⟨hj,hr⟩:=MB hm;have hdi:i<(its.map AR).length:=by simpa using hi
  have hgi:(its.map AR).getD i []=AR (its.getD i A0):=by rw [CY [] hdi,CY A0 hi,ωd]
  have hamt:C6 ((its.map AR).getD i []) d.1=d.2:=by rw [hgi];exact DJ (DC _) hd
  obtain ⟨B,c1,c2,c3⟩:=SA hdi d.1
  have hq:((netS ros its on).po.getD ((ros.map A2.r).idxOf d.1) CV).q=negQ (its.map AR) d.1:=by
   show ((ros.map _).getD _ CV).q=_;rw [CY CV (by simpa using hj),ωd];show negQ _ (ros[(ros.map A2.r).idxOf d.1]).r=_;rw [hr]
  rw [hq];dsimp only;have hlen:=Γ List.length c1;rw [θ (by rw [hamt];exact hneg),Δ,Δ,Φ] at hlen;have h1:=J7 ((its.map AR).take i) d.1;rw [Υ,ψ] at h1;omega
 ·have:=hmi y hy;omega
 ·obtain ⟨_,_,x,hx,rfl⟩:=hmi y hy;have:=h.n x hx;show -1000000000000000000≤x.n∧x.n≤1000000000000000000;omega
 ·have h1:(netS ros its on).nd.length=its.length:=by unfold netS;simp
  have h2:(netS ros its on).po.length=ros.length:=by unfold netS;simp
  have:=h.o;omega
 ·have:=hmi y hy;omega
theorem W_ers {N:Net} (h:NetW (Au N)):NetW N:=by
 have hn:∀x∈N.nd,EC x∈(Au N).nd:=fun x hx=>ϱ.2 ⟨x,hx,Z⟩;have hp:∀y∈N.po,CR y∈(Au N).po:=fun y hy=>ϱ.2 ⟨y,hy,Z⟩;refine ⟨by rw [←Gq];exact h.i,fun x hx id hid=>by rw [←Gq];exact h.a _ (hn x hx) id hid,fun x hx=>h.l (EC x) (hn x hx),fun x hx=>h.e (EC x) (hn x hx),fun x hx e he=>?_,fun y hy=>h.m (CR y) (hp y hy),fun y hy=>h.rm (CR y) (hp y hy),?_,fun y hy=>h.ql (CR y) (hp y hy)⟩
 ·have:=h.p _ (hn x hx) e he;rw [Hq] at this;exact this
 ·have:=h.n;have h1:(Au N).nd.length=N.nd.length:=by unfold Au;simp
  have h2:(Au N).po.length=N.po.length:=by unfold Au;simp
  omega
theorem S_sumB {N:Net} {ros:List A2} {its:List AK} (h:SmO ros its) {on:Nat ->Bool} (hN:Au N=netS ros its on):RD N.po 1000000000000000000:=fun y hy=>by
 have h1:CR y∈(Au N).po:=ϱ.2 ⟨y,hy,Z⟩;rw [hN] at h1;obtain ⟨x,hx,e⟩:=ϱ.1 h1;have h2:=S_sum h on x.r;have h3:y.sum=GW (its.map AR) on x.r:=Γ Po.sum e.symm;rw [h3];omega
end Go.Proofs.YteifpcnphnhaoaaGreat
