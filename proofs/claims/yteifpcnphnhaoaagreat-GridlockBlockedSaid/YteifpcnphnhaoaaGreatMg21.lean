import Derived.Test.YteifpcnphnhaoaaGreatMg20
import Derived.Shelf.SlSortCmp.Whole1
namespace Go.Proofs.YteifpcnphnhaoaaGreat
open Go.RowKit Go.Shelf
open Go.Sort (putRow Holds PermIn SortedIn SWO mapBlock onCells putCells)
variable {P:Program}
section
variable {ρr:Ren} {τ:Type}
theorem Zb4 {α:Type} [Inhabited α] {enc:α ->Value} {w:World} {b off m:Nat} {dk:Array α} {os:Array Obj} {b':Nat} (hne:b'≠b) (hlt:b'<w.heap.size):(sortWorld enc w b off m dk os).heap[b']? =w.heap[b']?:=by
 unfold sortWorld;rw [Go.Sort.heap_grow_old _ _ (by rw [Go.Sort.size_putRow];exact hlt)];show (w.heap.modify b _)[b']? =_;rw [ψw,ϑ (Ne.symm hne)]
theorem GV {α:Type} [Inhabited α] {enc:α ->Value} {w:World} {b off m:Nat} {dk:Array α} {os:Array Obj}:w.heap.size≤(sortWorld enc w b off m dk os).heap.size:=by
 unfold sortWorld Go.Sort.grow;rw [Array.size_append,Go.Sort.size_putRow];exact Nat.le_add_right _ _
theorem ZN (L:SlLaysF.n6 P ρr) {E:TypeId} {g g6:FuncId} {fn:Func} (hfn:P.funcs[g]? =some fn) (hnm:(fn.name== "runtime.NumGoroutine")=false) {c:Code} (hbody:fn.body=some c)
  {bl:τ ->Nat} {px:τ ->List D} {tx:τ ->TypeId} (cf:τ ->τ ->Int) (hO:SWO (ltOf cf)) (xs ys0:List τ) (hsz:xs.length<4611686018427387904) (hc:∀x∈xs,∀y∈xs,AO P g [.d (.ptr (.agg (px x))),.d (.ptr (.agg (px y)))] (.raw (.int .i64 (cf x y))))
  (hu:∀ys:List τ,ys.Perm xs ->ys.Pairwise (fun a b=>¬cf b a<0) ->ys=ys0)
  {F:Fr} {s:AS} {d:Nat} {x y:Operand} {ty:TypeId} {pos:String} {aft:Array Edge} {gd:Option (Nat×Bool)} {at_:Array TypeId} {f b cap n:Nat} {M:MF} {fa:AV} {row:List D} {hp':Hp}
  (hg:ρr.f 6=g6) (hM:hfam s.hp f=some [.multi M]) (hpx:∀x∈xs,M (bl x)=some (.cells (tx x) (px x))) (h1x:∀x∈xs,∀c∈px x,c.one=true) (hx:s.ev x=some (.d (.raw (sV b n cap)))) (hy:s.ev y=some fa) (hfa:∀w O ρ v,AU w O ρ fa v ->v= .func (.func g) #[] #[]) (hb:M b=some (.row E 1 cap row)) (hrow:row=xs.map fun x=>pD (bl x) 0) (hn:n=xs.length) (hxs:xs≠ []) (hh:BY s.hp f (BO M b (.row E 1 cap (ys0.map fun x=>pD (bl x) 0)))=some hp') (hd:Nat.blt d s.n=true):
  AI P F ⟨some d,.call {callee:= .value (.func g6),args:= #[x,y],argTypes:=at_},ty,pos,aft,gd⟩ s ⟨s.n,(d,.d (.tup []))::s.env,hp'⟩ (fun _ _=>true):=by
 subst hg hrow hn;intro ρ act w hs
 obtain ⟨fn6,hf1,hf2,hf3⟩:∃fn,P.funcs[ρr.f 6]? =some fn∧(fn.name== "runtime.NumGoroutine")=false∧fn.body.isSome=true:=by
  obtain ⟨nm,hn,hf⟩:=L.f6;exact ⟨_,hf,hn,Z⟩
 unfold Oper.wp;rw [show (#[x,y]:Array Operand)=[x,y].toArray from rfl,DI hf1 hf2 hf3,Oper.upon_enter]
 suffices key:Calls P (ρr.f 6) ([x,y].map act.eval).toArray w fun e w'=>e= .returned (.tuple #[])∧SR F ⟨s.n,s.env,hp'⟩ ρ act w' by
  refine key.mono fun e w' ⟨e1,hsr⟩=>?_;subst e1;exact ⟨ρ,hsr.put (I1 hd) (.d (.tup Z fun i c v hc=>by cases hc)),fun _ _ _=>rfl⟩
 have r0:=hs.raw hx;have r1:=hfa _ _ _ _ (hs.ev hy);have h3:=hs.heap
 have hO0:Aw ρ s.hp b:=⟨f,b,_,by rw [Fn hM,hb];rfl,by rw [(hs.rowN hM hb).1];rfl⟩
 obtain ⟨hρ,us,q1,q2,q3⟩:=hs.rowN hM hb;show Calls P (ρr.f 6) #[act.eval x,act.eval y] w _;rw [r1,r0];have hn:0<xs.length:=χh.2 hxs
 have hus:us=xs.map fun x=>pV (bl x) 0:=by
  apply χs
  intro i;rw [η]
  by_cases hi:i<xs.length
  ·rw [ω hi];obtain ⟨u,h1,h2,h4⟩:=q2.2.2 i (pD (bl xs[i]) 0) (by rw [η,ω hi];rfl) 0 (pD (bl xs[i]) 0) rfl;rw [χu,χn] at h1;rw [h1]
   cases h4 with
   | raw _=>rfl
  ·have:us.length=xs.length:=by have:=q2.1;rwa [ψ,χu] at this
   rw [ωv (by omega),ωv (by omega)];rfl
 obtain ⟨cur,p1,p2,p3,p3',p4⟩:∃cur,w.heap[b]? =some (.cells cur E (0,0))∧cur.size=cap∧xs.length≤cap∧cap≤maxLen∧cur.toList.take xs.length=us:=by
  rcases q1.2 with ⟨_,h⟩ | ⟨b',cap',cur,e1,_,e2,e3,e4,e5,e6⟩
  ·rw [ψ] at h;omega
  ·rw [ψ] at e1;injection e1 with e1 e7 e8
   injection e1 with e1
   injection e1 with e1
   subst e1 e8;rw [ψ] at e3 e6;exact ⟨cur,e2,by omega,e3,e4,by rwa [χu] at e6⟩
 rw [ψ] at*;have hlt:b<w.heap.size:=(ωu.1 p1).1;have hOb:F.O ρ s.hp b:= .inr hO0;have hOl:∀b',F.O ρ s.hp b' ->b'<w.heap.size:=fun b' h=>h3.ltO h
 let x0:τ:=xs[0]
 let ix:Nat ->Nat:=fun i=>if i<xs.length then i else 0
 let el:Nat ->τ:=fun i=>(xs[ix i]?).getD x0
 have hel:∀i,el i∈xs:=fun i=>by
  have hix:ix i<xs.length:=by show (if _ then _ else _)<_;split<;>omega
  show (xs[ix i]?).getD x0∈xs;rw [ω hix];exact κ hix
 have heli:∀i (hi:i<xs.length),el i=xs[i]:=fun i hi=>by
  show (xs[ix i]?).getD x0=_;rw [show ix i=i from θ hi,ω hi];rfl
 let enc:Nat ->Value:=fun i=>pV (bl (el i)) 0
 let cf':Nat ->Nat ->Int:=fun i j=>cf (el i) (el j)
 have hO':SWO (ltOf cf'):=⟨fun x=>hO.irrefl (el x),fun x y z=>hO.trans (el x) (el y) (el z),fun x y z=>hO.ntrans (el x) (el y) (el z)⟩
 have henc1:OneCell enc:=fun _=>rfl;have hd0:∀i,i<xs.length ->(Array.range xs.length)[i]! =i:=fun i hi=>by rw [getElem!_pos _ i (by simpa using hi)];simp
 have hcu:∀i (hi:i<xs.length),cur[i]? =some (pV (bl xs[i]) 0):=fun i hi=>by
  have:us[i]? =cur.toList[i]?:=by rw [←p4,ψg hi]
  rw [hus,η,ω hi] at this;rw [←ψn];exact this.symm
 have hH:Holds enc w b 0 (Array.range xs.length):=by
  intro j hj;simp only [φe] at hj;rw [hd0 _ hj];refine ⟨?_,?_⟩
  ·simp only [World.cell?,p1,ψs];rw [hcu j hj];show _=some (pV (bl (el j)) 0);rw [heli j hj];rfl
  ·simp only [World.frozen?,p1]
   simp
 have hcmp:CmpLays1 P g #[] enc cf' b 0 (Array.range xs.length).size w:=by
  intro m os dk _ x y;have hWs:w.heap.size≤(sortWorld enc w b 0 m dk os).heap.size:=GV
  let O':Nat ->Prop:=fun b'=>F.O ρ s.hp b'∧b'≠bl (el x)∧b'≠bl (el y)
  have hne:∀i,bl (el i)≠b:=fun i e=>by
   have:=hpx _ (hel i);rw [e,hb] at this;cases this
  have hptr:∀i,i=x∨i=y ->AQ (sortWorld enc w b 0 m dk os) O' (.ptr (.agg (px (el i)))) (pV (bl (el i)) 0):=fun i hi=>by
   obtain ⟨_,vs,c1,c2,c3,c4⟩:=hs.cellsN hM (hpx _ (hel i));have hl:bl (el i)<w.heap.size:=(ωu.1 c1).1
   have hOn:¬O' (bl (el i)):=fun h=>by
    rcases hi with e | e
    ·exact h.2.1 (by rw [e])
    ·exact h.2.2 (by rw [e])
   show AQ _ _ (.ptr (.agg (px (el i)))) (.pointer (some ⟨bl (el i),0,none⟩));refine AQ.ptr (x:= .agg (px (el i))) (fun j=>vs.getD j undef) (ψt hl hWs) hOn (h1x _ (hel i)) (fun j c hj=>?_) fun j c hj=>?_
   ·have hj':j<vs.length:=by rw [c2];exact (χ.1 hj).1
    simp only [World.cell?,Zb4 (hne i) hl,c1,ψs]
    simp [hj']
   ·have hj':j<vs.length:=by rw [c2];exact (χ.1 hj).1
    have hv:vs[j]? =some vs[j]:=ω hj';have:vs.getD j undef=vs[j]:=by rw [ϱ,hv];rfl
    rw [this];exact (c3 j c _ hj hv).mono hWs (fun b' hl hno=>Zb4 (fun e=>hno (e▸hOb)) hl) (fun _ _ h=>h.1)
  refine (Pu (hc (el x) (hel x) (el y) (hel y)) (w:=sortWorld enc w b 0 m dk os) (O:=O') (fun b' h=>ψt (hOl b' h.1) hWs) (vs:=[pV (bl (el x)) 0,pV (bl (el y)) 0]) Z (fun i a v ha hv=>?_)).mono fun e w' ⟨v,e1,e2,e3,e4,e5⟩=>⟨?_,NS e3 e4 e5⟩
  ·match i,ha,hv with
   | 0,ha,hv=>injection ha with ha;injection hv with hv;subst ha hv;exact .d (hptr x (.inl Z))
   | 1,ha,hv=>injection ha with ha;injection hv with hv;subst ha hv;exact .d (hptr y (.inr Z))
  ·cases e2 with
   | raw _=>exact e1
 have eg:∀args w,(callFunc g args).run P w= .ok (.enter g args) w:=enters_of hfn hnm hbody;have key:=Any.slices_SortFunc L enc henc1 cf' hO' g #[] b 0 cap (Array.range xs.length) w eg hcmp hH hlt (by simpa using hsz);rw [φe] at key;refine key.mono fun e w' ⟨e1,d',n,os,hp,hsort,hw⟩=>?_;subst e1 hw;obtain ⟨s1,_,s3⟩:=hp;rw [φe] at s1
 have hperm:d'.toList.Perm (List.range xs.length):=by
  have e1:d'.extract 0 xs.length=d':=by rw [←s1];exact Array.extract_size
  have e2:(Array.range xs.length).extract 0 xs.length=Array.range xs.length:=by
   conv=>lhs;arg 3;rw [←φe (n:=xs.length)]
   exact Array.extract_size
  rw [e1,e2] at s3
  simpa using s3
 refine ⟨Z,?_⟩
 have hys:d'.toList.map el=ys0:=by
  apply hu
  ·refine (hperm.map el).trans (List.Perm.of_eq ?_)
   apply χa (by simp)
   intro i h5 h6;simp only [ωb,ψp];exact heli i h6
  ·rw [ωz];intro i j hi hj hij;simp only [ψ,χi] at hi hj;have:=hsort i j (Δ _) hij (by omega);rw [getElem!_pos _ j hj,getElem!_pos _ i hi] at this;simp only [ltOf,decide_eq_false_iff_not] at this
   simpa using this
 have hlen':ys0.length=xs.length:=by rw [←hys];simp [s1]
 -- the world: first what lies in the row, then the new blocks
 have hheap:(sortWorld enc w b 0 n d' os).heap[b]? =some (.cells (putCells enc 0 d' cur) E (0,0)):=by
  unfold sortWorld;rw [Go.Sort.heap_grow_old _ _ (by rw [Go.Sort.size_putRow];exact hlt)];show (w.heap.modify b _)[b]? =_;rw [ψw,θ Z,p1];rfl
 refine hs.writeG f b (.nr b E 1 cap (xs.map fun x=>pD (bl x) 0)) (.nr b E 1 cap (ys0.map fun x=>pD (bl x) 0)) (by rw [Fn hM,hb];rfl) (fun g i=>?_) Z Z Z GV (Nat.le_add_right _ _) (fun b' hl hno=>Zb4 (fun e=>hno (by rw [e,hρ];rfl)) hl) (fun _ _ e=>by cases e) fun hrep=>?_
 ·rw [Co hh]
  by_cases e:g=f
  ·subst e;rw [θ Z,Fn hM]
   by_cases e2:i=b
   ·subst e2;rw [θ ⟨Z,Z⟩,EX];rfl
   ·rw [ϑ (fun h=>e2 h.2),FP e2]
  ·rw [ϑ e,ϑ (fun h=>e h.1)]
 have hcs:(putCells enc 0 d' cur).size=cap:=by simp only [putCells,Array.size_mapIdx];omega
 have hrow:(putCells enc 0 d' cur).toList.take ys0.length=ys0.map fun x=>pV (bl x) 0:=by
  apply χs
  intro i
  by_cases hi:i<xs.length
  ·rw [ψg (by omega),η,←hys,η,ψn,ψn,ωo (by omega),ωo (by omega)];simp only [putCells,Array.getElem_mapIdx,χb];rw [θ ⟨Δ _,by omega⟩];simp only [Nat.sub_zero];rw [getElem!_pos _ i (by omega)]
  ·rw [ωv (by rw [Υ];omega),ωv (by rw [ψ];omega)]
 refine ⟨hρ,ys0.map fun x=>pV (bl x) 0,⟨by simp,.inr ⟨b,cap,_,by simp only [ψ],Δ _,hheap,by rw [ψ,hlen'];exact p3,p3',by rw [hcs];omega,by rw [ψ,χu,hrow]⟩⟩,⟨by simp,fun x hx2=>?_,fun i x hx2 j c hc2=>?_⟩,fun x hx2 c hc2=>?_⟩
 ·obtain ⟨y,_,rfl⟩:=ν.1 hx2;rfl
 ·rw [η] at hx2
  cases hdi:ys0[i]? with
  | none=>rw [hdi] at hx2;cases hx2
  | some q=>
   rw [hdi] at hx2;injection hx2 with hx2;subst hx2
   match j,hc2 with
   | 0,hc2=>
    injection hc2 with hc2;subst hc2
    exact ⟨pV (bl q) 0,by rw [χu,χn,η,hdi];rfl,Z,.raw Z⟩
 ·obtain ⟨y,_,rfl⟩:=ν.1 hx2
  cases hc2 with
  | head=>rfl
  | tail _ h=>cases h
theorem XG (L:SlLaysF.n6 P ρr) {g6:FuncId} {F:Fr} {s:AS} {d:Nat} {x y:Operand} {ty:TypeId} {pos:String} {aft:Array Edge} {gd:Option (Nat×Bool)} {at_:Array TypeId} {fa:AV} 
  (hg:ρr.f 6=g6) (hx:s.ev x=some (.d (.raw (.slice none 0 0)))) (hy:s.ev y=some fa) (hd:Nat.blt d s.n=true):
  AI P F ⟨some d,.call {callee:= .value (.func g6),args:= #[x,y],argTypes:=at_},ty,pos,aft,gd⟩ s ⟨s.n,(d,.d (.tup []))::s.env,s.hp⟩ (fun _ _=>true):=by
 subst hg;intro ρ act w hs
 obtain ⟨fn6,hf1,hf2,hf3⟩:∃fn,P.funcs[ρr.f 6]? =some fn∧(fn.name== "runtime.NumGoroutine")=false∧fn.body.isSome=true:=by
  obtain ⟨nm,hn,hf⟩:=L.f6;exact ⟨_,hf,hn,Z⟩
 unfold Oper.wp;rw [show (#[x,y]:Array Operand)=[x,y].toArray from rfl,DI hf1 hf2 hf3,Oper.upon_enter];have r0:=hs.raw hx;show Calls P (ρr.f 6) #[act.eval x,act.eval y] w _;rw [r0];refine (AnyF.slices_SortFunc_none {L with} none 0 _ w).mono fun e w' ⟨e1,e2⟩=>?_;subst e1 e2;exact ⟨ρ,hs.put (I1 hd) (.d (.tup Z fun i c v hc=>by cases hc)),fun _ _ _=>rfl⟩
end
end Go.Proofs.YteifpcnphnhaoaaGreat
namespace Go.Proofs.YteifpcnphnhaoaaGreat
open Go.RowKit Go.Shelf
set_option maxRecDepth 100000 in
theorem cmpPo_p (x y:Po):AO Tryz.prog 142 [.d (.ptr (.agg (poC x))),.d (.ptr (.agg (poC y)))] (AF (B9 x.r y.r)):=by
 refine Az Tryz.func142 Z Z Tryz.ntmps142 Z Z Z fun F hF=>(AC ?_);refine AE (AB Z Z (AD (AC (Cb [[],[0],[0,1],[0,1,2],[],[4],[4,5],[4,5,6],[0,1,2,3,4,5,6,7],[0,1,2,3,4,5,6,7,8]] mixed Z (Cr (AJ [0] [] Z Z (fun _=>AG (Aj Z Z)) (AJ [5] [] Z Z (fun _=>AG (JO Z Z)) (AJ [6] [] Z Z (fun _=>AG (Ck Z Lz Z Z Z)) ?_))))))));refine AJ [7] [] Z Z (fun _=>AG (GN Z Z CU Z)) (AJ [1] [] Z Z (fun _=>AG (Aj Z Z)) (AJ [9] [] Z Z (fun _=>AG (JO Z Z)) (AJ [10] [] Z Z (fun _=>AG (Ck Z Lz Z Z Z)) (AJ [11] [] Z Z (fun _=>AG (GN Z Z CU Z)) (C3 8 Z Z Z (Aa 9 Z Z (J (B4 (LA x.r y.r) Z Z) (AD ⟨Z,?_⟩))))))));refine Aa 10 Z Z (AB Z Z (AD ⟨Z,?_⟩));refine C9 (A5 ?_);exact ⟨_,[],[],A3 Z,Z,Z,Z,Z⟩
theorem GA {M:MF} {bn b':Nat} {m m':Ab} (hb:M bn=none) (h:M b'=some m):BO M bn m' b'=some m:=by
 rw [FP]
 ·exact h
 ·rintro rfl;rw [hb] at h;cases h
theorem LL {M:MF} {bn:Nat} {m':Ab} (hb:M bn=none) {h:Hd} {t:TypeId} {k:Nat} {xs:List D} (hr:BF M h t k xs):BF (BO M bn m') h t k xs:=by
 match h,hr with
 | none,hr=>exact hr
 | some (b',c),hr=>exact ⟨hr.1,GA hb hr.2⟩
theorem Bx.fresh {wb mv:Nat} {nb pb:Nat ->Nat} {N:Net} {M:MF} (h:Bx wb mv nb pb N M) {bn:Nat} {m:Ab} (hb:M bn=none):Bx wb mv nb pb N (BO M bn m):=
 ⟨fun i x hx=>GA hb (h.n i x hx),fun j y hy=>GA hb (h.p j y hy),⟨fun r=>LL hb (h.rs.1 r),h.rs.2⟩,GA hb h.w,h.ni,h.pi,h.e,h.q⟩
def MC (f:Nat ->Nat) (k b:Nat):Nat ->Nat:=fun j=>if j=k then b else f j
theorem Cq {f:Nat ->Nat} {k b j:Nat} (h:j<k):MC f k b j=f j:=ϑ (by omega)
theorem Fl {f:Nat ->Nat} {k b:Nat}:MC f k b k=b:=θ rfl
theorem Ov {f:Nat ->Nat} {k b:Nat}:(List.range (k+1)).map (fun j=>BG (MC f k b j))=(List.range k).map (fun j=>BG (f j))++ [BG b]:=by
 rw [ψm,ωe,φi,Fl]
 congr 1
 exact ωi fun j hj=>by rw [Cq (Θ.1 hj)]
abbrev Xa (nh:Hd) (a:Nat) (mh:Hd) (c mv:Nat):Ab:= .cells 180 [hdr nh a,hdr mh c,K7 (.map (some mv))]
theorem Bx.keepM {wb mv:Nat} {nb pb:Nat ->Nat} {N:Net} {M:MF} (h:Bx wb mv nb pb N M) {b:Nat} (hb:B1 M N.mh b=none) {v:Ab} {b':Nat} {t:TypeId} {cs:List D} (hm:M b'=some (.cells t cs)):BO (B1 M N.mh) b v b'=some (.cells t cs):=
 Go.Proofs.YteifpcnphnhaoaaGreat.keepM hb hm fun c hc=>by have:=h.rs.blk (r:= .m) hc;rw [hm] at this;cases this
theorem Ko {α:Type} (l:List α) (y d:α) (j:Nat):(l++ [y]).getD j d=if j=l.length then y else l.getD j d:=by
 rw [ϱ,ϱ,List.getElem?_append]
 split
 ·rw [ϑ (by omega)]
 ·split
  ·rename_i e;subst e;simp
  ·rw [ωv (by simp;omega),ωv (by omega)]
theorem getD_mem {α:Type} {l:List α} {d:α} (i:Nat):l.getD i d∈l∨l.getD i d=d:=by
 by_cases h:i<l.length
 ·left;rw [Bp d h];exact κ h
 ·right;rw [ϱ,ωv (by omega)];rfl
theorem snoc_get {α:Type} {l:List α} {y z:α} {i:Nat} (h:(l++ [y])[i]? =some z):(i<l.length∧l[i]? =some z)∨(i=l.length∧z=y):=by
 rw [List.getElem?_append] at h
 split at h
 ·rename_i hi;exact .inl ⟨hi,h⟩
 ·rename_i hi
  right
  have:i - l.length=0:=by
   have:=(χ.1 h).1
   simp at this;omega
  rw [this] at h;exact ⟨by omega,(Option.some.inj h).symm⟩
theorem Bx.addM {wb mv:Nat} {nb pb:Nat ->Nat} {N:Net} {M:MF} (h:Bx wb mv nb pb N M) {y:Po} (hy:y.q=[]) (hyh:y.qh=none) {bn:Nat} (hM:M bn=some (Tg y)) (hbn:∀j,j<N.po.length ->pb j≠bn) {b cap:Nat} (hb:B1 M N.mh b=none) (hl:N.po.length+1≤cap):
  Bx wb mv nb (MC pb N.po.length bn) {N with po:=N.po++ [y],mh:=some (b,cap)} (BO (BO (B1 M N.mh) b (.row Vd 1 cap ((List.range N.po.length).map (fun j=>BG (pb j))++ [BG bn]))) wb (Xa N.nh N.nd.length (some (b,cap)) (N.po.length+1) mv)):=by
 have hef:∀i,((N.nd.getD i Bc).ef.map (cG (MC pb N.po.length bn)))=(N.nd.getD i Bc).ef.map (cG pb):=fun i=>ωi fun e he=>by
  rcases getD_mem (l:=N.nd) (d:=Bc) i with hm | hm
  ·show D.agg [pD (MC pb N.po.length bn e.1) 0,_]=_;rw [Cq ((h.e _ hm).1 e he)]
  ·rw [hm] at he;cases he
 have hpl:∀i,((N.nd.getD i Bc).pl.map (plD (MC pb N.po.length bn)))=(N.nd.getD i Bc).pl.map (plD pb):=fun i=>ωi fun e he=>by
  rcases getD_mem (l:=N.nd) (d:=Bc) i with hm | hm
  ·show D.agg [pD (MC pb N.po.length bn e.1) 0,_]=_;rw [Cq ((h.e _ hm).2 e he)]
  ·rw [hm] at he;cases he
 have hR:∀r,r≠RI.m ->CR nb (MC pb N.po.length bn) {N with po:=N.po++ [y],mh:=some (b,cap)} r=CR nb pb N r:=fun r hr=>by
  cases r with
  | e i=>show (⟨_,_,_,(N.nd.getD i Bc).ef.map _⟩:RowM)=_;rw [hef];rfl
  | p i=>show (⟨_,_,_,(N.nd.getD i Bc).pl.map _⟩:RowM)=_;rw [hpl];rfl
  | n=>rfl
  | m=>exact absurd Z hr
  | q j=>
   show (⟨((N.po++ [y]).getD j Bz).qh,_,_,((N.po++ [y]).getD j Bz).q.map _⟩:RowM)=⟨(N.po.getD j Bz).qh,_,_,(N.po.getD j Bz).q.map _⟩
   rw [Ko]
   split
   ·rename_i e
    rw [hy,hyh,ϱ,ωv (by omega)];rfl
   ·rfl
 have hup:=h.rs.upd (R':=CR nb (MC pb N.po.length bn) {N with po:=N.po++ [y],mh:=some (b,cap)}) .m hR (b:=b) (cap:=cap) hb Z (by
  show ((List.range (N.po++ [y]).length).map _).length≤cap
  simp;exact hl)
 have hrow:(CR nb (MC pb N.po.length bn) {N with po:=N.po++ [y],mh:=some (b,cap)} .m).xs=(List.range N.po.length).map (fun j=>BG (pb j))++ [BG bn]:=by
  show (List.range (N.po++ [y]).length).map _=_;rw [ς,Ψ,Ov]
 rw [hrow] at hup
 have hk:∀(b':Nat) (t:TypeId) (cs:List D),t≠180 ->M b'=some (.cells t cs) ->BO (BO (B1 M N.mh) b (.row Vd 1 cap ((List.range N.po.length).map (fun j=>BG (pb j))++ [BG bn]))) wb (Xa N.nh N.nd.length (some (b,cap)) (N.po.length+1) mv) b'=some (.cells t cs):=fun b' t cs ht hm=>by
  rw [FP]
  ·exact h.keepM hb hm
  ·rintro rfl;rw [h.w] at hm;injection hm with hm;injection hm with hm;exact ht hm.symm
 refine ⟨fun i x hx=>hk _ _ _ (by decide) (h.n i x hx),fun i z hz=>?_,hup.cells (h.keepM hb h.w),?_,h.ni,fun i k hi hk e=>?_,fun x hx=>?_,fun z hz=>?_⟩
 ·rcases snoc_get hz with ⟨h1,h2⟩ | ⟨h1,h2⟩
  ·rw [Cq h1];exact hk _ _ _ (by decide) (h.p i z h2)
  ·subst h1 h2;rw [Fl];exact hk _ _ _ (by decide) hM
 ·rw [EX];show _=some (Ab.cells _ [_,hdr _ (N.po++ [y]).length,_]);rw [ς];rfl
 ·have hi':i<N.po.length+1:=by simpa using hi
  have hk':k<N.po.length+1:=by simpa using hk
  by_cases e1:i=N.po.length<;>by_cases e2:k=N.po.length
  ·omega
  ·subst e1;rw [Fl,Cq (by omega)] at e;exact absurd e.symm (hbn k (by omega))
  ·subst e2;rw [Fl,Cq (by omega)] at e;exact absurd e (hbn i (by omega))
  ·rw [Cq (by omega),Cq (by omega)] at e;exact h.pi i k (by omega) (by omega) e
 ·have:=h.e x hx;refine ⟨fun e he=>?_,fun e he=>?_⟩
  ·have:=this.1 e he;simp;omega
  ·have:=this.2 e he;simp;omega
 ·rcases υ.1 hz with hz | hz
  ·exact h.q z hz
  ·rw [ξ.1 hz,hy];intro i hi;cases hi
theorem Bx.perm {wb mv:Nat} {nb pb:Nat ->Nat} {N:Net} {M:MF} (h:Bx wb mv nb pb N M) (hn:N.nd=[]) (hqn:∀y∈N.po,y.q=[]∧y.qh=none) {ys:List Nat} (hp:ys.Perm (List.range N.po.length)) {b cap:Nat} (hm:N.mh=some (b,cap)):
  Bx wb mv nb (fun k=>pb (ys.getD k 0)) {N with po:=ys.map fun i=>N.po.getD i Bz} (BO M b (.row Vd 1 cap (ys.map fun j=>BG (pb j)))):=by
 have hyl:ys.length=N.po.length:=by rw [hp.length_eq,ωh]
 have hys:∀k,k<ys.length ->ys.getD k 0<N.po.length:=fun k hk=>by
  rw [Bp 0 hk];exact Θ.1 (hp.mem_iff.1 (κ hk))
 have hrow:=h.rs.blk (r:= .m) hm
 have hrl:=(h.rs.1 .m)
 rw [show (CR nb pb N .m).h=some (b,cap) from hm] at hrl
 have hlen:N.po.length≤cap:=by
  have:=hrl.1;have e:((List.range N.po.length).map fun j=>BG (pb j)).length=N.po.length:=by simp
  exact e▸this
 have hk:∀(b':Nat) (t:TypeId) (cs:List D),M b'=some (.cells t cs) ->BO M b (.row Vd 1 cap (ys.map fun j=>BG (pb j))) b'=some (.cells t cs):=fun b' t cs hm'=>by
  rw [FP]
  ·exact hm'
  ·rintro rfl;rw [hrow] at hm';cases hm'
 have hq0:∀(l:List Po),(∀y∈l,y.q=[]∧y.qh=none) ->∀j,(l.getD j Bz).q=[]∧(l.getD j Bz).qh=none:=fun l hl j=>by
  rcases getD_mem (l:=l) (d:=Bz) j with hm | hm
  ·exact hl _ hm
  ·rw [hm];exact ⟨Z,Z⟩
 have hqn':∀y∈ys.map fun i=>N.po.getD i Bz,y.q=[]∧y.qh=none:=fun y hy=>by
  obtain ⟨i,_,rfl⟩:=ν.1 hy;exact hq0 _ hqn i
 refine ⟨fun i x hx=>?_,fun j y hy=>?_,⟨fun r=>?_,fun r r' b1 c c' h1 h2=>?_⟩,?_,h.ni,fun i k hi hk' e=>?_,fun x hx=>?_,fun y hy=>?_⟩
 ·have:N.nd[i]? =some x:=hx;rw [hn] at this;simp at this
 ·have hy':(ys.map fun i=>N.po.getD i Bz)[j]? =some y:=hy;rw [η] at hy'
  cases hj:ys[j]? with
  | none=>rw [hj] at hy';cases hy'
  | some i=>
   rw [hj] at hy';have e:y=N.po.getD i Bz:=(Option.some.inj hy').symm;have hjl:=(χ.1 hj).1;have hi:=hys j hjl;rw [F7 hj] at hi;show BO M b _ (pb (ys.getD j 0))=_;rw [F7 hj,e,Bp Bz hi];exact hk _ _ _ (h.p i _ (ω hi))
 ·cases r with
  | e i=> 
   have:N.nd.getD i Bc=Bc:=by rw [hn];rfl
   show BF _ (N.nd.getD i Bc).eh _ _ ((N.nd.getD i Bc).ef.map _);rw [this];rfl
  | p i=> 
   have:N.nd.getD i Bc=Bc:=by rw [hn];rfl
   show BF _ (N.nd.getD i Bc).ph _ _ ((N.nd.getD i Bc).pl.map _);rw [this];rfl
  | q j=>
   show BF _ ((ys.map fun i=>N.po.getD i Bz).getD j Bz).qh _ _ (((ys.map fun i=>N.po.getD i Bz).getD j Bz).q.map _);obtain ⟨e1,e2⟩:=hq0 _ hqn' j;rw [e1,e2];rfl
  | n=>
   have hnr:=h.rs.1 .n;show BF _ N.nh _ _ ((List.range N.nd.length).map _)
   cases hh:N.nh with
   | none=>show _=[];rw [hn];rfl
   | some p=>
    obtain ⟨b',c'⟩:=p;rw [show (CR nb pb N .n).h=some (b',c') from hh] at hnr;refine ⟨by have:=hnr.1;exact this,?_⟩;rw [FP]
    ·exact hnr.2
    ·rintro rfl;exact absurd (h.rs.2 .n .m b' c' cap hh hm) (by intro e;cases e)
  | m=>
   show BF _ N.mh _ _ ((List.range (ys.map fun i=>N.po.getD i Bz).length).map fun k=>BG (pb (ys.getD k 0)))
   have e:((List.range (ys.map fun i=>N.po.getD i Bz).length).map fun k=>BG (pb (ys.getD k 0)))=ys.map fun j=>BG (pb j):=by
    apply χa (by simp)
    intro k h1 h2;simp only [ωb,ψp];rw [Bp 0 (by simpa using h2)]
   rw [e,hm];exact ⟨by rw [ψ,hyl];exact hlen,EX _ _ _⟩
 ·have hcase:∀r b1 c,(CR nb (fun k=>pb (ys.getD k 0)) {N with po:=ys.map fun i=>N.po.getD i Bz} r).h=some (b1,c) ->(CR nb pb N r).h=some (b1,c):=fun r b1 c h1=>by
   cases r with
   | e i=>exact h1
   | p i=>exact h1
   | n=>exact h1
   | m=>exact h1
   | q j=>
    have h1':((ys.map fun i=>N.po.getD i Bz).getD j Bz).qh=some (b1,c):=h1;rw [(hq0 _ hqn' j).2] at h1';cases h1'
  exact h.rs.2 r r' b1 c c' (hcase _ _ _ h1) (hcase _ _ _ h2)
 ·have:=hk _ _ _ h.w;show _=some (Ab.cells _ [_,hdr N.mh (ys.map fun i=>N.po.getD i Bz).length,_]);rw [ψ,hyl];exact this
 ·have hi':i<ys.length:=by simpa using hi
  have hk2:k<ys.length:=by simpa using hk'
  have:=h.pi _ _ (hys i hi') (hys k hk2) e;rw [Bp 0 hi',Bp 0 hk2] at this;have hnd:ys.Nodup:=hp.nodup_iff.2 List.nodup_range;exact (List.getElem_inj hnd).1 this
 ·have:x∈N.nd:=hx;rw [hn] at this;cases this
 ·intro i hi;rw [(hqn' y hy).1] at hi;cases hi
end Go.Proofs.YteifpcnphnhaoaaGreat
namespace Go.Proofs.YteifpcnphnhaoaaGreat
open Go.RowKit
theorem av {α β:Type} [DecidableEq α] {m:List (α×β)} {a:α} {b:β} (h:a∉m.map Prod.fst):Au m a b=m++ [(a,b)]:=by
 induction m with
 | nil=>rfl
 | cons p r ih=>
  obtain ⟨k,b'⟩:=p;simp only [ωm,Φ,not_or] at h;simp only [Au,φc];rw [ϑ h.1,ih h.2]
theorem EI {α β:Type} [DecidableEq α] {m:List (α×β)} {a:α} {z:β} (h:a∉m.map Prod.fst):A2 m a z=z:=by
 induction m with
 | nil=>rfl
 | cons p r ih=>
  obtain ⟨k,b'⟩:=p;simp only [ωm,Φ,not_or] at h;simp only [A2];rw [ϑ h.1,ih h.2]
theorem Cx {α β:Type} [DecidableEq α] {m:List (α×β)} {a k:α} {b z:β} (h:a≠k):A2 (m++ [(k,b)]) a z=A2 m a z:=by
 induction m with
 | nil=>simp only [List.nil_append,A2];rw [ϑ h]
 | cons p r ih=>
  obtain ⟨k',b'⟩:=p;simp only [φc,A2,ih]
theorem DP {α β:Type} [DecidableEq α] {m:List (α×β)} {a:α} {b z:β} (h:a∉m.map Prod.fst):A2 (m++ [(a,b)]) a z=b:=by
 induction m with
 | nil=>simp [A2]
 | cons p r ih=>
  obtain ⟨k',b'⟩:=p;simp only [ωm,Φ,not_or] at h;simp only [φc,A2];rw [ϑ h.1,ih h.2]
def Tu {α:Type} (d:α) (f:Nat ->Nat) (l:List α):List (α×Value):=(List.range l.length).map fun i=>(l.getD i d,pV (f i) 0)
theorem MX {α:Type} (d:α) (f:Nat ->Nat) (l:List α):(Tu d f l).map Prod.fst=l:=by
 unfold Tu;rw [ωr];refine χa (by simp) fun j h1 h2=>?_;simp only [ωb,ψp,Function.comp];exact Bp d h2
theorem VT {α:Type} [DecidableEq α] {d:α} {f:Nat ->Nat} {l:List α} {a:α} {b:Nat} (h:a∉l):Au (Tu d f l) a (pV b 0)=Tu d (MC f l.length b) (l++ [a]):=by
 rw [av (by rw [MX];exact h)];unfold Tu;rw [ς,Ψ,ψm,ωe,φi,Fl]
 congr 1
 ·refine ωi fun i hi=>?_;have hi':=Θ.1 hi;rw [Cq hi',ϱ,ϱ,ψa hi']
 ·rw [ϱ,ωq (ϖ _)];simp
theorem VU {α:Type} [DecidableEq α] [BEq α] [LawfulBEq α] {d:α} {f:Nat ->Nat} {l:List α} (hn:l.Nodup) {a:α} {z:Value} {i:Nat} (hi:i<l.length) (e:l[i]=a):A2 (Tu d f l) a z=pV (f i) 0:=by
 refine Zcb (by rw [MX];exact hn) ?_;exact ν.2 ⟨i,Θ.2 hi,by rw [Bp d hi,e]⟩
theorem tab_no {α:Type} [DecidableEq α] {d:α} {f:Nat ->Nat} {l:List α} {a:α} {z:Value} (h:a∉l):A2 (Tu d f l) a z=z:=EI (by rw [MX];exact h)
def JD (rs:List AP) (i j:Nat):Int:=B9 (rs.getD i D5) (rs.getD j D5)
theorem Pc (rs:List AP):PC (JD rs):=MI.comap fun i=>rs.getD i D5
def Fu (rs:List AP):List Nat:=(List.range rs.length).mergeSort fun i j=>decide (JD rs i j≤0)
theorem Y3 (rs:List AP):(Fu rs).Perm (List.range rs.length):=List.mergeSort_perm _ _
theorem XK {rs:List AP} (hn:rs.Nodup) {ys:List Nat} (hp:ys.Perm (List.range rs.length)) (hs:ys.Pairwise fun a b=>¬JD rs b a<0):ys=Fu rs:=by
 have key:∀zs:List Nat,zs.Perm (List.range rs.length) ->(zs.Pairwise fun a b=>¬JD rs b a<0) ->zs.Pairwise fun a b=>JD rs a b<0:=fun zs hz hs=>by
  have hnd:zs.Pairwise fun a b=>a≠b:=hz.nodup_iff.2 List.nodup_range;have hm:∀x∈zs,x<rs.length:=fun x hx=>Θ.1 (hz.mem_iff.1 hx);refine φh (fun {a b} ha hb h=>?_) (hs.and hnd);have h1:=(Pc rs).anti a b
  by_cases h0:JD rs a b=0
  ·exfalso
   have h3:=DA.1 h0;rw [Bp D5 (hm a ha),Bp D5 (hm b hb)] at h3;exact h.2 ((List.getElem_inj hn).1 h3)
  ·have:=h.1;omega
 refine Zcw (R:=fun a b=>JD rs a b<0) (fun x=>by rw [(Pc rs).refl];omega) (fun x y z=>(Pc rs).trans x y z) (key ys hp hs) (key _ (Y3 rs) ?_) fun x=>hp.mem_iff.trans (Y3 rs).mem_iff.symm;have:=List.pairwise_mergeSort (le:=fun i j=>decide (JD rs i j≤0)) (fun a b c h1 h2=>?_) (fun a b=>?_) (List.range rs.length)
 ·refine List.Pairwise.imp (fun {a b} h=>?_) this;have h1:=(Pc rs).anti a b;have h2:JD rs a b≤0:=by simpa using h
  omega
 ·have h1':JD rs a b≤0:=by simpa using h1
  have h2':JD rs b c≤0:=by simpa using h2
  have:JD rs a c≤0:=by
   by_cases e1:JD rs a b=0
   ·rw [(Pc rs).eqv a b c e1];exact h2'
   ·by_cases e2:JD rs b c=0
    ·have a1:=(Pc rs).anti b c;have e3:=(Pc rs).eqv c b a (by omega);have a2:=(Pc rs).anti a c;have a3:=(Pc rs).anti a b;omega
    ·have:=(Pc rs).trans a b c (by omega) (by omega);omega
  simpa using this
 ·have h1:=(Pc rs).anti a b
  by_cases h:JD rs a b≤0
  ·simp [h]
  ·have:JD rs b a≤0:=by omega
   simp [this]
abbrev CB (D:List (AP×Int)) (r:AP):Int:=A2 D r 0
def negQ (ds:List (List (AP×Int))) (r:AP):List Nat:=(List.range ds.length).filter fun i=>decide (CB (ds.getD i []) r<0)
def I3 (x:Roo):Po:=⟨x.r,x.n,0,none,[],0⟩
def US (ds:List (List (AP×Int))) (x:Roo):Po:=⟨x.r,x.n,(ds.map fun D=>CB D x.r).sum,none,negQ ds x.r,0⟩
def Uk (rs:List AP) (D:List (AP×Int)):List (Nat×Int):=(D.filter fun d=>decide (d.1∈rs)).map fun d=>(rs.idxOf d.1,d.2)
def plK (rs:List AP) (ds:List (List (AP×Int))) (D:List (AP×Int)):List (Nat×Nat):=(D.filter fun d=>decide (d.1∈rs) && decide (d.2<0)).map fun d=>(rs.idxOf d.1,(negQ ds d.1).length)
def ap (rs:List AP) (ds:List (List (AP×Int))) (x:AK) (D:List (AP×Int)):Nd:=⟨x,none,Uk rs D,none,plK rs ds D,true⟩
def H1 (rs:List AP) (its:List AK) (k:Nat):List Nd:=(List.range k).map fun i=>ap rs ((its.map dltS).take i) (its.getD i itm0) (dltS (its.getD i itm0))
def FR (ro:List Roo) (its:List AK) (k:Nat):Net:=⟨H1 (ro.map Roo.r) its k,ro.map (US ((its.map dltS).take k)),none,none⟩
def EG (ro:List Roo) (its:List AK) (k t:Nat):Net:=⟨H1 (ro.map Roo.r) its k++ [ap (ro.map Roo.r) ((its.map dltS).take k) (its.getD k itm0) ((dltS (its.getD k itm0)).take t)],ro.map (US ((its.map dltS).take k++ [(dltS (its.getD k itm0)).take t])),none,none⟩
theorem P0 {α:Type} (p:α ->Bool) (d:α):[d].filter p=if p d=true then [d] else []:=by
 cases h:p d<;>simp [List.filter,h]
theorem Uj {rs:List AP} {T:List (AP×Int)} {d:AP×Int} (h:d.1∈rs):Uk rs (T++ [d])=Uk rs T++ [(rs.idxOf d.1,d.2)]:=by
 unfold Uk;rw [ψc,P0,θ (ωc h),ωe];rfl
theorem QZ {rs:List AP} {T:List (AP×Int)} {d:AP×Int} (h:d.1∉rs):Uk rs (T++ [d])=Uk rs T:=by
 unfold Uk;rw [ψc,P0,ϑ (by simp only [ωs];exact h),ωl]
theorem aG {rs:List AP} {ds:List (List (AP×Int))} {T:List (AP×Int)} {d:AP×Int} (h:d.1∈rs) (h2:d.2<0):plK rs ds (T++ [d])=plK rs ds T++ [(rs.idxOf d.1,(negQ ds d.1).length)]:=by
 unfold plK;rw [ψc,P0,θ (by rw [ωc h,ωc h2];rfl),ωe];rfl
theorem Pv {rs:List AP} {ds:List (List (AP×Int))} {T:List (AP×Int)} {d:AP×Int} (h:¬(d.1∈rs∧d.2<0)):plK rs ds (T++ [d])=plK rs ds T:=by
 unfold plK;rw [ψc,P0,ϑ (by rw [ωd,ωs,ωs];exact h),ωl]
theorem Xh (ds:List (List (AP×Int))) (D:List (AP×Int)) (r:AP):negQ (ds++ [D]) r=negQ ds r++if CB D r<0 then [ds.length] else []:=by
 unfold negQ;rw [ς,Ψ,ψm,ψc]
 congr 1
 ·refine χq fun i hi=>?_;have hi':=Θ.1 hi;rw [ϱ,ψa hi',←ϱ]
 ·have e:(ds++ [D]).getD ds.length []=D:=by rw [ϱ,ωq (ϖ _)];simp
  rw [P0,e]
  by_cases h:CB D r<0
  ·rw [θ (ωc h),θ h]
  ·rw [ϑ (by simpa using h),ϑ h]
theorem EE (ds:List (List (AP×Int))) (D:List (AP×Int)) (x:Roo):US (ds++ [D]) x=⟨x.r,x.n,(US ds x).sum+CB D x.r,none,(US ds x).q++(if CB D x.r<0 then [ds.length] else []),0⟩:=by
 unfold US;rw [Xh,ωe,χc]
 simp
theorem Xd {ro:List Roo} {its:List AK} {k:Nat}:EG ro its k 0=⟨(FR ro its k).nd++ [⟨its.getD k itm0,none,[],none,[],true⟩],(FR ro its k).po,none,none⟩:=by
 unfold EG FR
 congr 1
 refine ωi fun x _=>?_;rw [EE];unfold US
 simp [CB,A2]
theorem Xf {ro:List Roo} {its:List AK} {k:Nat} (hk:k<its.length):EG ro its k (dltS (its.getD k itm0)).length=FR ro its (k+1):=by
 unfold EG FR H1;rw [ωw,ψm,ωe,φi]
 congr 1
 have:(its.map dltS).take (k+1)=(its.map dltS).take k++ [dltS (its.getD k itm0)]:=by
  rw [φ (by simpa using hk),ωb,Bp itm0 hk]
 rw [this]
theorem Xe {ro:List Roo} {its:List AK} {k t:Nat} (ht:t<(dltS (its.getD k itm0)).length) (hr:((dltS (its.getD k itm0))[t]).1∉ro.map Roo.r):EG ro its k (t+1)=EG ro its k t:=by
 unfold EG
 obtain ⟨D,hD⟩:∃D,dltS (its.getD k itm0)=D:=⟨_,Z⟩
 obtain ⟨d,hd⟩:∃d,(dltS (its.getD k itm0))[t]=d:=⟨_,Z⟩
 rw [hd] at hr;rw [φ ht,hd]
 have e1:∀(ds:List (List (AP×Int))) (T:List (AP×Int)),ap (ro.map Roo.r) ds (its.getD k itm0) (T++ [d])=ap (ro.map Roo.r) ds (its.getD k itm0) T:=fun ds T=>by
  unfold ap;rw [QZ hr,Pv (fun h=>hr h.1)]
 rw [e1]
 congr 1
 refine ωi fun x hx=>?_;have hne:x.r≠d.1:=fun e=>hr (e▸ν.2 ⟨x,hx,Z⟩);rw [EE,EE];have:CB ((dltS (its.getD k itm0)).take t++ [d]) x.r=CB ((dltS (its.getD k itm0)).take t) x.r:=Cx hne;rw [this]
theorem Zcc (x:AK):((dltS x).map Prod.fst).Nodup:=by
 unfold dltS
 split
 ·have:=Jy (ctr x);show ((Kx (ctr x)).map Prod.fst).Pairwise _;rw [ψb];refine this.imp fun {a b} h e=>?_;rw [e,MI.refl] at h;omega
 ·exact List.nodup_nil
theorem Xg {ro:List Roo} (hro:(ro.map Roo.r).Nodup) {its:List AK} {k t j:Nat} (hk:k≤its.length) (ht:t<(dltS (its.getD k itm0)).length) (hj:j<ro.length) (hr:(ro.map Roo.r).idxOf ((dltS (its.getD k itm0))[t]).1=j) (hm:((dltS (its.getD k itm0))[t]).1∈ro.map Roo.r) {x:Nd} {y:Po} (hx:(EG ro its k t).nd[k]? =some x) (hy:(EG ro its k t).po[j]? =some y):
  EG ro its k (t+1)=⟨(EG ro its k t).nd.set k (jnX x j y.q.length ((dltS (its.getD k itm0))[t]).2),(EG ro its k t).po.set j (jnY y k ((dltS (its.getD k itm0))[t]).2),none,none⟩:=by
 obtain ⟨d,hd⟩:∃d,(dltS (its.getD k itm0))[t]=d:=⟨_,Z⟩
 rw [hd] at hr hm⊢
 have hdn:d.1∉((dltS (its.getD k itm0)).take t).map Prod.fst:=fun h=>by
  have h1:=Zcc (its.getD k itm0);rw [←φf t (dltS (its.getD k itm0)),χg ht,hd,ωe,ωm,χo] at h1;exact h1.2.2 _ h _ (ωk ..) rfl
 have hl:(H1 (ro.map Roo.r) its k).length=k:=by unfold H1;simp
 have hdsl:((its.map dltS).take k).length=k:=by simp;omega
 have ex:x=ap (ro.map Roo.r) ((its.map dltS).take k) (its.getD k itm0) ((dltS (its.getD k itm0)).take t):=by
  have hx':(H1 (ro.map Roo.r) its k++ [ap (ro.map Roo.r) ((its.map dltS).take k) (its.getD k itm0) ((dltS (its.getD k itm0)).take t)])[k]? =some x:=hx;rw [ωq (by omega),hl,Nat.sub_self] at hx';exact (Option.some.inj hx').symm
 have hy':(ro.map (US ((its.map dltS).take k++ [(dltS (its.getD k itm0)).take t])))[j]? =some y:=hy;rw [η,ω hj] at hy';have ey:y=US ((its.map dltS).take k++ [(dltS (its.getD k itm0)).take t]) ro[j]:=(Option.some.inj hy').symm
 have hrj:ro[j].r=d.1:=by
  have h1:=φa (ψo hm);simp only [hr,ωb] at h1;exact h1
 have ha0:CB ((dltS (its.getD k itm0)).take t) d.1=0:=EI hdn
 have hyq:y.q.length=(negQ ((its.map dltS).take k) d.1).length:=by
  rw [ey,EE,hrj,ha0];show (negQ _ _++_).length=_;rw [hrj];simp
 unfold EG;rw [φ ht,hd]
 congr 1
 ·rw [List.set_append_right _ _ (by omega),hl,Nat.sub_self,List.set_cons_zero]
  congr 2
  rw [ex];unfold ap jnX;rw [Uj hm,hr,hyq]
  by_cases h0:d.2<0
  ·rw [aG hm h0,hr,θ h0]
  ·rw [Pv (fun h=>h0 h.2),ϑ h0]
 ·refine χs fun i=>?_;rw [χr]
  by_cases e:j=i
  ·subst e;rw [θ Z,θ (by simpa using hj),η,ω hj];show some _=some _
   congr 1
   rw [ey];unfold jnY;rw [EE,EE,hrj];have h1:CB ((dltS (its.getD k itm0)).take t++ [d]) d.1=d.2:=DP hdn;rw [h1,ha0,hdsl,hrj.symm];simp only [Int.add_zero,Po.mk.injEq,true_and,and_true]
   by_cases h0:d.2<0
   ·simp [h0]
   ·simp [h0]
  ·rw [ϑ e,η,η]
   cases hi:ro[i]? with
   | none=>rfl
   | some z=>
    show some _=some _
    congr 1
    have hil:=(χ.1 hi)
    have hne:z.r≠d.1:=fun e2=>e (by
     have h1:(ro.map Roo.r)[j]'(by simpa using hj)=(ro.map Roo.r)[i]'(by simpa using hil.1):=by
      rw [ωb,ωb,hil.2,hrj,e2]
     exact (List.getElem_inj hro).1 h1)
    rw [EE,EE];have:CB ((dltS (its.getD k itm0)).take t++ [d]) z.r=CB ((dltS (its.getD k itm0)).take t) z.r:=Cx hne;rw [this]
end Go.Proofs.YteifpcnphnhaoaaGreat
namespace Go.Proofs.YteifpcnphnhaoaaGreat
open Go.RowKit Go.Shelf
set_option maxRecDepth 100000
def nrm1:D ->D
 | .sl (some true) []=> .raw (.slice none 0 0)
 | x=>x
def nrm:D ->D
 | .agg cs=> .agg (cs.map nrm1)
 | x=>nrm1 x
theorem ab (x:D):(nrm1 x).one=x.one:=by
 unfold nrm1
 split<;>rfl
theorem AQ.nrm1 {w:World} {O:Nat ->Prop} {x:D} {v:Value} (h:AQ w O x v):AQ w O (nrm1 x) v:=by
 unfold Go.Proofs.YteifpcnphnhaoaaGreat.nrm1
 split
 ·cases h with
  | sl k hn hz hln hc hm hk ha hp=>
   rename_i a n cap
   have h1:=hn true rfl
   have h2:a=none:=by cases a with
    | none=>rfl
    | some _=>cases h1
   subst h2;have h3:=hz rfl;have h4:n=0:=hln.symm;subst h3 h4;exact .raw rfl
 ·exact h
theorem AQ.nrm {w:World} {O:Nat ->Prop} {x:D} {v:Value} (h:AQ w O x v):AQ w O (nrm x) v:=by
 unfold Go.Proofs.YteifpcnphnhaoaaGreat.nrm
 split
 ·rename_i cs
  cases h with
  | agg hl h1 hr=>
   refine .agg (by rw [hl,ψ]) (fun c hc=>?_) fun i c v hc hv=>?_
   ·obtain ⟨d,hd,rfl⟩:=ν.1 hc;rw [ab];exact h1 d hd
   ·rw [η] at hc
    cases hd:cs[i]? with
    | none=>rw [hd] at hc;cases hc
    | some d=>
     rw [hd] at hc;injection hc with hc;subst hc
     exact (hr i d v hd hv).nrm1
 ·exact h.nrm1
section
variable {P:Program} {F:Fr} {Q:Exit ->AS ->Prop} {ops:Array Oper} {l:List Oper} {n:Nat} {env:List (Nat×AV)} {hp:Hp}
theorem aZ (t:Nat) {x:D} (ht:get env t=some (.d x)) (h:A8 P F ops l Q ⟨n,(t,.d (nrm x))::env,hp⟩):A8 P F ops l Q ⟨n,env,hp⟩:=fun ρ act w hs=>h ρ act w ⟨hs.size,hs.defs,fun t' a ha=>by
 rcases KG ha with ⟨rfl,rfl⟩ | ⟨_,ha⟩
 ·have hr:=hs.env t _ ht
  generalize act.tmps.getD t undef=v at hr⊢
  cases hr with
  | d h=>exact .d h.nrm
 ·exact hs.env t' a ha,hs.heap⟩
end
def Z1 (M:MF) (h:Hd) (E:TypeId) (ys:List D):MF:=match h with
 | none=>M
 | some (b,c)=>BO M b (.row E 1 c ys)
theorem Xz {f:Nat} {M:MF}:∀(H H':Hp),hfam H f=some [.multi M] ->BY H f M=some H' ->H'=H:=by
 intro H
 induction H with
 | nil=>intro H' h;cases h
 | cons p r ih=>
  obtain ⟨k,l⟩:=p;intro H' h1 h2;simp only [hfam] at h1;simp only [BY] at h2
  cases hk:Nat.beq k f with
  | true=>
   rw [hk] at h1 h2;injection h1 with h1
   subst h1;simp only [isM] at h2;injection h2 with h2;exact h2.symm
  | false=>
   rw [hk] at h1 h2;dsimp only at h1 h2
   cases hr:BY r f M with
   | none=>rw [hr] at h2;cases h2
   | some r'=>
    rw [hr] at h2;injection h2 with h2
    rw [←h2,ih r' h1 hr]
theorem ZO {P:Program} {ρr:Ren} {τ:Type} (L:SlLaysF.n6 P ρr) {E:TypeId} {g g6:FuncId} {fn:Func} (hfn:P.funcs[g]? =some fn) (hnm:(fn.name== "runtime.NumGoroutine")=false) {c:Code} (hbody:fn.body=some c)
  {bl:τ ->Nat} {px:τ ->List D} {tx:τ ->TypeId} (cf:τ ->τ ->Int) (hO:Go.Sort.SWO (ltOf cf)) (xs ys0:List τ) (hsz:xs.length<4611686018427387904) (hc:∀x∈xs,∀y∈xs,AO P g [.d (.ptr (.agg (px x))),.d (.ptr (.agg (px y)))] (.raw (.int .i64 (cf x y))))
  (hu:∀ys:List τ,ys.Perm xs ->ys.Pairwise (fun a b=>¬cf b a<0) ->ys=ys0)
  {F:Fr} {s:AS} {d:Nat} {x y:Operand} {ty:TypeId} {pos:String} {aft:Array Edge} {gd:Option (Nat×Bool)} {at_:Array TypeId} {f n:Nat} {h:Hd} {M:MF} {fa:AV} {row:List D} {hp':Hp}
  (hg:ρr.f 6=g6) (hM:hfam s.hp f=some [.multi M]) (hpx:∀x∈xs,M (bl x)=some (.cells (tx x) (px x))) (h1x:∀x∈xs,∀c∈px x,c.one=true) (hx:s.ev x=some (.d (hdr h n))) (hy:s.ev y=some fa) (hfa:∀w O ρ v,AU w O ρ fa v ->v= .func (.func g) #[] #[]) (hb:BF M h E 1 row) (hrow:row=xs.map fun x=>pD (bl x) 0) (hn:n=xs.length) (hxh:h≠none ->xs≠ []) (hh:BY s.hp f (Z1 M h E (ys0.map fun x=>pD (bl x) 0))=some hp') (hd:Nat.blt d s.n=true):
  AI P F ⟨some d,.call {callee:= .value (.func g6),args:= #[x,y],argTypes:=at_},ty,pos,aft,gd⟩ s ⟨s.n,(d,.d (.tup []))::s.env,hp'⟩ (fun _ _=>true):=by
 match h,hx,hb,hh,hxh with
 | none,hx,hb,hh,_=>
  rw [Xz _ _ hM hh];exact XG L hg hx hy hd
 | some (b,cap),hx,hb,hh,hxh=>exact ZN L hfn hnm hbody cf hO xs ys0 hsz hc hu hg hM hpx h1x hx hy hfa hb.2 hrow hn (hxh (by simp)) hh hd
theorem rep0 (wb mv:Nat) (nb pb:Nat ->Nat) {M:MF} (hw:M wb=some (Xa none 0 none 0 mv)):Bx wb mv nb pb ⟨[],[],none,none⟩ M:=by
 refine ⟨fun i x hx=>by simp at hx,fun j y hy=>by simp at hy,⟨fun r=>?_,fun r r' b c c' h1 h2=>?_⟩,hw,fun i j hi _=>by simp at hi,fun i j hi _=>by simp at hi,fun x hx=>(by cases hx),fun y hy=>(by cases hy)⟩
 ·cases r<;>rfl
 ·cases r<;>cases h1
structure DW (p:Prb):Prop where
 i:p.it.length≤30
 r:p.ro.length≤100
 x:∀x∈p.it,x.po.length≤12∧x.pa.length≤12∧x.af.length≤12
def dW (x:AK):Prop:=x.po.length≤12∧x.pa.length≤12∧x.af.length≤12
theorem DW.b {p:Prb} (h:DW p):Eb p:=⟨by have:=h.r;omega,by have:=h.i;omega,fun i hi=>by have:=h.x i hi;omega⟩
theorem Py {α β:Type} {l:List (α×β)} (h:(l.map Prod.fst).Nodup):l.Nodup:=by
 have h':(l.map Prod.fst).Pairwise (fun a b=>a≠b):=h;rw [ψb] at h';exact h'.imp fun {a b} h e=>h (by rw [e])
theorem MD {x:AK} (h:dW x):(dltS x).length≤60:=by
 unfold dltS
 split
 ·have h1:(YF x).length≤(ctr x).length:=by
   have h2:(Kx (ctr x)).length≤(sumL (ctr x)).length:=by
    have hp:(Kx (ctr x)).Perm ((sumL (ctr x)).filter fun d=>decide (d.2≠0)):=by
     refine (χz ?_ ?_).2 fun d=>?_
     ·have:=Jy (ctr x);refine this.imp fun {a b} h e=>?_;rw [e,MI.refl] at h;omega
     ·exact (Py (Es (ctr x))).filter _
     ·rw [GJ,Ω];simp
    rw [hp.length_eq];exact ωj _ _
   exact ωf h2 (HO _)
  have:=JC x;have:=h.1;have:=h.2.1;omega
 ·exact Δ _
theorem Jx (x:AK):Qo (dltS x):=by
 unfold dltS
 split
 ·rename_i hE
  intro d hd;exact bnd_E hE d ((GJ _ _).1 hd).1
 ·intro d hd;cases hd
theorem We {D:List (AP×Int)} (h:Qo D) (r:AP): -1000000000000000≤CB D r∧CB D r≤1000000000000000:=by
 unfold CB
 induction D with
 | nil=>simp [A2]
 | cons d D ih=>
  obtain ⟨k,b⟩:=d;simp only [A2]
  split
  ·exact h (k,b) (ωk ..)
  ·exact ih fun x hx=>h x (ωn _ hx)
theorem V1:∀{ds:List (List (AP×Int))} (_:∀D∈ds,Qo D) (r:AP),-(ds.length*1000000000000000)≤(ds.map fun D=>CB D r).sum∧(ds.map fun D=>CB D r).sum≤ds.length*1000000000000000
 | [],_,r=>by simp
 | D::ds,h,r=>by
  have h1:=We (h D (ωk ..)) r;have h2:=V1 (ds:=ds) (fun D hD=>h D (ωn _ hD)) r;simp only [ωm,χd,ψl];omega
theorem J2 (ds:List (List (AP×Int))) (r:AP):(negQ ds r).length≤ds.length:=by
 unfold negQ;refine ωf (ωj _ _) ?_
 simp
theorem WY (rs:List AP) (D:List (AP×Int)):(Uk rs D).length≤D.length:=by
 unfold Uk;rw [ψ];exact ωj _ _
theorem Vg (rs:List AP) (ds:List (List (AP×Int))) (D:List (AP×Int)):(plK rs ds D).length≤D.length:=by
 unfold plK;rw [ψ];exact ωj _ _
theorem cB {N:Net} {i:Nat} {x:Nd} (h:N.nd[i]? =some x):(Ap N).nd[i]? =some (Du x):=by
 show (N.nd.map Du)[i]? =_;rw [η,h];rfl
theorem cA {N:Net} {i:Nat} {y:Po} (h:N.po[i]? =some y):(Ap N).po[i]? =some (CP y):=by
 show (N.po.map CP)[i]? =_;rw [η,h];rfl
theorem dO {ro:List Roo} {its:List AK} (hi:its.length≤30) (hx:∀x∈its,dW x) {k t j:Nat} (hk:k<its.length) {N:Net} (h:Ap N=EG ro its k t) {x:Nd} {y:Po} (h1:N.nd[k]? =some x) (h2:N.po[j]? =some y):
  (-1000000000000000000≤y.sum∧y.sum≤1000000000000000000)∧x.ef.length≤100000∧x.pl.length≤100000∧y.q.length≤100000:=by
 have a1:=cB h1;have a2:=cA h2;rw [h] at a1 a2;have hl:(H1 (ro.map Roo.r) its k).length=k:=by unfold H1;simp
 have hdl:(dltS (its.getD k itm0)).length≤60:=MD (hx _ (by rw [Bp itm0 hk];exact κ hk));have a1':(H1 (ro.map Roo.r) its k++ [ap (ro.map Roo.r) ((its.map dltS).take k) (its.getD k itm0) ((dltS (its.getD k itm0)).take t)])[k]? =some (Du x):=a1;rw [ωq (by omega),hl,Nat.sub_self] at a1';have ex:Du x=_:=(Option.some.inj a1').symm;have e1:x.ef=(Du x).ef:=rfl;have e2:x.pl=(Du x).pl:=rfl;have a2':(ro.map (US ((its.map dltS).take k++ [(dltS (its.getD k itm0)).take t])))[j]? =some (CP y):=a2;rw [η] at a2'
 cases hj:ro[j]? with
 | none=>rw [hj] at a2';cases a2'
 | some z=>
  rw [hj] at a2';have ey:CP y=US ((its.map dltS).take k++ [(dltS (its.getD k itm0)).take t]) z:=(Option.some.inj a2').symm;have e3:y.sum=(CP y).sum:=rfl;have e4:y.q=(CP y).q:=rfl;have hds:((its.map dltS).take k++ [(dltS (its.getD k itm0)).take t]).length≤31:=by simp;omega
  have hb:=V1 (ds:=(its.map dltS).take k++ [(dltS (its.getD k itm0)).take t]) (fun D hD=>by
   rcases υ.1 hD with hD | hD
   ·obtain ⟨x,_,rfl⟩:=ν.1 (ψe hD);exact Jx x
   ·rw [ξ.1 hD];exact (Jx _).take t) z.r
  have hq:=J2 ((its.map dltS).take k++ [(dltS (its.getD k itm0)).take t]) z.r;have he:=WY (ro.map Roo.r) ((dltS (its.getD k itm0)).take t);have hp:=Vg (ro.map Roo.r) ((its.map dltS).take k) ((dltS (its.getD k itm0)).take t);rw [Υ] at he hp;rw [e1,e2,e3,e4,ex,ey];unfold US ap;dsimp only
  generalize (List.map (fun D=>CB D z.r) (List.take k (List.map dltS its)++ [List.take t (dltS (its.getD k itm0))])).sum=S at hb⊢
  generalize (List.take k (List.map dltS its)++ [List.take t (dltS (its.getD k itm0))]).length=m at*
  omega
theorem T_step {ro:List Roo} (hro:(ro.map Roo.r).Nodup) {its:List AK} {k t j:Nat} (hk:k<its.length) (ht:t<(dltS (its.getD k itm0)).length) {N N':Net} (h:Ap N=EG ro its k t) (hr:(ro.map Roo.r).idxOf ((dltS (its.getD k itm0))[t]).1=j) (hm:((dltS (its.getD k itm0))[t]).1∈ro.map Roo.r) {x x':Nd} {y y':Po} (h1:N.nd[k]? =some x) (h2:N.po[j]? =some y)
  (e1:N'.nd=N.nd.set k x') (ex:Du x'=Du (jnX x j y.q.length ((dltS (its.getD k itm0))[t]).2)) (e2:N'.po=N.po.set j y') (ey:CP y'=CP (jnY y k ((dltS (its.getD k itm0))[t]).2)):Ap N'=EG ro its k (t+1):=by
 have a1:=cB h1;have a2:=cA h2
 have hj:j<ro.length:=by
  have:=ψo hm;rw [hr] at this;simpa using this
 rw [h] at a1 a2;rw [Xg hro (Nat.le_of_lt hk) ht hj hr hm a1 a2,←h];unfold Ap;dsimp only;rw [e1,e2,List.map_set,List.map_set,ex,ey]
 rfl
theorem FN.del {M:MF} {R:RI ->RowM} (h:FN M R) {b:Nat} {t:TypeId} {cs:List D} (hb:M b=some (.cells t cs)):FN (EV M b) R:=by
 refine ⟨fun r=>?_,h.2⟩;have h1:=h.1 r
 cases hh:(R r).h with
 | none=>rw [hh] at h1;exact h1
 | some p=>
  obtain ⟨b',c⟩:=p;rw [hh] at h1;refine ⟨h1.1,?_⟩;rw [G3]
  ·exact h1.2
  ·rintro rfl;have:=h1.2;rw [hb] at this;cases this
theorem Bx.addN2 {wb mv:Nat} {nb pb:Nat ->Nat} {N:Net} {M:MF} (h:Bx wb mv nb pb N M) {x:Nd} (hx1:x.ef=[]) (hx2:x.eh=none) (hx3:x.pl=[]) (hx4:x.ph=none) {bn:Nat} (hM:M bn=some (Th x)) (hbn:∀j,j<N.nd.length ->nb j≠bn) {b cap:Nat} (hb:B1 (EV M wb) N.nh b=none) (hl:N.nd.length+1≤cap) {wb':Nat} (hw':BO (B1 (EV M wb) N.nh) b (.row aC 1 cap ((List.range N.nd.length).map (fun j=>BG (nb j))++ [BG bn])) wb'=none):
  Bx wb' mv (MC nb N.nd.length bn) pb {N with nd:=N.nd++ [x],nh:=some (b,cap)} (BO (BO (B1 (EV M wb) N.nh) b (.row aC 1 cap ((List.range N.nd.length).map (fun j=>BG (nb j))++ [BG bn]))) wb' (Xa (some (b,cap)) (N.nd.length+1) N.mh N.po.length mv)):=by
 have hq:∀j,((N.po.getD j Bz).q.map fun i=>BG (MC nb N.nd.length bn i))=(N.po.getD j Bz).q.map fun i=>BG (nb i):=fun j=>ωi fun e he=>by
  rcases getD_mem (l:=N.po) (d:=Bz) j with hm | hm
  ·rw [Cq (h.q _ hm e he)]
  ·rw [hm] at he;cases he
 have hR:∀r,r≠RI.n ->CR (MC nb N.nd.length bn) pb {N with nd:=N.nd++ [x],nh:=some (b,cap)} r=CR nb pb N r:=fun r hr=>by
  cases r with
  | q j=>show (⟨_,_,_,(N.po.getD j Bz).q.map _⟩:RowM)=_;rw [hq];rfl
  | m=>rfl
  | n=>exact absurd Z hr
  | e i=>
   show (⟨((N.nd++ [x]).getD i Bc).eh,_,_,((N.nd++ [x]).getD i Bc).ef.map _⟩:RowM)=⟨(N.nd.getD i Bc).eh,_,_,(N.nd.getD i Bc).ef.map _⟩
   rw [Ko]
   split
   ·rename_i e
    rw [hx1,hx2,ϱ,ωv (by omega)];rfl
   ·rfl
  | p i=>
   show (⟨((N.nd++ [x]).getD i Bc).ph,_,_,((N.nd++ [x]).getD i Bc).pl.map _⟩:RowM)=⟨(N.nd.getD i Bc).ph,_,_,(N.nd.getD i Bc).pl.map _⟩
   rw [Ko]
   split
   ·rename_i e
    rw [hx3,hx4,ϱ,ωv (by omega)];rfl
   ·rfl
 have hd:=h.rs.del h.w
 have hup:=hd.upd (R':=CR (MC nb N.nd.length bn) pb {N with nd:=N.nd++ [x],nh:=some (b,cap)}) .n hR (b:=b) (cap:=cap) hb Z (by
  show ((List.range (N.nd++ [x]).length).map _).length≤cap
  simp;exact hl)
 have hrow:(CR (MC nb N.nd.length bn) pb {N with nd:=N.nd++ [x],nh:=some (b,cap)} .n).xs=(List.range N.nd.length).map (fun j=>BG (nb j))++ [BG bn]:=by
  show (List.range (N.nd++ [x]).length).map _=_;rw [ς,Ψ,Ov]
 rw [hrow] at hup
 have hk:∀(b':Nat) (t:TypeId) (cs:List D),t≠180 ->M b'=some (.cells t cs) ->BO (BO (B1 (EV M wb) N.nh) b (.row aC 1 cap ((List.range N.nd.length).map (fun j=>BG (nb j))++ [BG bn]))) wb' (Xa (some (b,cap)) (N.nd.length+1) N.mh N.po.length mv) b'=some (.cells t cs):=fun b' t cs ht hm=>by
  refine GA hw' ?_
  have h1:EV M wb b'=some (.cells t cs):=by
   rw [G3]
   ·exact hm
   ·rintro rfl;rw [h.w] at hm;injection hm with hm;injection hm with hm;exact ht hm.symm
  exact Go.Proofs.YteifpcnphnhaoaaGreat.keepM hb h1 fun c hc=>by have:=hd.blk (r:= .n) hc;rw [h1] at this;cases this
 refine ⟨fun i z hz=>?_,fun j y hy=>hk _ _ _ (by decide) (h.p j y hy),⟨fun r=>LL hw' (hup.1 r),hup.2⟩,?_,fun i k hi hk e=>?_,h.pi,fun z hz=>?_,fun y hy=>?_⟩
 ·rcases snoc_get hz with ⟨h1,h2⟩ | ⟨h1,h2⟩
  ·rw [Cq h1];exact hk _ _ _ (by decide) (h.n i z h2)
  ·subst h1 h2;rw [Fl];exact hk _ _ _ (by decide) hM
 ·rw [EX];show _=some (Ab.cells _ [hdr _ (N.nd++ [x]).length,_,_]);rw [ς];rfl
 ·have hi':i<N.nd.length+1:=by simpa using hi
  have hk':k<N.nd.length+1:=by simpa using hk
  by_cases e1:i=N.nd.length<;>by_cases e2:k=N.nd.length
  ·omega
  ·subst e1;rw [Fl,Cq (by omega)] at e;exact absurd e.symm (hbn k (by omega))
  ·subst e2;rw [Fl,Cq (by omega)] at e;exact absurd e (hbn i (by omega))
  ·rw [Cq (by omega),Cq (by omega)] at e;exact h.ni i k (by omega) (by omega) e
 ·rcases υ.1 hz with hz | hz
  ·exact h.e z hz
  ·have e:=ξ.1 hz;subst e;refine ⟨fun e he=>?_,fun e he=>?_⟩
   ·rw [hx1] at he;cases he
   ·rw [hx3] at he;cases he
 ·intro i hi;have:=h.q y hy i hi
  simp;omega
section
variable {P:Program} {F:Fr} {s:AS} {d:Nat} {ty T T' E:TypeId} {pos:String} {aft:Array Edge} {g:Option (Nat×Bool)} {x:Operand}
theorem RM {p:Option Addr} (hT:P.underlying T=some (.pointer E)) (hx:s.ev x=some (.d (.raw (.pointer p)))) (hd:Nat.blt d s.n=true):AA P F ⟨some d,.binOp .neq T x (.const (.pointer none)) T',ty,pos,aft,g⟩ s d (.d (.raw (.bool (!p.isNone)))):=
 C7 _ hd fun ρ act w hs=>by
  have hv:=hs.raw hx;have hp:P.pointee T=E:=by unfold Program.pointee;rw [hT]
  have hc:act.eval (.const (.pointer none))= .pointer none:=rfl;exact ⟨.bool (!p.isNone),by simp [execOp,hv,hc,Sn,binOp,run_equal_pointer_nil w T p (by rw [hp];exact hT)],.d (.raw Z)⟩
end
section
variable {P:Program} {F:Fr} {s:AS} {d:Nat} {ty T:TypeId} {pos:String} {aft:Array Edge} {g:Option (Nat×Bool)} {x:Operand}
theorem XH (gg jg:Nat) {f j off f2 j2 m:Nat} {t:TypeId} {cs:List AV} (hx:s.ev x=some (.ptr f j off)) (ho:hget s.hp f j=some (.blk t cs)) (hc:cs[off]? =some (.d (.raw (.map (some m))))) (hg:hget s.hp gg jg=some (.addr f2 j2 (.map (some m)))) (hT:BB P T=true) (hd:Nat.blt d s.n=true):
  AA P F ⟨some d,.load T x,ty,pos,aft,g⟩ s d (.map f2 j2):=by
 have h:=A6 (F:=F) (ty:=ty) (pos:=pos) (aft:=aft) (g:=g) hx ho hc hT hd;refine ⟨h.1,h.2.1,fun ρ act w hs=>?_⟩;refine Zcv (fun a w' ⟨v,e1,e2,e3⟩=>⟨v,e1,?_,e3⟩) (h.2.2 ρ act w hs)
 cases e2 with
 | d e2=>cases e2 with
  | raw _=>
   obtain ⟨_,hv⟩:=hs.heap.sim gg jg _ hg;exact .map hv
end
def rosS (p:Prb):List Roo:=(Fu (p.ro.map Roo.r)).map fun i=>p.ro.getD i DB
def Kr (y:Po):Po:={y with mi:=y.q.length}
def am (p:Prb):Net:=⟨(FR (rosS p) (ordP p) (ordP p).length).nd,(FR (rosS p) (ordP p) (ordP p).length).po.map Kr,none,none⟩
theorem ah {α:Type} {l:List Roo} {f:Roo ->α} (h:(l.map f).Nodup) (k:Nat):((l.take k).map f).Nodup:=by
 exact h.sublist ((List.take_sublist k l).map f)
theorem ai {l:List Roo} {f:Roo ->AP} (h:(l.map f).Nodup) {k:Nat} (hk:k<l.length):f l[k]∉(l.take k).map f:=fun hm=>by
 have h1:=ah h (k+1);rw [DF hk,χo] at h1;exact h1.2.2 _ hm _ (List.mem_singleton_self _) rfl
abbrev nilP:D:= .raw (.pointer none)
theorem GY {p:Prb} (hE:Ad p=0):(p.ro.map Roo.r).Nodup:=by
 have h0:=Wo.1 (Nv hE).1;rw [List.Nodup,ψb,ωz];intro i j hi hj hij e;have:=h0 j (Θ.2 hj);unfold OL at this;rw [Bp DB hj] at this
 split at this
 ·contradiction
 ·split at this
  ·cases this
  ·split at this
   ·cases this
   ·rename_i hn;exact hn (NB hj hij e)
theorem pm_in {rs:List AP} (hn:rs.Nodup) {ys:List Nat} (hp:ys.Perm (List.range rs.length)) {f:Nat ->Nat} {r:AP} {z:Value} (hm:r∈ys.map fun i=>rs.getD i D5):A2 (Tu D5 f rs) r z=pV (f (ys.getD ((ys.map fun i=>rs.getD i D5).idxOf r) 0)) 0:=by
 have hj:=ψo hm;have he:=φa hj
 generalize (ys.map fun i=>rs.getD i D5).idxOf r=j at hj he⊢
 rw [ψ] at hj;rw [ωb] at he;have hi:ys[j]<rs.length:=Θ.1 (hp.mem_iff.1 (κ hj));rw [Bp D5 hi] at he;rw [Bp 0 hj];exact VU hn hi he
theorem pm_out {rs:List AP} {ys:List Nat} (hp:ys.Perm (List.range rs.length)) {f:Nat ->Nat} {r:AP} {z:Value} (hm:r∉ys.map fun i=>rs.getD i D5):A2 (Tu D5 f rs) r z=z:=by
 refine tab_no fun h=>hm ?_;obtain ⟨i,hi,e⟩:=ωt h;exact ν.2 ⟨i,hp.mem_iff.2 (Θ.2 hi),by rw [Bp D5 hi,e]⟩
theorem UH (p:Prb):(rosS p).map Roo.r=(Fu (p.ro.map Roo.r)).map fun i=>(p.ro.map Roo.r).getD i D5:=by
 unfold rosS;rw [ωr];refine ωi fun i hi=>?_;have hi':=Θ.1 ((Y3 (p.ro.map Roo.r)).mem_iff.1 hi);have hi2:i<p.ro.length:=by simpa using hi'
 show (p.ro.getD i DB).r=_;rw [Bp DB hi2,Bp D5 hi',ωb]
set_option maxHeartbeats 2000000 in
theorem YS (p:Prb) (hf:DW p) (hE:Ad p≠0):AM Tryz.prog 96 [.d (Bq p)] [] fun r H'=>r= .d (.tup [nilP,AF (Ad p)])∧H'=[]:=by
 have hck:=FB p hf.b;refine Az Tryz.func96 Z Z Tryz.ntmps96 Z Z Z fun F hF=>(AC (AE (V (CC 1 Z Z Z Z Z Z Z) (AB Z Z (AB Z Z (AD (AC (AC ?_))))))));refine AE (J (BM Z Z B2 Z Z Z) (J (B4 (hck) Z Z) (AB Z Z (AD (AC (AE (goMv Z Z (J (DX Z Z Z) ?_))))))));refine AD (DV Z ((by simpa using hE)) (AC (AE (goMv Z Z (AB Z Z (AB Z Z (AD (A5 ?_))))))));exact ⟨_,[],[],A3 Z,Z,Z,Z,Z⟩
theorem poC_one (y:Po):∀c∈poC y,c.one=true:=by
 intro c hc;simp only [Φ,List.not_mem_nil,or_false] at hc;rcases hc with rfl | rfl | rfl | rfl | rfl | rfl | rfl | rfl | rfl | rfl<;>rfl
theorem Ll {p:Prb} {i:Nat} (hi:i<p.ro.length):(p.ro.map Roo.r).getD i D5=(p.ro.getD i DB).r:=by
 rw [Bp DB hi,Bp D5 (by simpa using hi),ωb]
theorem Z0 (p:Prb):∀i∈List.range p.ro.length,∀j∈List.range p.ro.length,AO Tryz.prog 142 [.d (.ptr (.agg (poC (I3 (p.ro.getD i DB))))),.d (.ptr (.agg (poC (I3 (p.ro.getD j DB)))))] (.raw (.int .i64 (JD (p.ro.map Roo.r) i j))):=fun i hi j hj=>by
 have h:=cmpPo_p (I3 (p.ro.getD i DB)) (I3 (p.ro.getD j DB))
 have e:JD (p.ro.map Roo.r) i j=B9 (p.ro.getD i DB).r (p.ro.getD j DB).r:=by
  unfold JD;rw [Ll (Θ.1 hi),Ll (Θ.1 hj)]
 rw [e];exact h
theorem sort_px {p:Prb} {wb mv:Nat} {pb:Nat ->Nat} {mh:Hd} {M:MF} (hR:Bx wb mv (fun _=>0) pb ⟨[],p.ro.map I3,none,mh⟩ M):∀i∈List.range p.ro.length,M (pb i)=some (.cells 190 (poC (I3 (p.ro.getD i DB)))):=fun i hi=>by
 have hi':=Θ.1 hi;refine hR.p i (I3 (p.ro.getD i DB)) ?_;show (p.ro.map I3)[i]? =_;rw [η,ω hi',Bp DB hi'];rfl
theorem ZZ {p:Prb} {wb mv:Nat} {pb:Nat ->Nat} {mh:Hd} {M:MF} (hR:Bx wb mv (fun _=>0) pb ⟨[],p.ro.map I3,none,mh⟩ M):
  Bx wb mv (fun _=>0) (fun k=>pb ((Fu (p.ro.map Roo.r)).getD k 0)) ⟨[],(rosS p).map I3,none,mh⟩ (Z1 M mh Vd ((Fu (p.ro.map Roo.r)).map fun x=>pD (pb x) 0)):=by
 have hp:(Fu (p.ro.map Roo.r)).Perm (List.range (p.ro.map I3).length):=by
  have:=Y3 (p.ro.map Roo.r);rw [ψ] at this⊢;exact this
 have hpo:(Fu (p.ro.map Roo.r)).map (fun i=>(p.ro.map I3).getD i Bz)=(rosS p).map I3:=by
  unfold rosS;rw [ωr];refine ωi fun i hi=>?_;have hi':=Θ.1 (hp.mem_iff.1 hi);have hi2:i<p.ro.length:=by simpa using hi'
  show _=I3 (p.ro.getD i DB);rw [Bp Bz hi',Bp DB hi2,ωb]
 cases hmh:mh with
 | some q=>
  obtain ⟨b,c⟩:=q;subst hmh;have h:=hR.perm Z (fun y hy=>by obtain ⟨x,_,rfl⟩:=ν.1 hy;exact ⟨Z,Z⟩) hp rfl;dsimp only at h;rw [hpo] at h;exact h
 | none=>
  subst hmh;have h0:BF M none Vd 1 ((List.range (p.ro.map I3).length).map fun j=>BG (pb j)):=hR.rs.1 .m;have h1:=Ta h0 rfl;rw [ωh,ψ] at h1;have h2:p.ro=[]:=ωx h1
  have h3:(rosS p).map I3=p.ro.map I3:=by
   have h4:Fu (p.ro.map Roo.r)=[]:=ωx (by rw [hp.length_eq,ωh,ψ,h1]);rw [←hpo,h4,h2];rfl
  rw [h3];rw [h2] at hR⊢;exact ⟨hR.n,fun j y hy=>by simp at hy,⟨fun r=>by cases r<;>rfl,fun r r' b c c' e1 e2=>by cases r<;>cases e1⟩,hR.w,hR.ni,fun i j hi _ _=>by simp at hi,hR.e,hR.q⟩
theorem Xc (ros:List Roo) (its:List AK) {mh:Hd}:Ap ⟨[],ros.map I3,none,mh⟩=FR ros its 0:=by
 unfold Ap FR H1;dsimp only;rw [ωr]
 rfl
theorem F1 {p:Prb} (hE:Ad p=0):((ordP p).map AK.id).Nodup:=by
 have h1:ordP p=sortO p.it:=θ hE;rw [h1];exact ((Qd p.it).map AK.id).nodup_iff.2 (dI (Nv hE).2.1)
theorem Md {p:Prb} (hE:Ad p=0):((rosS p).map Roo.r).Nodup:=by
 have h1:(rosS p).Perm p.ro:=by
  unfold rosS;refine ((Y3 (p.ro.map Roo.r)).map _).trans (List.Perm.of_eq ?_);rw [ψ]
  apply χa (by simp)
  intro i h1 h2;simp only [ωb,ψp];exact Bp DB (by simpa using h2)
 exact (h1.map Roo.r).nodup_iff.2 (GY hE)
theorem PH {l:List AK} (h:(l.map AK.id).Nodup) {k:Nat} (hk:k<l.length):l[k].id∉(l.take k).map AK.id:=fun hm=>by
 have h1:((l.take (k+1)).map AK.id).Nodup:=h.sublist ((List.take_sublist (k+1) l).map AK.id);rw [DF hk,χo] at h1;exact h1.2.2 _ hm _ (List.mem_singleton_self _) rfl
theorem nd_len {N:Net} {ros:List Roo} {its:List AK} {k:Nat} (h:Ap N=FR ros its k):N.nd.length=k:=by
 have h1:=Γ (fun N=>N.nd.length) h;have h2:(N.nd.map Du).length=(H1 (ros.map Roo.r) its k).length:=h1;rw [ψ] at h2;rw [h2];unfold H1;simp
theorem po_len {N:Net} {ros:List Roo} {its:List AK} {k:Nat} (h:Ap N=FR ros its k):N.po.length=ros.length:=by
 have h1:=Γ (fun N=>N.po.length) h;have h2:(N.po.map CP).length=(ros.map (US ((its.map dltS).take k))).length:=h1
 rwa [ψ,ψ] at h2
theorem T_zeroX {N:Net} {ros:List Roo} {its:List AK} {k:Nat} {x:AK} {nh:Hd} (hX:its.getD k itm0=x) (h:Ap N=FR ros its k):Ap {N with nd:=N.nd++ [⟨x,none,[],none,[],true⟩],nh:=nh}=EG ros its k 0:=by
 subst hX;rw [Xd,←h];unfold Ap;dsimp only;rw [ωe];rfl
theorem T_skipX {ros:List Roo} {its:List AK} {k t:Nat} {X:AK} (hX:its.getD k itm0=X) (ht:t<(dltS X).length) (hr:((dltS X)[t]).1∉ros.map Roo.r):EG ros its k (t+1)=EG ros its k t:=by
 subst hX;exact Xe ht hr
theorem T_stepX {ro:List Roo} {its:List AK} {k t j:Nat} {X:AK} (hX:its.getD k itm0=X) (hro:(ro.map Roo.r).Nodup) (hk:k<its.length) (ht:t<(dltS X).length) {N N':Net} (h:Ap N=EG ro its k t) (hr:(ro.map Roo.r).idxOf ((dltS X)[t]).1=j) (hm:((dltS X)[t]).1∈ro.map Roo.r) {x x':Nd} {y y':Po} (h1:N.nd[k]? =some x) (h2:N.po[j]? =some y)
  (e1:N'.nd=N.nd.set k x') (ex:Du x'=Du (jnX x j y.q.length ((dltS X)[t]).2)) (e2:N'.po=N.po.set j y') (ey:CP y'=CP (jnY y k ((dltS X)[t]).2)):Ap N'=EG ro its k (t+1):=by
 subst hX;exact T_step hro hk ht h hr hm h1 h2 e1 ex e2 ey
theorem T_nd {N:Net} {ros:List Roo} {its:List AK} {k t:Nat} (h:Ap N=EG ros its k t):N.nd.length=k+1:=by
 have h1:=Γ (fun N=>N.nd.length) h;have h2:(N.nd.map Du).length=(H1 (ros.map Roo.r) its k++ [_]).length:=h1;rw [ψ,ς] at h2;rw [h2];unfold H1;simp
theorem T_po {N:Net} {ros:List Roo} {its:List AK} {k t:Nat} (h:Ap N=EG ros its k t):N.po.length=ros.length:=by
 have h1:=Γ (fun N=>N.po.length) h;have h2:(N.po.map CP).length=(ros.map _).length:=h1
 rwa [ψ,ψ] at h2
theorem T_lastX {ros:List Roo} {its:List AK} {k:Nat} {X:AK} (hX:its.getD k itm0=X) (hk:k<its.length):EG ros its k (dltS X).length=FR ros its (k+1):=by
 subst hX;exact Xf hk
theorem ids_of {N:Net} {ros:List Roo} {its:List AK} (h:Ap N=FR ros its its.length):BP N=its.map AK.id:=by
 have h1:N.nd.map Du=H1 (ros.map Roo.r) its its.length:=Γ (fun N=>N.nd) h;have h2:BP N=(N.nd.map Du).map fun x=>x.it.id:=by unfold BP;rw [ωr];rfl
 rw [h2,h1];unfold H1;rw [ωr]
 apply χa (by simp)
 intro i a b;simp only [ωb,ψp,Function.comp];show (its.getD i itm0).id=_;rw [Bp itm0 (by simpa using b)]
theorem bp {po po':List Po} {j:Nat} {y:Po} (hj:j<po.length) (h:po'=(po.take j).map Kr++po.drop j) (hy:po'[j]? =some y):po'.set j (Kr y)=(po.take (j+1)).map Kr++po.drop (j+1):=by
 subst h;have hl:((po.take j).map Kr).length=j:=by rw [ψ,Υ];omega
 rw [ωq (by omega),hl,Nat.sub_self,χg hj] at hy;have e:y=po[j]:=(Option.some.inj hy).symm;rw [List.set_append_right _ _ (by omega),hl,Nat.sub_self,χg hj,List.set_cons_zero,DF hj,e,ψk];rfl
theorem net_fin {p:Prb} {its:List AK} {ros:List Roo} (h1:ordP p=its) (h2:rosS p=ros):am p=⟨(FR ros its its.length).nd,(FR ros its its.length).po.map Kr,none,none⟩:=by
 unfold am;rw [h1,h2]
theorem aj {N N5:Net} {ros:List Roo} {its:List AK} (hT:Ap N=FR ros its its.length) (h1:N5.nd=N.nd) (h2:N5.po=N.po.map Kr):Ap N5=⟨(FR ros its its.length).nd,(FR ros its its.length).po.map Kr,none,none⟩:=by
 rw [←hT];unfold Ap;dsimp only;rw [h1,h2,ωr,ωr]
 rfl
set_option maxHeartbeats 2000000 in
theorem TT (p:Prb) (hf:DW p) (hE:Ad p=0):AM Tryz.prog 96 [.d (Bq p)] [] fun r H'=>∃wb mv nb pb N M bs,r= .d (.tup [pD wb 0,AF 0])∧H'=HW mv bs (Fa nb (BP N)) M∧Bx wb mv nb pb N M∧Ap N=am p:=by
 have hck:=FB p hf.b;rw [hE] at hck;have hrn:=GY hE;have hrl:=hf.r;refine Az Tryz.func96 Z Z Tryz.ntmps96 Z Z Z fun F hF=>(AC (AE ?_));refine V (CC 1 Z Z Z Z Z Z Z) (AB Z Z (AB Z Z (AD (AC (AC (AE (J (BM Z Z B2 Z Z Z) (J (B4 (hck) Z Z) ?_))))))));refine AB Z Z (AD (AC (AE (goMv Z Z (J (DX Z Z Z) (AD (EN Z (Z) (A1 ?_))))))));refine AC (AE (V (Pb 50 Z Z Z Z) (a7 51 50 0 Z Z Z Z Z fun mv=>(o_toRaw 26 51 0 (.inl Z) Z (J (FV zl180 pl180 Z Z Z) (aZ 27 Z (V (CC 2 Z Z Z Z Z Z Z) (AB Z Z ?_))))))));refine AD (AC (Gl 40 Z Z Z (Y8 5 2 40 (ds:=[hdr none 0,hdr none 0,K7 (.map (some mv))]) hF Z Z Z Z Z Z Z Z Z Z Z (fun _=>rfl) fun wb hwb=>(AE (V (Pb 3 Z Z Z Z) (AB Z Z (AD (AC ?_))))))));refine AC (AE (J (AZ Z Fk Z Z Z) (J (A6 Z Z Z Rq Z) (J (CM Z Tryz.underlying36 Z) (goMv Z Z (AD (A4 (B5 (α:=Nat×(Nat ->Nat)×Hd×MF) (fun q=>⟨142,[(1,(.ptr 1 0 0)),(5,(.d (pD wb 0))),(6,(.map 3 0)),(31,(.d (.sl none (p.ro.map CX)))),(32,(.d (AF (p.ro.length:Int)))),(33,(.d (AF (q.1:Int))))],[(1,[.blk 39 [.d (.sl none (p.ro.map CX)),.d (.sl none (p.it.map Ao))]]),(3,[BH CV K7 (Tu D5 q.2.1 ((p.ro.take q.1).map Roo.r))]),(40,[.multi q.2.2.2]),(50,[BH AF K7 (Fa (fun _=>0) [])]),(51,[.addr 50 0 (.map (some mv))])]⟩) (fun q=>q.1≤p.ro.length∧Bx wb mv (fun _=>0) q.2.1 ⟨[],(p.ro.take q.1).map I3,none,q.2.2.1⟩ q.2.2.2∧(q.2.2.1≠none ->0<q.1)) (fun q=>p.ro.length - q.1) ((0,(fun _=>0),none,BO (fun _=>none) wb (Xa none 0 none 0 mv))) (⟨Δ _,rep0 _ _ _ _ (show BO (fun _=>none) wb (Xa none 0 none 0 mv) wb=_ from EX _ _ _),fun h=>absurd Z h⟩) (A0 hF [1,3,40,50,51] Z Z ⟨Z,Z,Z,Z,Z,Z,trivial⟩) ?_))))))));rintro ⟨k,pb,mh,M⟩ ⟨hk0,hR,hmh⟩;dsimp only at hk0 hR hmh⊢;refine AC (AE (J (BV Z Z Z) (AD (AC (Ae Z (fun h34=>?_) (fun h34=>?_))))))
 ·have hk1:k<p.ro.length:=Bf h34;refine A1 (AC (A4 (AC ?_)));have hpl:((p.ro.take k).map I3).length=k:=by rw [ψ,Υ];omega
  have hpr:((p.ro.take k).map Roo.r).length=k:=by rw [ψ,Υ];omega
  refine AE (J (Bk (k) Z Z (Z) (Ah hk1) Tryz.underlying36 Z OG Z) (J (GN Z Z Zc Z) ?_));refine V (CD 4 Qp Z Z Z Z) (V (Be Z Z Z Z Z Z Z OG) (AD (AC (AE (goMv Z Z (J (AZ Z FG Z Z Z) (J (BM Z Z CU Z Z Z) (J (AZ Z FG Z Z Z) ?_))))))));refine J (BM Z Z CU Z Z Z) (J (AZ Z QP Z Z Z) (J (A6 Z Z Z JG Z) (J (FV zl190 pl190 Z Z Z) (aZ 44 Z (V (CC 5 Z Z Z Z Z Z Z) (aa 45 5 40 (ds:=poC (I3 p.ro[k])) hF Z Z Z Z Z Z Z Z Z Z Z (fun _=>rfl) fun bn hbn=>(V (Tk (Tu D5 pb ((p.ro.take k).map Roo.r)) (p.ro[k].r) (pV bn 0) Z Z Z WB CI Z Z) (AD ?_))))))));have hrnk:p.ro[k].r∉(p.ro.take k).map Roo.r:=ai hrn hk1;rw [VT hrnk,hpr,←DF hk1];have hget:A2 (Tu D5 (MC pb k bn) ((p.ro.take (k+1)).map Roo.r)) p.ro[k].r (.pointer none)=pV bn 0:=by rw [VU (i:=k) (ah hrn (k+1)) (by rw [ψ,Υ];omega) (by rw [ωb,List.getElem_take]),Fl]
  have hR1:=hR.fresh (m:=Tg (I3 p.ro[k])) hbn;have hpb:((List.range k).map pb).length=k:=by simp
  have hwb1:BO M bn (Tg (I3 p.ro[k])) wb=some (Xa none 0 mh ((List.range k).map pb).length mv):=by rw [hpb];have h:_=some (Xa none 0 mh ((p.ro.take k).map I3).length mv):=hR1.w;rw [hpl] at h;exact h
  have hmr:BF (BO M bn (Tg (I3 p.ro[k]))) mh Vd 1 (((List.range k).map pb).map BG):=by have h:BF _ mh Vd 1 ((List.range ((p.ro.take k).map I3).length).map fun j=>BG (pb j)):=hR1.rs.1 .m;rw [hpl] at h;rw [ωr];exact h
  refine Cb [[],[],[1],[1,2],[1,2,3],[],[],[6],[5,6,7],[5,6,7,8],[1,2,3,4,5,6,7,8,9],[0,1,2,3,4,5,6,7,8,9,10],[0,1,2,3,4,5,6,7,8,9,10,11],[0,1,2,3,4,5,6,7,8,9,10,11,12]] mixed Z (Cr (AJ [5] [] Z Z (fun _=>AG (Aj Z Z)) (AJ [5] [] Z Z (fun _=>AG (Aj Z Z)) (AJ [47] [] Z Z (fun _=>AG (DE Z Z)) (AJ [48] [] Z Z (fun _=>AG (CQ Z Jn Z Z Z)) (AJ [49] [40] Z Z (fun _=>AG (Dn (f:=40) Z Z (hwb1) Z Vp Z)) (AJ [6] [] Z Z (fun _=>AG (Aj Z Z)) (AJ [8] [] Z Z (fun _=>AG (AZ Z FG Z Z Z)) ?_))))))));refine AJ [52] [4] Z Z (fun _=>AG (BM Z Z CU Z Z Z)) (AJ [51,53] [3] Z Z (fun _=>AG (HF (Tu D5 (MC pb k bn) ((p.ro.take (k+1)).map Roo.r)) p.ro[k].r (.pointer none) (pV bn 0) Z Z Z WB CI Yk hget Z)) (Gn [54] [6] [(55,_)] Z Z (fun _=>Gp (D1 6 sl177 Z Z Z Z Z Z Z Z)) (.inr ⟨55,_,Z,Z,Z,Z,Z⟩) Z Z Z Z Z (Gn [50,55] [61,40,6] [(56,_)] Z Z (fun _=>Gp (GU 50 61 40 hmr Z Z (by simp) Z Z Z Z Z (I0 (emb:=BG) ((List.range k).map pb) [bn] Z Z Z Z Z Z Z Z sl177 (by simp;omega) Z Z Z Z))) (.inr ⟨56,_,Z,Z,Z,Z,Z⟩) Z Z Z Z Z (C3 11 Z Z Z (Aa 12 Z Z (Eg 56 61 40 hF Z Z Z (by simp) (by simp) Z Z Z Z Z Z Z (fun _ _=>rfl) fun b1 c1 hb1 hc1=>(J (DE Z Z) (AD ⟨Z,?_⟩))))))));refine Aa 13 Z Z (J (CQ Z Jn Z Z Z) (AD ⟨Z,?_⟩));refine Aa 14 Z Z (V (O2 (f:=40) Z Z Z Z (hR1.keepM hb1 hwb1) ((by show _<3;omega)) Z sz177) (AD ⟨Z,?_⟩));refine C9 ?_;have e1:((List.range ((p.ro.take k).map I3).length).map (fun j=>BG (pb j))++ [BG bn])=((List.range k).map pb++ [bn]).map BG:=by rw [hpl,ωe,ωr];rfl
  have e2:((List.range k).map pb++ [bn]).length=((p.ro.take k).map I3).length+1:=by simp;omega
  have hR2:=hR1.addM (y:=I3 p.ro[k]) (bn:=bn) Z Z (EX _ _ _) (fun j hj e=>by have h1:=hR.p j _ (ω hj);rw [e,hbn] at h1;cases h1) hb1 (cap:=c1) (by have h:=hc1;simp at h⊢;omega);dsimp only at hR2;rw [e1,←e2,←DF hk1,hpl] at hR2;refine AE (J (Ay Z Z (ωa _ (by omega)) Z) (goMv Z Z (AD ?_)));exact ⟨(k+1,MC pb k bn,some (b1,c1),_),⟨by show k+1≤_;omega,hR2,fun _=>Nat.succ_pos _⟩,by show p.ro.length - (k+1)<p.ro.length - k;omega,A0 hF [1,3,40,50,51] Z (Z) ⟨Z,Z,Z,Z,Z,Z,trivial⟩⟩
 ·refine BC (AC ?_);have hkk:k=p.ro.length:=by have h:=h34;omega
  subst hkk;rw [ωw] at hR⊢;have hwb2:M wb=some (Xa none 0 mh p.ro.length mv):=by have h:_=some (Xa none 0 mh (p.ro.map I3).length mv):=hR.w;rw [ψ] at h;exact h
  have hR3:=ZZ hR;have hmr:BF M mh Vd 1 ((List.range p.ro.length).map fun j=>BG (pb j)):=by have h:BF _ mh Vd 1 ((List.range (p.ro.map I3).length).map fun j=>BG (pb j)):=hR.rs.1 .m;rw [ψ] at h;exact h
  refine AE (goMv Z Z (J (DE Z Z) (J (CQ Z Jn Z Z Z) (J (Dn (f:=40) Z Z (hwb2) Z Vp Z) (V (ZO laysPo Tryz.func142 Z Z (f:=40) (bl:=pb) (px:=fun j=>poC (I3 (p.ro.getD j DB))) (tx:=fun _=>190) (JD (p.ro.map Roo.r)) (Pc _).swo (List.range p.ro.length) (Fu (p.ro.map Roo.r)) (by simp;omega) (Z0 p) (fun ys h1 h2=>XK hrn (by rw [ψ];exact h1) h2) Z Z (sort_px hR) (fun _ _=>poC_one _) Z Z Ku hmr Z (by simp) (fun h=>by have h1:=hmh h;intro h2;have h3:=Γ List.length h2;rw [ωh,φp] at h3;omega) Z Z) (AD (AC (AC ?_))))))))
  obtain ⟨its,hits⟩:∃its,ordP p=its:=⟨_,Z⟩
  have hoi:=HV p hf.b;rw [hits] at hoi
  obtain ⟨ros,hros⟩:∃ros,rosS p=ros:=⟨_,Z⟩
  have hitl:its.length≤30:=by rw [←hits];exact ωf (DK p) hf.i
  have hrol:ros.length≤100:=by rw [←hros];unfold rosS;rw [ψ,(Y3 _).length_eq,ωh,ψ];exact hrl
  have hitx:∀x∈its,dW x:=fun x hx=>hf.x x (HX (p:=p) (by rw [hits];exact hx));have hin:(its.map AK.id).Nodup:=by rw [←hits];exact F1 hE
  have hroN:(ros.map Roo.r).Nodup:=by rw [←hros];exact Md hE
  have hpin:=fun (r:AP) (h:r∈ros.map Roo.r)=>pm_in (z:= .pointer none) hrn (Y3 (p.ro.map Roo.r)) (f:=pb) (r:=r) (by rw [←UH,hros];exact h);have hpout:=fun (r:AP) (h:r∉ros.map Roo.r)=>pm_out (z:= .pointer none) (Y3 (p.ro.map Roo.r)) (f:=pb) (r:=r) (by rw [←UH,hros];exact h);rw [←UH,hros] at hpin;rw [hros] at hR3
  generalize Z1 M mh Vd ((Fu (p.ro.map Roo.r)).map fun x=>pD (pb x) 0)=M2 at hR3⊢
  obtain ⟨pb2,hpb2⟩:∃f:Nat ->Nat,(fun k=>pb ((Fu (p.ro.map Roo.r)).getD k 0))=f:=⟨_,Z⟩
  rw [hpb2] at hR3;have hpin2:∀r,r∈ros.map Roo.r ->A2 (Tu D5 pb (p.ro.map Roo.r)) r (.pointer none)=pV (pb2 ((ros.map Roo.r).idxOf r)) 0:=fun r h=>by rw [hpin r h,←hpb2]
  obtain ⟨pm,hpm⟩:∃m,Tu D5 pb (p.ro.map Roo.r)=m:=⟨_,Z⟩
  rw [hpm] at hpin2 hpout⊢;refine AE (J (BM Z Z B2 Z Z Z) (J (B4 (hoi) Z Z) (J (CM Z Tryz.underlying28 Z) (goMv Z Z (AD (A4 (B5 (α:=Nat×Nat×(Nat ->Nat)×Net×MF) (fun q=>⟨142,[(1,(.ptr 1 0 0)),(5,(.d (pD q.2.1 0))),(6,(.map 3 0)),(66,(.d (.sl none ((its.map AK.id).map AF)))),(67,(.d (AF ((its.map AK.id).length:Int)))),(68,(.d (AF (q.1:Int))))],[(1,[.blk 39 [.d (.sl none (p.ro.map CX)),.d (.sl none (p.it.map Ao))]]),(3,[BH CV K7 pm]),(40,[.multi q.2.2.2.2]),(50,[BH AF K7 (Fa q.2.2.1 ((its.take q.1).map AK.id))]),(51,[.addr 50 0 (.map (some mv))])]⟩) (fun q=>q.1≤its.length∧Bx q.2.1 mv q.2.2.1 pb2 q.2.2.2.1 q.2.2.2.2∧Ap q.2.2.2.1=FR ros its q.1) (fun q=>its.length - q.1) ((0,wb,(fun _=>0),⟨[],ros.map I3,none,mh⟩,M2)) (⟨Δ _,hR3,Xc ros its⟩) (A0 hF [1,3,40,50,51] Z Z ⟨Z,Z,Z,Z,Z,Z,trivial⟩) ?_)))))));rintro ⟨k,wb,nb,N,M⟩ ⟨hk0,hR,hT⟩;dsimp only at hk0 hR hT⊢;refine AC (AE (J (BV Z Z Z) (AD (AC (Ae Z (fun h69=>?_) (fun h69=>?_))))))
  ·have hk1:k<its.length:=by have h:=h69;rw [ψ] at h;exact Bf h
   refine A1 (AC (A4 (AC ?_)))
   obtain ⟨X,hX⟩:∃X,its.getD k itm0=X:=⟨_,Z⟩
   have hXk:its[k]=X:=by rw [←hX,Bp itm0 hk1]
   have hidk:X.id∉(its.take k).map AK.id:=by rw [←hXk];exact PH hin hk1
   have hitk:NL its X.id=(X,true):=by have h:=S3 hk1 (PH hin hk1) rfl;rw [hXk] at h;exact h
   have hip:=item_p p X.id hf.b;rw [hits,hitk] at hip;have hk70:((its.map AK.id).map AF)[k]? =some (AF X.id):=by rw [η,η,ω hk1,hXk];rfl
   refine AE (J (Bk (k) Z Z (Z) (hk70) Tryz.underlying28 Z BA Z) (J (D0 Z Z Aq Z) (AB Z Z (AD (AC (AE (J (BM Z Z B2 Z Z Z) (goMv Z Z ?_))))))));refine J (B4 (hip) Z Z) (goMv Z Z (J (DD Z Z Z) (J (DD Z Z Z) (V (CD 7 El Z Z Z Z) (V (Be Z Z Z Z Z Z Z Cd) (AB Z Z (AD (AC ?_))))))));refine AE (J (BM Z Z By Z Z Z) (J (FV zl184 pl184 Z Z Z) (aZ 79 Z (V (CC 8 Z Z Z Z Z Z Z) (AB Z Z (AD (AC (Y8 13 8 40 (ds:=ndC ⟨X,none,[],none,[],true⟩) hF Z Z Z Z Z Z Z Z Z Z Z (fun _=>rfl) fun bn hbn=>?_))))))));have hNk:N.nd.length=k:=nd_len hT;have hR1:=hR.fresh (m:=Th ⟨X,none,[],none,[],true⟩) hbn;have hnb:((List.range k).map nb).length=k:=by simp
   have hwb1:BO M bn (Th ⟨X,none,[],none,[],true⟩) wb=some (Xa N.nh ((List.range k).map nb).length N.mh N.po.length mv):=by rw [hnb];have h:_=some (Xa N.nh N.nd.length N.mh N.po.length mv):=hR1.w;rw [hNk] at h;exact h
   have hnr:BF (EV (BO M bn (Th ⟨X,none,[],none,[],true⟩)) wb) N.nh aC 1 (((List.range k).map nb).map BG):=by have h:BF _ N.nh aC 1 ((List.range N.nd.length).map fun j=>BG (nb j)):=(hR1.rs.del hR1.w).1 .n;rw [hNk] at h;rw [ωr];exact h
   refine a_split 5 20 40 Z Z Z hwb1 Z Z Z Z (Cb [[],[],[1],[1,2],[1,2,3],[],[],[6],[6,7],[6,7,8],[],[10],[6,7,8,9,10,11],[],[0,1,2,3,4,6,7,8,9,10,11,12],[0,1,2,3,4,6,7,8,9,10,11,12,14],[0,1,2,3,4,6,7,8,9,10,11,12,14,15],[0,1,2,3,4,5,6,7,8,9,10,11,12,14,15,16],[0,1,2,3,4,5,6,7,8,9,10,11,12,14,15,16,17],[0,1,2,3,4,5,6,7,8,9,10,11,12,13,14,15,16,17,18]] mixed Z (Cr (AJ [5] [] Z Z (fun _=>AG (Aj Z Z)) (AJ [5] [] Z Z (fun _=>AG (Aj Z Z)) (AJ [82] [] Z Z (fun _=>AG (KI Z Z)) (AJ [83] [] Z Z (fun _=>AG (AZ Z MA Z Z Z)) (AJ [84] [20,51] Z Z (fun _=>AG (XH 51 0 Z Z Z Z Vo Z)) ?_)))))));refine AJ [10] [] Z Z (fun _=>AG (Aj Z Z)) (AJ [5] [] Z Z (fun _=>AG (Aj Z Z)) (AJ [87] [] Z Z (fun _=>AG (KI Z Z)) (AJ [88] [] Z Z (fun _=>AG (AZ Z IS Z Z Z)) (AJ [89] [20] Z Z (fun _=>AG (A6 Z Z Z Fz Z)) (AJ [13] [] Z Z (fun _=>AG (Aj Z Z)) (Gn [91] [9] [(92,_)] Z Z (fun _=>Gp (D1 9 V7 Z Z Z Z Z Z Z Z)) (.inr ⟨92,_,Z,Z,Z,Z,Z⟩) Z Z Z Z Z (Gn [90,92] [60,40,9] [(93,_)] Z Z (fun _=>Gp (GU 90 60 40 hnr Z Z (by simp) Z Z Z Z Z (I0 (emb:=BG) ((List.range k).map nb) [bn] Z Z Z Z Z Z Z Z V7 (by simp;omega) Z Z Z Z))) (.inr ⟨93,_,Z,Z,Z,Z,Z⟩) Z Z Z Z Z (AJ [13] [] Z Z (fun _=>AG (Aj Z Z)) ?_))))))));refine AJ [81] [] Z Z (fun _=>AG (KI Z Z)) (AJ [95] [] Z Z (fun _=>AG (AZ Z IS Z Z Z)) (Gn [96,93] [20,60] [] Z Z (fun _=>Gp (Be Z Z Z Z Z Z Z sz175)) (.inl ⟨Z,Z⟩) Z Z Z Z Z (Gn [85,86] [50] [(97,_)] Z Z (fun _=>Gp (GQ (Fa nb ((its.take k).map AK.id)) (X.id) ((.pointer none)) Z Z Z WC HE VJ Z Z)) (.inr ⟨97,_,Z,Z,Z,Z,Z⟩) Z Z Z Z Z (AJ [97] [] Z Z (fun _=>AG (Cc Z Z Z)) (C3 19 Z Z Z (Aa 20 Z Z (V (GS (Fa nb ((its.take k).map AK.id)) (X.id) ((.pointer none)) (pV bn 0) Z Z Z HE Z Z) (AD ⟨Z,?_⟩))))))));refine C9 (AC (VA 93 60 40 20 0 hF Z Z Z (by simp) (by simp) Z Z (fun _ _=>rfl) (fun _ _=>rfl) Z (fun _ _=>rfl) (fun _ _=>rfl) Z Z (fun _ _=>rfl) (fun _ _=>rfl) (fun _ _=>rfl) (fun _ _=>rfl) fun b1 c1 hb1 hc1=>(Y8 5 20 40 (ds:=[hdr (some (b1,c1)) ((List.range k).map nb++ [bn]).length,hdr N.mh N.po.length,K7 (.map (some mv))]) hF Z Z Z Z Z Z Z Z Z Z Z (fun _=>rfl) fun wb2 hwb2=>?_)));have hby:Au (Fa nb ((its.take k).map AK.id)) X.id (pV bn 0)=Fa (MC nb k bn) ((its.take (k+1)).map AK.id):=by have h:=VT (d:=(0:Int)) (f:=nb) (b:=bn) hidk;rw [show ((its.take k).map AK.id).length=k by rw [ψ,Υ];omega,←hXk,←DF hk1] at h;rw [←hXk];exact h
   rw [hby];have e1:((List.range N.nd.length).map (fun j=>BG (nb j))++ [BG bn])=((List.range k).map nb++ [bn]).map BG:=by rw [hNk,ωe,ωr];rfl
   have e2:((List.range k).map nb++ [bn]).length=N.nd.length+1:=by simp;omega
   have hR2:=hR1.addN2 (x:=⟨X,none,[],none,[],true⟩) (bn:=bn) Z Z Z Z (EX _ _ _) (fun j hj e=>by have h1:=hR.n j _ (ω hj);rw [e,hbn] at h1;cases h1) hb1 (cap:=c1) (by have h:=hc1;simp at h;omega) (wb':=wb2) (by rw [e1];exact hwb2);rw [e1,←e2,hNk] at hR2;have hT0:=T_zeroX (x:=X) (nh:=some (b1,c1)) hX hT;have hfk:dW X:=hitx X (by rw [←hXk];exact κ hk1);have hdl:=MD hfk;refine AE (J (BM Z Z By Z Z Z) (J (B4 (Sw X (by have h:=hfk.1;omega) (by have h:=hfk.2.1;omega) (by have h:=hfk.2.2;omega)) Z Z) (goMv Z Z (J (DD Z Z Z) (J (DD Z Z Z) (AB Z Z (AB Z Z ?_)))))));refine AD (AC (AE (goMv Z Z (J (CM Z Tryz.underlying215 Z) (goMv Z Z (AD (A4 (B5 (α:=Nat×Net×MF) (fun r=>⟨142,[(1,(.ptr 1 0 0)),(5,(.d (pD wb2 0))),(6,(.map 3 0)),(66,(.d (.sl none ((its.map AK.id).map AF)))),(67,(.d (AF ((its.map AK.id).length:Int)))),(68,(.d (AF (k:Int)))),(13,(.d (pD bn 0))),(104,(.d (.sl none ((dltS X).map OV)))),(105,(.d (AF ((dltS X).length:Int)))),(106,(.d (AF (r.1:Int))))],[(1,[.blk 39 [.d (.sl none (p.ro.map CX)),.d (.sl none (p.it.map Ao))]]),(3,[BH CV K7 pm]),(40,[.multi r.2.2]),(50,[BH AF K7 (Fa (MC nb k bn) ((its.take (k+1)).map AK.id))]),(51,[.addr 50 0 (.map (some mv))])]⟩) (fun r=>r.1≤(dltS X).length∧Bx wb2 mv (MC nb k bn) pb2 r.2.1 r.2.2∧Ap r.2.1=EG ros its k r.1) (fun r=>(dltS X).length - r.1) ((0,_,_)) (⟨Δ _,hR2,hT0⟩) (A0 hF [1,3,40,50,51] Z Z ⟨Z,Z,Z,Z,Z,Z,Z,Z,Z,Z,trivial⟩) ?_))))))));rintro ⟨t,N3,M3⟩ ⟨ht0,hR4,hT3⟩;dsimp only at ht0 hR4 hT3⊢;refine AC (AE (J (BV Z Z Z) (AD (AC (Ae Z (fun h107=>?_) (fun h107=>?_))))))
   ·have ht1:t<(dltS X).length:=Bf h107;refine A1 (AC (A4 (AC (AE (J (Bk (t) Z Z (Z) (Ah ht1) Tryz.underlying215 Z VW Z) ?_)))));refine J (GN Z Z rw218 Z) (V (CD 10 Yh Z Z Z Z) (V (Be Z Z Z Z Z Z Z VW) (AD (AC (AE (goMv Z Z (J (AZ Z Ji Z Z Z) (J (BM Z Z CU Z Z Z) ?_))))))))
    by_cases hm:((dltS X)[t]).1∈ros.map Roo.r
    ·refine J (HF pm ((dltS X)[t]).1 (.pointer none) (pV (pb2 ((ros.map Roo.r).idxOf ((dltS X)[t]).1)) 0) Z Z Z WB CI Yk (hpin2 _ hm) Z) (AB Z Z (AD (AC (AE (goMv Z Z (J (RM Tryz.underlying186 Z Z) (AD (DV Z (Z) ?_))))))));have hnl3:N3.nd.length=k+1:=T_nd hT3;have hpl3:N3.po.length=ros.length:=T_po hT3
     obtain ⟨x,hx⟩:∃x,N3.nd[k]? =some x:=⟨_,ω (by omega)⟩
     have hjl:(ros.map Roo.r).idxOf ((dltS X)[t]).1<N3.po.length:=by rw [hpl3];have h:=ψo hm;rw [ψ] at h;exact h
     obtain ⟨y,hy⟩:∃y,N3.po[(ros.map Roo.r).idxOf ((dltS X)[t]).1]? =some y:=⟨_,ω hjl⟩
     have hbd:=dO hitl hitx hk1 hT3 hx hy;have hda:=Jx X _ (κ ht1);have hj:=join_c hR4 hx hy ((dltS X)[t]).2 ⟨by omega,by omega⟩ hbd.1 hbd.2.1 hbd.2.2.1 hbd.2.2.2;rw [Fl] at hj;refine AE (goMv Z Z (goMv Z Z (J (AZ Z WW Z Z Z) (J (A6 Z Z Z JG Z) ?_))));refine CY (Wm hj Z [40] ⟨Z,trivial⟩ Z Z Z Z (fun r H' ⟨e1,N',M',e2,_⟩=>by subst e1 e2;exact ⟨Z,Z,Z⟩) Z) Z ?_;rintro _ ⟨r,H',⟨rfl,N4,M4,rfl,hR5,hnh4,hmh4,⟨x',hx4,ex4⟩,y',hy4,ey4⟩,rfl⟩;refine AD (AE (J (Ay Z Z (ωa _ (by omega)) Z) (goMv Z Z (AD ?_))));exact ⟨(t+1,N4,M4),⟨by show t+1≤_;omega,hR5,T_stepX hX hroN hk1 ht1 hT3 Z hm hx hy hx4 ex4 hy4 ey4⟩,by show (dltS X).length - (t+1)<(dltS X).length - t;omega,A0 hF [1,3,40,50,51] Z (Z) ⟨Z,Z,Z,Z,Z,Z,Z,Z,Z,Z,trivial⟩⟩
    ·refine J (HF pm ((dltS X)[t]).1 (.pointer none) (.pointer none) Z Z Z WB CI Yk (hpout _ hm) Z) (AB Z Z (AD (AC (AE ?_))));refine goMv Z Z (J (RM Tryz.underlying186 Z Z) (AD (EN Z (Z) (A1 (AE (J (Ay Z Z (ωa _ (by omega)) Z) (goMv Z Z (AD ?_))))))));exact ⟨(t+1,N3,M3),⟨by show t+1≤_;omega,hR4,by show Ap N3=EG ros its k (t+1);rw [T_skipX hX ht1 hm];exact hT3⟩,by show (dltS X).length - (t+1)<(dltS X).length - t;omega,A0 hF [1,3,40,50,51] Z (Z) ⟨Z,Z,Z,Z,Z,Z,Z,Z,Z,Z,trivial⟩⟩
   ·refine BC ?_;have hte:t=(dltS X).length:=by have h:=h107;omega
    have hT5:Ap N3=FR ros its (k+1):=by rw [←T_lastX hX hk1,←hte];exact hT3
    refine AE (J (Ay Z Z (ωa _ (by omega)) Z) (goMv Z Z (AD ?_)));exact ⟨(k+1,wb2,MC nb k bn,N3,M3),⟨by show k+1≤_;omega,hR4,hT5⟩,by show its.length - (k+1)<its.length - k;omega,A0 hF [1,3,40,50,51] Z (Z) ⟨Z,Z,Z,Z,Z,Z,trivial⟩⟩
  ·refine BC (AC (AC ?_));have hke:k=its.length:=by have h:=h69;rw [ψ] at h;omega
   subst hke;rw [ωw];have hwbf:=hR.w;have hpzf:N.mh=none ->N.po.length=0:=fun h=>by have h1:BF M N.mh Vd 1 ((List.range N.po.length).map fun j=>BG (pb2 j)):=hR.rs.1 .m;have h2:=Ta h1 h;rw [ωh] at h2;exact h2
   have hids:=ids_of hT;have hNl:N.po.length=ros.length:=po_len hT;refine AE ?_;refine goMv Z Z (J (DE Z Z) (J (CQ Z Jn Z Z Z) (J (Dn (f:=40) Z Z (hwbf) Z Vp Z) (J (VF hpzf Z Tryz.underlying177 Z) (goMv Z Z (AD (A4 (B5 (α:=Nat×Net×MF) (fun r=>⟨142,[(5,(.d (pD wb 0))),(126,(.d (hdr N.mh N.po.length))),(127,(.d (AF (N.po.length:Int)))),(128,(.d (AF (r.1:Int))))],[(40,[.multi r.2.2]),(50,[BH AF K7 (Fa nb (its.map AK.id))]),(51,[.addr 50 0 (.map (some mv))])]⟩) (fun r=>r.1≤N.po.length∧Bx wb mv nb pb2 r.2.1 r.2.2∧r.2.1.nd=N.nd∧r.2.1.mh=N.mh∧r.2.1.po=(N.po.take r.1).map Kr++N.po.drop r.1) (fun r=>N.po.length - r.1) ((0,N,M)) (⟨Δ _,hR,Z,Z,Z⟩) (A0 hF [40,50,51] Z Z ⟨Z,Z,Z,Z,trivial⟩) ?_))))))));rintro ⟨j,N5,M5⟩ ⟨hj0,hR5,hnd5,hmh5,hpo5⟩;dsimp only at hj0 hR5 hnd5 hmh5 hpo5⊢;refine AC (AE (J (BV Z Z Z) (AD (AC (Ae Z (fun h129=>?_) (fun h129=>?_))))))
   ·have hj1:j<N.po.length:=Bf h129;refine A1 (AC (A4 (AC ?_)));have hl5:N5.po.length=N.po.length:=by rw [hpo5];simp;omega
    have hpr5:BF M5 N.mh Vd 1 ((List.range N.po.length).map fun j=>BG (pb2 j)):=by have h:BF M5 N5.mh Vd 1 ((List.range N5.po.length).map fun j=>BG (pb2 j)):=hR5.rs.1 .m;rw [hl5,hmh5] at h;exact h
    obtain ⟨rb,rc,hre⟩:=Tj hpr5 (j:=j) (by rw [ωh];exact hj1);have hrow:=Qm hpr5 hre
    obtain ⟨y,hy⟩:∃y,N5.po[j]? =some y:=⟨_,ω (by omega)⟩
    obtain ⟨hyb,hyq⟩:=hR5.pp j y hy;have hqz:=Ta hyq;refine AE (J (VB hre (j) Z Z Z hj1 Tryz.underlying177 ZH Z) (J (Zcx (f:=40) (e:=j) (off:=0) Z (by omega) Z (hrow) ((by rw [η,ψu hj1];rfl)) Z ET Z) ?_));refine AB Z Z (AD (AE (goMv Z Z ?_)));refine goMv Z Z (J (DE Z Z) (J (CQ Z Gg Z Z Z) (J (Dn (f:=40) Z Z (hyb) Z Fz Z) (J (VF hqz Z Tryz.underlying175 Z) (J (DE Z Z) (J (CQ Z Jj Z Z Z) (V (O2 (f:=40) Z Z Z Z (hyb) ((by show _<10;omega)) Z BA) (AD ?_))))))));have hR6:=hR5.setPo (y':=Kr y) hy Z Z;refine AE (J (Ay Z Z (ωa _ (by omega)) Z) (goMv Z Z (AD ?_)));exact ⟨(j+1,{N5 with po:=N5.po.set j (Kr y)},_),⟨by show j+1≤_;omega,hR6,hnd5,hmh5,bp hj1 hpo5 hy⟩,by show N.po.length - (j+1)<N.po.length - j;omega,A0 hF [40,50,51] Z (Z) ⟨Z,Z,Z,Z,trivial⟩⟩
   ·refine BC (AC ?_);have hje:j=N.po.length:=by have h:=h129;omega
    subst hje;rw [ωw,List.drop_length,ωl] at hpo5;have hids5:BP N5=its.map AK.id:=by unfold BP at hids⊢;rw [hnd5];exact hids
    refine AE (goMv Z Z (AB Z Z (AB Z Z (AD (A5 ?_)))));exact ⟨_,[40,50,51],_,A3 Z,Z,Z,wb,mv,nb,pb2,N5,M5,some (List.range (Fa nb (its.map AK.id)).length,(Fa nb (its.map AK.id)).length),Z,by rw [hids5];rfl,hR5,by rw [net_fin hits hros];exact aj hT hnd5 hpo5⟩
end Go.Proofs.YteifpcnphnhaoaaGreat
namespace Go.Proofs.YteifpcnphnhaoaaGreat
open Go.RowKit
def Ep (ds:List (List (AP×Int))) (on:Nat ->Bool) (r:AP):Int:=((List.range ds.length).map fun i=>if on i=true then CB (ds.getD i []) r else 0).sum
def bB (on:Nat ->Bool) (q:List Nat):Nat:=q.findIdx fun i=>!on i
def aB (ds:List (List (AP×Int))) (on:Nat ->Bool) (x:Roo):Po:=⟨x.r,x.n,Ep ds on x.r,none,negQ ds x.r,bB on (negQ ds x.r)⟩
def Ke (rs:List AP) (its:List AK) (on:Nat ->Bool) (i:Nat):Nd:={ap rs ((its.map dltS).take i) (its.getD i itm0) (dltS (its.getD i itm0)) with on:=on i}
def netS (ros:List Roo) (its:List AK) (on:Nat ->Bool):Net:=⟨(List.range its.length).map (Ke (ros.map Roo.r) its on),ros.map (aB (its.map dltS) on),none,none⟩
def A7 (on:Nat ->Bool) (i:Nat):Nat ->Bool:=fun j=>if j=i then false else on j
theorem WH (q:List Nat):bB (fun _=>true) q=q.length:=by
 unfold bB;exact List.findIdx_eq_length.2 fun x _=>rfl
theorem ZK (ds:List (List (AP×Int))) (r:AP):Ep ds (fun _=>true) r=(ds.map fun D=>CB D r).sum:=by
 unfold Ep
 congr 1
 apply χa (by simp)
 intro i h1 h2;simp only [ωb,ψp,if_true];rw [Bp [] (by simpa using h2)]
theorem al (p:Prb):am p=netS (rosS p) (ordP p) fun _=>true:=by
 unfold am netS FR H1;dsimp only;rw [ωr]
 congr 1
 refine ωi fun x _=>?_;have ht:((ordP p).map dltS).take (ordP p).length=(ordP p).map dltS:=Ξ (by simp);show Kr (US _ x)=_;unfold Kr US aB;rw [ht,ZK,WH]
theorem QX {ros:List Roo} {f g:Roo ->Po} {j:Nat} (hj:j<ros.length) {y:Po} (hn:(ros.map Roo.r).Nodup) (h1:y=g ros[j]) (h2:∀x∈ros,x.r≠ros[j].r ->f x=g x):(ros.map f).set j y=ros.map g:=by
 refine χs fun i=>?_;rw [χr]
 by_cases e:j=i
 ·subst e;rw [θ Z,θ (by simpa using hj),η,ω hj,h1];rfl
 ·rw [ϑ e,η,η]
  cases hi:ros[i]? with
  | none=>rfl
  | some z=>
   have hil:=χ.1 hi;show some _=some _
   rw [h2 z (ζ hi) fun e2=>e (by
    have h3:(ros.map Roo.r)[j]'(by simpa using hj)=(ros.map Roo.r)[i]'(by simpa using hil.1):=by
     rw [ωb,ωb,hil.2,e2]
    exact (List.getElem_inj hn).1 h3)]
theorem Ly {ros:List Roo} {r:AP} (hm:r∈ros.map Roo.r):∃hj:(ros.map Roo.r).idxOf r<ros.length,ros[(ros.map Roo.r).idxOf r].r=r:=by
 have h:=ψo hm;have h1:=φa h;rw [ωb] at h1;exact ⟨by simpa using h,h1⟩
theorem ZM {ros:List Roo} (hn:(ros.map Roo.r).Nodup) (f:Roo ->Po):∀(D:List (AP×Int)),(D.map Prod.fst).Nodup ->(Uk (ros.map Roo.r) D).foldl L7 (ros.map f)=ros.map fun x=>{f x with sum:=(f x).sum - CB D x.r}:=by
 intro D
 induction D using Y9 with
 | h0=>
  intro _;show ros.map f=_;refine ωi fun x _=>?_;show f x={f x with sum:=(f x).sum - 0}
  rw [Int.sub_zero]
 | h1 D d ih=>
  intro hD;rw [ωe,χo] at hD;have hdn:d.1∉D.map Prod.fst:=fun h=>hD.2.2 _ h _ (List.mem_singleton_self _) rfl;have ih:=ih hD.1
  by_cases hm:d.1∈ros.map Roo.r
  ·rw [Uj hm,List.foldl_append,ih];obtain ⟨hj,hr⟩:=Ly hm;show L7 _ ((ros.map Roo.r).idxOf d.1,d.2)=_;rw [V3 (y:=(fun x=>{f x with sum:=(f x).sum - CB D x.r}) ros[(ros.map Roo.r).idxOf d.1]) (by rw [η,ω hj];rfl)];refine QX hj hn ?_ fun x hx hne=>?_
   ·dsimp only;have h1:CB (D++ [d]) ros[(ros.map Roo.r).idxOf d.1].r=d.2:=by rw [hr];exact DP hdn
    have h2:CB D ros[(ros.map Roo.r).idxOf d.1].r=0:=by rw [hr];exact EI hdn
    rw [h1,h2,Int.sub_zero]
   ·rw [hr] at hne;have:CB (D++ [d]) x.r=CB D x.r:=Cx hne;rw [this]
  ·rw [QZ hm,ih];refine ωi fun x hx=>?_;have:CB (D++ [d]) x.r=CB D x.r:=Cx fun e=>hm (e▸ν.2 ⟨x,hx,Z⟩);rw [this]
theorem az {ros:List Roo} (hn:(ros.map Roo.r).Nodup) (f:Roo ->Po) (ds:List (List (AP×Int))):∀(D:List (AP×Int)),(D.map Prod.fst).Nodup ->(plK (ros.map Roo.r) ds D).foldl OQ (ros.map f)=ros.map fun x=>{f x with mi:=if CB D x.r<0 then min (f x).mi (negQ ds x.r).length else (f x).mi}:=by
 intro D
 induction D using Y9 with
 | h0=>
  intro _;show ros.map f=_;refine ωi fun x _=>?_;have h0:CB [] x.r=0:=rfl;rw [h0,ϑ (by omega)]
 | h1 D d ih=>
  intro hD;rw [ωe,χo] at hD;have hdn:d.1∉D.map Prod.fst:=fun h=>hD.2.2 _ h _ (List.mem_singleton_self _) rfl;have ih:=ih hD.1
  by_cases hm:d.1∈ros.map Roo.r∧d.2<0
  ·rw [aG hm.1 hm.2,List.foldl_append,ih];obtain ⟨hj,hr⟩:=Ly hm.1;show OQ _ ((ros.map Roo.r).idxOf d.1,(negQ ds d.1).length)=_;rw [WG (y:=(fun x=>{f x with mi:=if CB D x.r<0 then min (f x).mi (negQ ds x.r).length else (f x).mi}) ros[(ros.map Roo.r).idxOf d.1]) (by rw [η,ω hj];rfl)];refine QX hj hn ?_ fun x hx hne=>?_
   ·dsimp only;have h1:CB (D++ [d]) ros[(ros.map Roo.r).idxOf d.1].r=d.2:=by rw [hr];exact DP hdn
    have h2:CB D ros[(ros.map Roo.r).idxOf d.1].r=0:=by rw [hr];exact EI hdn
    rw [h1,h2,ϑ (by omega),θ hm.2,hr]
   ·rw [hr] at hne;have:CB (D++ [d]) x.r=CB D x.r:=Cx hne;rw [this]
  ·rw [Pv hm,ih];refine ωi fun x hx=>?_
   by_cases e:x.r=d.1
   ·have hin:d.1∈ros.map Roo.r:=e▸ν.2 ⟨x,hx,Z⟩;have h1:CB (D++ [d]) x.r=d.2:=by rw [e];exact DP hdn
    have h2:CB D x.r=0:=by rw [e];exact EI hdn
    rw [h1,h2,ϑ (by omega),ϑ (fun h=>hm ⟨hin,h⟩)]
   ·have:CB (D++ [d]) x.r=CB D x.r:=Cx e;rw [this]
theorem Zcm {on:Nat ->Bool} {i j:Nat} (h:j≠i):A7 on i j=on j:=ϑ h
theorem Ee {on:Nat ->Bool} {i:Nat}:A7 on i i=false:=θ rfl
theorem Hh {α:Type} (p:α ->Bool) (l m:List α):(l++m).findIdx p=if l.findIdx p<l.length then l.findIdx p else m.findIdx p+l.length:=List.findIdx_append
theorem Iz {α:Type} {p q:α ->Bool}:∀{l:List α},(∀x∈l,p x=q x) ->l.findIdx p=l.findIdx q
 | [],_=>rfl
 | a::l,h=>by
  rw [List.findIdx_cons,List.findIdx_cons,h a (ωk ..),Iz fun x hx=>h x (ωn _ hx)]
theorem ID {n i:Nat} (h:i<n):∃B:List Nat,List.range n=List.range i++i::B∧∀j∈B,i<j:=by
 refine ⟨List.range' (i+1) (n - i - 1),?_,fun j hj=>?_⟩
 ·rw [List.range_eq_range',List.range_eq_range'];have h1:n=i+(1+(n - i - 1)):=by omega
  conv=>lhs;rw [h1]
  rw [←List.range'_append_1,ψs,Nat.add_comm 1 (n - i - 1),List.range'_succ]
 ·rw [List.mem_range'_1] at hj;omega
theorem My {ds:List (List (AP×Int))} {i:Nat} (h:i<ds.length) (r:AP):∃B:List Nat,negQ ds r=negQ (ds.take i) r++((if CB (ds.getD i []) r<0 then [i] else [])++B)∧(∀j∈negQ (ds.take i) r,j<i)∧∀j∈B,i<j:=by
 obtain ⟨B,h1,h2⟩:=ID h;refine ⟨B.filter fun i=>decide (CB (ds.getD i []) r<0),?_,fun j hj=>?_,fun j hj=>h2 j (Ω.1 hj).1⟩
 ·unfold negQ;rw [h1,ψc,ψv,show (ds.take i).length=i by rw [Υ];omega]
  congr 1
  ·refine χq fun j hj=>?_;have hj':=Θ.1 hj;rw [ϱ,ϱ,ψg hj']
  ·by_cases h0:CB (ds.getD i []) r<0
   ·rw [θ (ωc h0),θ h0];rfl
   ·rw [ϑ (by simpa using h0),ϑ h0];rfl
 ·unfold negQ at hj;have:=Θ.1 (Ω.1 hj).1;rw [Υ] at this;omega
theorem miS_off {ds:List (List (AP×Int))} {i:Nat} (h:i<ds.length) (on:Nat ->Bool) (r:AP):bB (A7 on i) (negQ ds r)=if CB (ds.getD i []) r<0 then min (bB on (negQ ds r)) (negQ (ds.take i) r).length else bB on (negQ ds r):=by
 obtain ⟨B,h1,h2,h3⟩:=My h r;rw [h1]
 generalize negQ (ds.take i) r=A at h2⊢
 have hA:A.findIdx (fun j=>!A7 on i j)=A.findIdx fun j=>!on j:=Iz fun j hj=>by
  rw [Zcm (by have:=h2 j hj;omega)]
 have hB:B.findIdx (fun j=>!A7 on i j)=B.findIdx fun j=>!on j:=Iz fun j hj=>by
  rw [Zcm (by have:=h3 j hj;omega)]
 unfold bB
 by_cases h0:CB (ds.getD i []) r<0
 ·rw [θ h0,θ h0,Hh (fun j=>!A7 on i j) A,Hh (fun j=>!on j) A,hA]
  split
  ·omega
  ·have:(([i]:List Nat)++B).findIdx (fun j=>!A7 on i j)=0:=by
    rw [List.singleton_append,List.findIdx_cons];rw [Ee];rfl
   rw [this];omega
 ·rw [ϑ h0,ϑ h0,List.nil_append,Hh (fun j=>!A7 on i j) A,Hh (fun j=>!on j) A,hA,hB]
theorem ZJ {ds:List (List (AP×Int))} {i:Nat} (h:i<ds.length) {on:Nat ->Bool} (ho:on i=true) (r:AP):Ep ds (A7 on i) r=Ep ds on r - CB (ds.getD i []) r:=by
 obtain ⟨B,h1,h3⟩:=ID h;unfold Ep;rw [h1,ωe,ωe,ωm,ωm,χc,χc,χd,χd]
 have e1:(List.range i).map (fun j=>if A7 on i j=true then CB (ds.getD j []) r else 0)=(List.range i).map fun j=>if on j=true then CB (ds.getD j []) r else 0:=ωi fun j hj=>by
  rw [Zcm (by have:=Θ.1 hj;omega)]
 have e2:B.map (fun j=>if A7 on i j=true then CB (ds.getD j []) r else 0)=B.map fun j=>if on j=true then CB (ds.getD j []) r else 0:=ωi fun j hj=>by
  rw [Zcm (by have:=h3 j hj;omega)]
 have e3:(if A7 on i i=true then CB (ds.getD i []) r else 0)=0:=by rw [Ee];rfl
 rw [e1,e2,e3,θ ho];omega
theorem V2:∀(l:List (Nat×Int)) (po:List Po),(l.foldl L7 po).map CP=l.foldl L7 (po.map CP)
 | [],_=>rfl
 | e::l,po=>by
  rw [List.foldl_cons,List.foldl_cons,V2 l]
  congr 1
  unfold L7;rw [η]
  cases po[e.1]? with
  | none=>rfl
  | some y=>show (po.set e.1 _).map CP=_;rw [List.map_set];rfl
theorem WE:∀(l:List (Nat×Nat)) (po:List Po),(l.foldl OQ po).map CP=l.foldl OQ (po.map CP)
 | [],_=>rfl
 | e::l,po=>by
  rw [List.foldl_cons,List.foldl_cons,WE l]
  congr 1
  unfold OQ;rw [η]
  cases po[e.1]? with
  | none=>rfl
  | some y=>show (po.set e.1 _).map CP=_;rw [List.map_set];rfl
theorem rm_S {ros:List Roo} {its:List AK} (hn:(ros.map Roo.r).Nodup) {on:Nat ->Bool} {N:Net} (h:Ap N=netS ros its on) {i:Nat} (hi:i<its.length) (ho:on i=true) {x:Nd} (hx:N.nd[i]? =some x):Ap (rmN N i x)=netS ros its (A7 on i):=by
 have hnd:N.nd.map Du=(List.range its.length).map (Ke (ros.map Roo.r) its on):=Γ Net.nd h;have hpo:N.po.map CP=ros.map (aB (its.map dltS) on):=Γ Net.po h
 have hxe:Du x=Ke (ros.map Roo.r) its on i:=by
  have h1:(N.nd.map Du)[i]? =some (Du x):=by rw [η,hx];rfl
  rw [hnd,η,ψu hi] at h1;exact (Option.some.inj h1).symm
 have hef:x.ef=Uk (ros.map Roo.r) (dltS (its.getD i itm0)):=Γ Nd.ef hxe;have hpl:x.pl=plK (ros.map Roo.r) ((its.map dltS).take i) (dltS (its.getD i itm0)):=Γ Nd.pl hxe;have hdi:i<(its.map dltS).length:=by simpa using hi
 have hgi:(its.map dltS).getD i []=dltS (its.getD i itm0):=by rw [Bp [] hdi,Bp itm0 hi,ωb]
 unfold Ap rmN netS;dsimp only
 congr 1
 ·rw [List.map_set,hnd]
  have:Du (EF x)=Ke (ros.map Roo.r) its (A7 on i) i:=by
   have h1:Du (EF x)=EF (Du x):=rfl;rw [h1,hxe];unfold Ke EF A7;rw [θ rfl]
  rw [this];refine χs fun j=>?_;rw [χr]
  by_cases e:i=j
  ·subst e;rw [θ Z,θ (by simpa using hi),η,ψu hi];rfl
  ·rw [ϑ e,η,η]
   cases hj:(List.range its.length)[j]? with
   | none=>rfl
   | some z=>
    have hz:=χ.1 hj;have:z=j:=by have:=hz.2;simp at this;exact this.symm
    subst this;show some _=some _;unfold Ke A7;rw [ϑ (fun h=>e h.symm)]
 ·rw [WE,V2,hpo,hef,hpl,ZM hn _ _ (Zcc _),az hn _ _ _ (Zcc _)];refine ωi fun z _=>?_;unfold aB;dsimp only;rw [ZJ hdi ho,miS_off hdi,hgi]
theorem FJ (N:Net) (i:Nat):(Ap N).nd.getD i Bc=Du (N.nd.getD i Bc):=by
 show (N.nd.map Du).getD i Bc=_;rw [ϱ,ϱ,η]
 cases N.nd[i]?<;>rfl
theorem Hk (N:Net) (j:Nat):(Ap N).po.getD j Bz=CP (N.po.getD j Bz):=by
 show (N.po.map CP).getD j Bz=_;rw [ϱ,ϱ,η]
 cases N.po[j]?<;>rfl
theorem Gi (N:Net):BP (Ap N)=BP N:=by
 unfold BP Ap;rw [ωr];rfl
theorem Xv (N:Net) (x:Nd):F6 (Ap N) (Du x)=F6 N x:=by
 have h1:badP (Ap N)=badP N:=funext fun e=>by unfold badP;rw [Hk];rfl
 have h2:∀e,N6 (Ap N) (Du x) e=N6 N x e:=fun e=>by unfold N6;rw [Hk,FJ];rfl
 have h3:offOf (Ap N)=offOf N:=funext fun e=>by unfold offOf;rw [FJ,Gi];rfl
 unfold F6;rw [h1,h3];show (match x.pl.find? (badP N) with | some e=>_ | none=>match x.it.af.find? (offOf N) with | some id=>_ | none=>_)=_
 cases x.pl.find? (badP N) with
 | some e=>show some (N6 (Ap N) (Du x) e)=some (N6 N x e);rw [h2]
 | none=>rfl
theorem SE (N:Net):DO (Ap N)=DO N:=by
 have h1:(Ap N).nd.findSome? (ndX (Ap N))=N.nd.findSome? (ndX N):=by
  show (N.nd.map Du).findSome? _=_;rw [List.findSome?_map]
  congr 1
  funext x
  show ndX (Ap N) (Du x)=ndX N x;unfold ndX;rw [Xv];rfl
 have h2:(Ap N).po.findSome? (Tf (Ap N))=N.po.findSome? (Tf N):=by
  show (N.po.map CP).findSome? _=_;rw [List.findSome?_map]
  congr 1
  funext y
  show Tf (Ap N) (CP y)=Tf N y;have h3:onN (Ap N)=onN N:=funext fun i=>by unfold onN;rw [FJ];rfl
  have h4:∀i,((Ap N).nd.getD i Bc).it.id=(N.nd.getD i Bc).it.id:=fun i=>by rw [FJ];rfl
  unfold Tf;rw [h3];show (if ON y y.sum=true then (y.q.reverse.find? (onN N)).map fun i=>(⟨((Ap N).nd.getD i Bc).it.id,0,y.r,-1⟩:JH) else none)=_;rw [show (fun i=>(⟨((Ap N).nd.getD i Bc).it.id,0,y.r,-1⟩:JH))=fun i=>⟨(N.nd.getD i Bc).it.id,0,y.r,-1⟩ from funext fun i=>by rw [h4]]
 unfold DO;rw [h1,h2]
theorem bb {N:Net} {x:Nd} {e:JH} (h:F6 N x=some e):e.id=x.it.id:=by
 unfold F6 at h
 split at h
 ·injection h with h;subst h;rfl
 ·split at h
  ·injection h with h;subst h;rfl
  ·cases h
theorem Pz {N:Net} {e:JH} (h:DO N=some e):∃(i:Nat) (x:Nd),N.nd[i]? =some x∧x.on=true∧e.id=x.it.id:=by
 unfold DO at h
 split at h
 ·rename_i e' h1
  injection h with h;subst h
  obtain ⟨x,hx,h2⟩:=List.exists_of_findSome?_eq_some h1;obtain ⟨i,hi,e1⟩:=ωt hx;unfold ndX at h2
  split at h2
  ·rename_i ho
   exact ⟨i,x,by rw [ω hi,e1],ho,bb h2⟩
  ·cases h2
 ·obtain ⟨y,hy,h2⟩:=List.exists_of_findSome?_eq_some h;unfold Tf at h2
  split at h2
  ·cases hf:y.q.reverse.find? (onN N) with
   | none=>rw [hf] at h2;cases h2
   | some i=>
    rw [hf] at h2;injection h2 with h2;subst h2
    have ho:=List.find?_some hf;unfold onN at ho
    by_cases hi:i<N.nd.length
    ·rw [Bp Bc hi] at ho;exact ⟨i,N.nd[i],ω hi,ho,by show (N.nd.getD i Bc).it.id=_;rw [Bp Bc hi]⟩
    ·rw [ϱ,ωv (by omega)] at ho
     cases ho
  ·cases h2
structure SmO (ros:List Roo) (its:List AK):Prop where
 l:its.length≤30
 x:∀x∈its,dW x
 i:(its.map AK.id).Nodup
 a:∀x∈its,∀id∈x.af,id∈its.map AK.id
 r:(ros.map Roo.r).Nodup
 n:∀x∈ros,-4000000000000000≤x.n∧x.n≤4000000000000000
 o:ros.length≤100
theorem S_nd {ros:List Roo} {its:List AK} {on:Nat ->Bool} {x:Nd} (h:x∈(netS ros its on).nd):∃i,i<its.length∧x=Ke (ros.map Roo.r) its on i:=by
 obtain ⟨i,hi,e⟩:=ν.1 h;exact ⟨i,Θ.1 hi,e.symm⟩
theorem Pd (ros:List Roo) (its:List AK) (on:Nat ->Bool):BP (netS ros its on)=its.map AK.id:=by
 unfold BP netS;rw [ωr]
 apply χa (by simp)
 intro i a b;simp only [ωb,ψp,Function.comp];show (its.getD i itm0).id=_;rw [Bp itm0 (by simpa using b)]
theorem efK_mem {rs:List AP} {D:List (AP×Int)} {e:Nat×Int} (h:e∈Uk rs D):∃d∈D,e.2=d.2:=by
 obtain ⟨d,hd,rfl⟩:=ν.1 h;exact ⟨d,(Ω.1 hd).1,Z⟩
theorem plK_mem {rs:List AP} {ds:List (List (AP×Int))} {D:List (AP×Int)} {e:Nat×Nat} (h:e∈plK rs ds D):∃d∈D,d.1∈rs∧d.2<0∧e=(rs.idxOf d.1,(negQ ds d.1).length):=by
 obtain ⟨d,hd,rfl⟩:=ν.1 h;have h1:=Ω.1 hd;have h2:=h1.2;simp only [ωd,ωs] at h2;exact ⟨d,h1.1,h2.1,h2.2,Z⟩
theorem S_sum {ros:List Roo} {its:List AK} (h:SmO ros its) (on:Nat ->Bool) (r:AP): -30000000000000000≤Ep (its.map dltS) on r∧Ep (its.map dltS) on r≤30000000000000000:=by
 have key:∀l:List Nat,-(l.length*1000000000000000)≤(l.map fun i=>if on i=true then CB ((its.map dltS).getD i []) r else 0).sum∧(l.map fun i=>if on i=true then CB ((its.map dltS).getD i []) r else 0).sum≤l.length*1000000000000000:=by
  intro l
  induction l with
  | nil=>simp
  | cons i l ih=>
   simp only [ωm,χd,ψl]
   have hb:Qo ((its.map dltS).getD i []):=by
    rcases getD_mem (l:=its.map dltS) (d:=[]) i with hm | hm
    ·obtain ⟨x,_,e⟩:=ν.1 hm;rw [←e];exact Jx x
    ·rw [hm];intro x hx;cases hx
   have h1:=We hb r
   split<;>omega
 have h1:=key (List.range (its.map dltS).length);have h2:=h.l;unfold Ep;rw [ωh,ψ] at h1;rw [ψ] at*;omega
theorem S_w {ros:List Roo} {its:List AK} (h:SmO ros its) (on:Nat ->Bool):NetW (netS ros its on):=by
 have hl:=h.l
 have hmi:∀y∈(netS ros its on).po,y.q.length≤30∧y.mi≤30∧∃x∈ros,y=aB (its.map dltS) on x:=fun y hy=>by
  obtain ⟨x,hx,e⟩:=ν.1 hy;subst e;have h1:=J2 (its.map dltS) x.r;rw [ψ] at h1;have h2:bB on (negQ (its.map dltS) x.r)≤(negQ (its.map dltS) x.r).length:=List.findIdx_le_length;exact ⟨by show (negQ _ _).length≤_;omega,by show bB _ _≤_;omega,x,hx,Z⟩
 refine ⟨by rw [Pd];exact h.i,fun x hx id hid=>?_,fun x hx=>?_,fun x hx e he=>?_,fun x hx e he=>?_,fun y hy=>?_,fun y hy=>?_,?_,fun y hy=>?_⟩
 ·obtain ⟨i,hi,rfl⟩:=S_nd hx;rw [Pd];refine h.a (its.getD i itm0) (by rw [Bp itm0 hi];exact κ hi) id hid
 ·obtain ⟨i,hi,rfl⟩:=S_nd hx;have hm:its.getD i itm0∈its:=by rw [Bp itm0 hi];exact κ hi
  have h1:=MD (h.x _ hm);have h2:=WY (ros.map Roo.r) (dltS (its.getD i itm0));have h3:=Vg (ros.map Roo.r) ((its.map dltS).take i) (dltS (its.getD i itm0));have h4:=(h.x _ hm).2.2;exact ⟨by show (Uk _ _).length≤_;omega,by show (plK _ _ _).length≤_;omega,by show (its.getD i itm0).af.length≤_;omega⟩
 ·obtain ⟨i,hi,rfl⟩:=S_nd hx;obtain ⟨d,hd,e1⟩:=efK_mem he;have:=Jx _ d hd;rw [e1];omega
 ·obtain ⟨i,hi,rfl⟩:=S_nd hx;obtain ⟨d,hd,hm,hneg,rfl⟩:=plK_mem he;obtain ⟨hj,hr⟩:=Ly hm;have hdi:i<(its.map dltS).length:=by simpa using hi
  have hgi:(its.map dltS).getD i []=dltS (its.getD i itm0):=by rw [Bp [] hdi,Bp itm0 hi,ωb]
  have hamt:CB ((its.map dltS).getD i []) d.1=d.2:=by rw [hgi];exact Zcb (Zcc _) hd
  obtain ⟨B,c1,c2,c3⟩:=My hdi d.1
  have hq:((netS ros its on).po.getD ((ros.map Roo.r).idxOf d.1) Bz).q=negQ (its.map dltS) d.1:=by
   show ((ros.map _).getD _ Bz).q=_;rw [Bp Bz (by simpa using hj),ωb];show negQ _ (ros[(ros.map Roo.r).idxOf d.1]).r=_;rw [hr]
  rw [hq];dsimp only;have hlen:=Γ List.length c1;rw [θ (by rw [hamt];exact hneg),ς,ς,Ψ] at hlen;have h1:=J2 ((its.map dltS).take i) d.1;rw [Υ,ψ] at h1;omega
 ·have:=hmi y hy;omega
 ·obtain ⟨_,_,x,hx,rfl⟩:=hmi y hy;have:=h.n x hx;show -1000000000000000000≤x.n∧x.n≤1000000000000000000;omega
 ·have h1:(netS ros its on).nd.length=its.length:=by unfold netS;simp
  have h2:(netS ros its on).po.length=ros.length:=by unfold netS;simp
  have:=h.o;omega
 ·have:=hmi y hy;omega
theorem W_ers {N:Net} (h:NetW (Ap N)):NetW N:=by
 have hn:∀x∈N.nd,Du x∈(Ap N).nd:=fun x hx=>ν.2 ⟨x,hx,Z⟩;have hp:∀y∈N.po,CP y∈(Ap N).po:=fun y hy=>ν.2 ⟨y,hy,Z⟩;refine ⟨by rw [←Gi];exact h.i,fun x hx id hid=>by rw [←Gi];exact h.a _ (hn x hx) id hid,fun x hx=>h.l (Du x) (hn x hx),fun x hx=>h.e (Du x) (hn x hx),fun x hx e he=>?_,fun y hy=>h.m (CP y) (hp y hy),fun y hy=>h.rm (CP y) (hp y hy),?_,fun y hy=>h.ql (CP y) (hp y hy)⟩
 ·have:=h.p _ (hn x hx) e he;rw [Hk] at this;exact this
 ·have:=h.n;have h1:(Ap N).nd.length=N.nd.length:=by unfold Ap;simp
  have h2:(Ap N).po.length=N.po.length:=by unfold Ap;simp
  omega
theorem S_sumB {N:Net} {ros:List Roo} {its:List AK} (h:SmO ros its) {on:Nat ->Bool} (hN:Ap N=netS ros its on):RG N.po 1000000000000000000:=fun y hy=>by
 have h1:CP y∈(Ap N).po:=ν.2 ⟨y,hy,Z⟩;rw [hN] at h1;obtain ⟨x,hx,e⟩:=ν.1 h1;have h2:=S_sum h on x.r;have h3:y.sum=Ep (its.map dltS) on x.r:=Γ Po.sum e.symm;rw [h3];omega
end Go.Proofs.YteifpcnphnhaoaaGreat
