import Derived.Test.YteifpcnphnhaoaaGreatMg20
import Derived.Shelf.SlSortCmp.Whole1
namespace Go.Proofs.YteifpcnphnhaoaaGreat
open Go.RowKit Go.Shelf
open Go.Sort (putRow Holds PermIn SortedIn SWO mapBlock onCells putCells)
variable {P:Program}
section
variable {ρr:Ren} {τ:Type}
theorem Zb3 {α:Type} [Inhabited α] {enc:α ->Value} {w:World} {b off m:Nat} {dk:Array α} {os:Array Obj} {b':Nat} (hne:b'≠b) (hlt:b'<w.heap.size):(sortWorld enc w b off m dk os).heap[b']? =w.heap[b']?:=by
 unfold sortWorld;rw [Go.Sort.heap_grow_old _ _ (by rw [Go.Sort.size_putRow];exact hlt)];show (w.heap.modify b _)[b']? =_;rw [ψw,ϑ (Ne.symm hne)]
theorem G4 {α:Type} [Inhabited α] {enc:α ->Value} {w:World} {b off m:Nat} {dk:Array α} {os:Array Obj}:w.heap.size≤(sortWorld enc w b off m dk os).heap.size:=by
 unfold sortWorld Go.Sort.grow;rw [Array.size_append,Go.Sort.size_putRow];exact Nat.le_add_right _ _
theorem Yt (L:SlLaysF.n6 P ρr) {E:TypeId} {g g6:FuncId} {fn:Func} (hfn:P.funcs[g]? =some fn) (hnm:(fn.name== "runtime.NumGoroutine")=false) {c:Code} (hbody:fn.body=some c)
  {bl:τ ->Nat} {px:τ ->List D} {tx:τ ->TypeId} (cf:τ ->τ ->Int) (hO:SWO (ltOf cf)) (xs ys0:List τ) (hsz:xs.length<4611686018427387904) (hc:∀x∈xs,∀y∈xs,AO P g [.d (.ptr (.agg (px x))),.d (.ptr (.agg (px y)))] (.raw (.int .i64 (cf x y))))
  (hu:∀ys:List τ,ys.Perm xs ->ys.Pairwise (fun a b=>¬cf b a<0) ->ys=ys0)
  {F:Fr} {s:AS} {d:Nat} {x y:Operand} {ty:TypeId} {pos:String} {aft:Array Edge} {gd:Option (Nat×Bool)} {at_:Array TypeId} {f b cap n:Nat} {M:MF} {fa:AV} {row:List D} {hp':Hp}
  (hg:ρr.f 6=g6) (hM:hfam s.hp f=some [.multi M]) (hpx:∀x∈xs,M (bl x)=some (.cells (tx x) (px x))) (h1x:∀x∈xs,∀c∈px x,c.one=true) (hx:s.ev x=some (.d (.raw (sV b n cap)))) (hy:s.ev y=some fa) (hfa:∀w O ρ v,AW w O ρ fa v ->v= .func (.func g) #[] #[]) (hb:M b=some (.row E 1 cap row)) (hrow:row=xs.map fun x=>pD (bl x) 0) (hn:n=xs.length) (hxs:xs≠ []) (hh:B2 s.hp f (B1 M b (.row E 1 cap (ys0.map fun x=>pD (bl x) 0)))=some hp') (hd:Nat.blt d s.n=true):
  AJ P F ⟨some d,.call {callee:= .value (.func g6),args:= #[x,y],argTypes:=at_},ty,pos,aft,gd⟩ s ⟨s.n,(d,.d (.tup []))::s.env,hp'⟩ (fun _ _=>true):=by
 subst hg hrow hn;intro ρ act w hs
 obtain ⟨fn6,hf1,hf2,hf3⟩:∃fn,P.funcs[ρr.f 6]? =some fn∧(fn.name== "runtime.NumGoroutine")=false∧fn.body.isSome=true:=by
  obtain ⟨nm,hn,hf⟩:=L.f6;exact ⟨_,hf,hn,Z⟩
 unfold Oper.wp;rw [show (#[x,y]:Array Operand)=[x,y].toArray from rfl,DW hf1 hf2 hf3,Oper.upon_enter]
 suffices key:Calls P (ρr.f 6) ([x,y].map act.eval).toArray w fun e w'=>e= .returned (.tuple #[])∧SR F ⟨s.n,s.env,hp'⟩ ρ act w' by
  refine key.mono fun e w' ⟨e1,hsr⟩=>?_;subst e1;exact ⟨ρ,hsr.put (IC hd) (.d (.tup Z fun i c v hc=>by cases hc)),fun _ _ _=>rfl⟩
 have r0:=hs.raw hx;have r1:=hfa _ _ _ _ (hs.ev hy);have h3:=hs.heap
 have hO0:Ax ρ s.hp b:=⟨f,b,_,by rw [Fp hM,hb];rfl,by rw [(hs.rowN hM hb).1];rfl⟩
 obtain ⟨hρ,us,q1,q2,q3⟩:=hs.rowN hM hb;show Calls P (ρr.f 6) #[act.eval x,act.eval y] w _;rw [r1,r0];have hn:0<xs.length:=χh.2 hxs
 have hus:us=xs.map fun x=>pV (bl x) 0:=by
  apply χr
  intro i;rw [η]
  by_cases hi:i<xs.length
  ·rw [ω hi];obtain ⟨u,h1,h2,h4⟩:=q2.2.2 i (pD (bl xs[i]) 0) (by rw [η,ω hi];rfl) 0 (pD (bl xs[i]) 0) rfl;rw [χv,χo] at h1;rw [h1]
   cases h4 with
   | raw _=>rfl
  ·have:us.length=xs.length:=by have:=q2.1;rwa [ψ,χv] at this
   rw [ωx (by omega),ωx (by omega)];rfl
 obtain ⟨cur,p1,p2,p3,p3',p4⟩:∃cur,w.heap[b]? =some (.cells cur E (0,0))∧cur.size=cap∧xs.length≤cap∧cap≤maxLen∧cur.toList.take xs.length=us:=by
  rcases q1.2 with ⟨_,h⟩ | ⟨b',cap',cur,e1,_,e2,e3,e4,e5,e6⟩
  ·rw [ψ] at h;omega
  ·rw [ψ] at e1;injection e1 with e1 e7 e8
   injection e1 with e1
   injection e1 with e1
   subst e1 e8;rw [ψ] at e3 e6;exact ⟨cur,e2,by omega,e3,e4,by rwa [χv] at e6⟩
 rw [ψ] at*;have hlt:b<w.heap.size:=(ωs.1 p1).1;have hOb:F.O ρ s.hp b:= .inr hO0;have hOl:∀b',F.O ρ s.hp b' ->b'<w.heap.size:=fun b' h=>h3.ltO h
 let x0:τ:=xs[0]
 let ix:Nat ->Nat:=fun i=>if i<xs.length then i else 0
 let el:Nat ->τ:=fun i=>(xs[ix i]?).getD x0
 have hel:∀i,el i∈xs:=fun i=>by
  have hix:ix i<xs.length:=by show (if _ then _ else _)<_;split<;>omega
  show (xs[ix i]?).getD x0∈xs;rw [ω hix];exact θ hix
 have heli:∀i (hi:i<xs.length),el i=xs[i]:=fun i hi=>by
  show (xs[ix i]?).getD x0=_;rw [show ix i=i from κ hi,ω hi];rfl
 let enc:Nat ->Value:=fun i=>pV (bl (el i)) 0
 let cf':Nat ->Nat ->Int:=fun i j=>cf (el i) (el j)
 have hO':SWO (ltOf cf'):=⟨fun x=>hO.irrefl (el x),fun x y z=>hO.trans (el x) (el y) (el z),fun x y z=>hO.ntrans (el x) (el y) (el z)⟩
 have henc1:OneCell enc:=fun _=>rfl;have hd0:∀i,i<xs.length ->(Array.range xs.length)[i]! =i:=fun i hi=>by rw [getElem!_pos _ i (by simpa using hi)];simp
 have hcu:∀i (hi:i<xs.length),cur[i]? =some (pV (bl xs[i]) 0):=fun i hi=>by
  have:us[i]? =cur.toList[i]?:=by rw [←p4,ψf hi]
  rw [hus,η,ω hi] at this;rw [←ψn];exact this.symm
 have hH:Holds enc w b 0 (Array.range xs.length):=by
  intro j hj;simp only [φc] at hj;rw [hd0 _ hj];refine ⟨?_,?_⟩
  ·simp only [World.cell?,p1,ψs];rw [hcu j hj];show _=some (pV (bl (el j)) 0);rw [heli j hj];rfl
  ·simp only [World.frozen?,p1]
   simp
 have hcmp:CmpLays1 P g #[] enc cf' b 0 (Array.range xs.length).size w:=by
  intro m os dk _ x y;have hWs:w.heap.size≤(sortWorld enc w b 0 m dk os).heap.size:=G4
  let O':Nat ->Prop:=fun b'=>F.O ρ s.hp b'∧b'≠bl (el x)∧b'≠bl (el y)
  have hne:∀i,bl (el i)≠b:=fun i e=>by
   have:=hpx _ (hel i);rw [e,hb] at this;cases this
  have hptr:∀i,i=x∨i=y ->AQ (sortWorld enc w b 0 m dk os) O' (.ptr (.agg (px (el i)))) (pV (bl (el i)) 0):=fun i hi=>by
   obtain ⟨_,vs,c1,c2,c3,c4⟩:=hs.cellsN hM (hpx _ (hel i));have hl:bl (el i)<w.heap.size:=(ωs.1 c1).1
   have hOn:¬O' (bl (el i)):=fun h=>by
    rcases hi with e | e
    ·exact h.2.1 (by rw [e])
    ·exact h.2.2 (by rw [e])
   show AQ _ _ (.ptr (.agg (px (el i)))) (.pointer (some ⟨bl (el i),0,none⟩));refine AQ.ptr (x:= .agg (px (el i))) (fun j=>vs.getD j undef) (ψt hl hWs) hOn (h1x _ (hel i)) (fun j c hj=>?_) fun j c hj=>?_
   ·have hj':j<vs.length:=by rw [c2];exact (χ.1 hj).1
    simp only [World.cell?,Zb3 (hne i) hl,c1,ψs]
    simp [hj']
   ·have hj':j<vs.length:=by rw [c2];exact (χ.1 hj).1
    have hv:vs[j]? =some vs[j]:=ω hj';have:vs.getD j undef=vs[j]:=by rw [ϱ,hv];rfl
    rw [this];exact (c3 j c _ hj hv).mono hWs (fun b' hl hno=>Zb3 (fun e=>hno (e▸hOb)) hl) (fun _ _ h=>h.1)
  refine (Py (hc (el x) (hel x) (el y) (hel y)) (w:=sortWorld enc w b 0 m dk os) (O:=O') (fun b' h=>ψt (hOl b' h.1) hWs) (vs:=[pV (bl (el x)) 0,pV (bl (el y)) 0]) Z (fun i a v ha hv=>?_)).mono fun e w' ⟨v,e1,e2,e3,e4,e5⟩=>⟨?_,NV e3 e4 e5⟩
  ·match i,ha,hv with
   | 0,ha,hv=>injection ha with ha;injection hv with hv;subst ha hv;exact .d (hptr x (.inl Z))
   | 1,ha,hv=>injection ha with ha;injection hv with hv;subst ha hv;exact .d (hptr y (.inr Z))
  ·cases e2 with
   | raw _=>exact e1
 have eg:∀args w,(callFunc g args).run P w= .ok (.enter g args) w:=enters_of hfn hnm hbody;have key:=Any.slices_SortFunc L enc henc1 cf' hO' g #[] b 0 cap (Array.range xs.length) w eg hcmp hH hlt (by simpa using hsz);rw [φc] at key;refine key.mono fun e w' ⟨e1,d',n,os,hp,hsort,hw⟩=>?_;subst e1 hw;obtain ⟨s1,_,s3⟩:=hp;rw [φc] at s1
 have hperm:d'.toList.Perm (List.range xs.length):=by
  have e1:d'.extract 0 xs.length=d':=by rw [←s1];exact Array.extract_size
  have e2:(Array.range xs.length).extract 0 xs.length=Array.range xs.length:=by
   conv=>lhs;arg 3;rw [←φc (n:=xs.length)]
   exact Array.extract_size
  rw [e1,e2] at s3
  simpa using s3
 refine ⟨Z,?_⟩
 have hys:d'.toList.map el=ys0:=by
  apply hu
  ·refine (hperm.map el).trans (List.Perm.of_eq ?_)
   apply χc (by simp)
   intro i h5 h6;simp only [ωd,ψu];exact heli i h6
  ·rw [ωq];intro i j hi hj hij;simp only [ψ,χi] at hi hj;have:=hsort i j (Γ _) hij (by omega);rw [getElem!_pos _ j hj,getElem!_pos _ i hi] at this;simp only [ltOf,decide_eq_false_iff_not] at this
   simpa using this
 have hlen':ys0.length=xs.length:=by rw [←hys];simp [s1]
 -- the world: first what lies in the row, then the new blocks
 have hheap:(sortWorld enc w b 0 n d' os).heap[b]? =some (.cells (putCells enc 0 d' cur) E (0,0)):=by
  unfold sortWorld;rw [Go.Sort.heap_grow_old _ _ (by rw [Go.Sort.size_putRow];exact hlt)];show (w.heap.modify b _)[b]? =_;rw [ψw,κ Z,p1];rfl
 refine hs.writeG f b (.nr b E 1 cap (xs.map fun x=>pD (bl x) 0)) (.nr b E 1 cap (ys0.map fun x=>pD (bl x) 0)) (by rw [Fp hM,hb];rfl) (fun g i=>?_) Z Z Z G4 (Nat.le_add_right _ _) (fun b' hl hno=>Zb3 (fun e=>hno (by rw [e,hρ];rfl)) hl) (fun _ _ e=>by cases e) fun hrep=>?_
 ·rw [Cz hh]
  by_cases e:g=f
  ·subst e;rw [κ Z,Fp hM]
   by_cases e2:i=b
   ·subst e2;rw [κ ⟨Z,Z⟩,Fm];rfl
   ·rw [ϑ (fun h=>e2 h.2),Fs e2]
  ·rw [ϑ e,ϑ (fun h=>e h.1)]
 have hcs:(putCells enc 0 d' cur).size=cap:=by simp only [putCells,Array.size_mapIdx];omega
 have hrow:(putCells enc 0 d' cur).toList.take ys0.length=ys0.map fun x=>pV (bl x) 0:=by
  apply χr
  intro i
  by_cases hi:i<xs.length
  ·rw [ψf (by omega),η,←hys,η,ψn,ψn,ωl (by omega),ωl (by omega)];simp only [putCells,Array.getElem_mapIdx,χa];rw [κ ⟨Γ _,by omega⟩];simp only [Nat.sub_zero];rw [getElem!_pos _ i (by omega)]
  ·rw [ωx (by rw [Ω];omega),ωx (by rw [ψ];omega)]
 refine ⟨hρ,ys0.map fun x=>pV (bl x) 0,⟨by simp,.inr ⟨b,cap,_,by simp only [ψ],Γ _,hheap,by rw [ψ,hlen'];exact p3,p3',by rw [hcs];omega,by rw [ψ,χv,hrow]⟩⟩,⟨by simp,fun x hx2=>?_,fun i x hx2 j c hc2=>?_⟩,fun x hx2 c hc2=>?_⟩
 ·obtain ⟨y,_,rfl⟩:=ϖ.1 hx2;rfl
 ·rw [η] at hx2
  cases hdi:ys0[i]? with
  | none=>rw [hdi] at hx2;cases hx2
  | some q=>
   rw [hdi] at hx2;injection hx2 with hx2;subst hx2
   match j,hc2 with
   | 0,hc2=>
    injection hc2 with hc2;subst hc2
    exact ⟨pV (bl q) 0,by rw [χv,χo,η,hdi];rfl,Z,.raw Z⟩
 ·obtain ⟨y,_,rfl⟩:=ϖ.1 hx2
  cases hc2 with
  | head=>rfl
  | tail _ h=>cases h
theorem Wp (L:SlLaysF.n6 P ρr) {g6:FuncId} {F:Fr} {s:AS} {d:Nat} {x y:Operand} {ty:TypeId} {pos:String} {aft:Array Edge} {gd:Option (Nat×Bool)} {at_:Array TypeId} {fa:AV} 
  (hg:ρr.f 6=g6) (hx:s.ev x=some (.d (.raw (.slice none 0 0)))) (hy:s.ev y=some fa) (hd:Nat.blt d s.n=true):
  AJ P F ⟨some d,.call {callee:= .value (.func g6),args:= #[x,y],argTypes:=at_},ty,pos,aft,gd⟩ s ⟨s.n,(d,.d (.tup []))::s.env,s.hp⟩ (fun _ _=>true):=by
 subst hg;intro ρ act w hs
 obtain ⟨fn6,hf1,hf2,hf3⟩:∃fn,P.funcs[ρr.f 6]? =some fn∧(fn.name== "runtime.NumGoroutine")=false∧fn.body.isSome=true:=by
  obtain ⟨nm,hn,hf⟩:=L.f6;exact ⟨_,hf,hn,Z⟩
 unfold Oper.wp;rw [show (#[x,y]:Array Operand)=[x,y].toArray from rfl,DW hf1 hf2 hf3,Oper.upon_enter];have r0:=hs.raw hx;show Calls P (ρr.f 6) #[act.eval x,act.eval y] w _;rw [r0];refine (AnyF.slices_SortFunc_none {L with} none 0 _ w).mono fun e w' ⟨e1,e2⟩=>?_;subst e1 e2;exact ⟨ρ,hs.put (IC hd) (.d (.tup Z fun i c v hc=>by cases hc)),fun _ _ _=>rfl⟩
end
end Go.Proofs.YteifpcnphnhaoaaGreat
namespace Go.Proofs.YteifpcnphnhaoaaGreat
open Go.RowKit Go.Shelf
set_option maxRecDepth 100000 in
theorem cmpPo_p (x y:Po):AO Tryz.prog 142 [.d (.ptr (.agg (poC x))),.d (.ptr (.agg (poC y)))] (AF (Bh x.r y.r)):=by
 refine BB Tryz.func142 Z Z Tryz.ntmps142 Z Z Z fun F hF=>(AC ?_);refine AE (AB Z Z (AD (AC (Cc [[],[0],[0,1],[0,1,2],[],[4],[4,5],[4,5,6],[0,1,2,3,4,5,6,7],[0,1,2,3,4,5,6,7,8]] mixed Z (Cj (AI [0] [] Z Z (fun _=>AG (Ai Z Z)) (AI [5] [] Z Z (fun _=>AG (JU Z Z)) (AI [6] [] Z Z (fun _=>AG (Zcq Z MK Z Z Z)) ?_))))))));refine AI [7] [] Z Z (fun _=>AG (GW Z Z CY Z)) (AI [1] [] Z Z (fun _=>AG (Ai Z Z)) (AI [9] [] Z Z (fun _=>AG (JU Z Z)) (AI [10] [] Z Z (fun _=>AG (Zcq Z MK Z Z Z)) (AI [11] [] Z Z (fun _=>AG (GW Z Z CY Z)) (C1 8 Z Z Z (Ae 9 Z Z (J (BZ (LD x.r y.r) Z Z) (AD ⟨Z,?_⟩))))))));refine Ae 10 Z Z (AB Z Z (AD ⟨Z,?_⟩));refine C6 (A8 ?_);exact ⟨_,[],[],A7 Z,Z,Z,Z,Z⟩
theorem GH {M:MF} {bn b':Nat} {m m':Af} (hb:M bn=none) (h:M b'=some m):B1 M bn m' b'=some m:=by
 rw [Fs]
 ·exact h
 ·rintro rfl;rw [hb] at h;cases h
theorem LP {M:MF} {bn:Nat} {m':Af} (hb:M bn=none) {h:Hd} {t:TypeId} {k:Nat} {xs:List D} (hr:BK M h t k xs):BK (B1 M bn m') h t k xs:=by
 match h,hr with
 | none,hr=>exact hr
 | some (b',c),hr=>exact ⟨hr.1,GH hb hr.2⟩
theorem CA.fresh {wb mv:Nat} {nb pb:Nat ->Nat} {N:Net} {M:MF} (h:CA wb mv nb pb N M) {bn:Nat} {m:Af} (hb:M bn=none):CA wb mv nb pb N (B1 M bn m):=
 ⟨fun i x hx=>GH hb (h.n i x hx),fun j y hy=>GH hb (h.p j y hy),⟨fun r=>LP hb (h.rs.1 r),h.rs.2⟩,GH hb h.w,h.ni,h.pi,h.e,h.q⟩
def MN (f:Nat ->Nat) (k b:Nat):Nat ->Nat:=fun j=>if j=k then b else f j
theorem DB {f:Nat ->Nat} {k b j:Nat} (h:j<k):MN f k b j=f j:=ϑ (by omega)
theorem Fl {f:Nat ->Nat} {k b:Nat}:MN f k b k=b:=κ rfl
theorem Ow {f:Nat ->Nat} {k b:Nat}:(List.range (k+1)).map (fun j=>BL (MN f k b j))=(List.range k).map (fun j=>BL (f j))++ [BL b]:=by
 rw [ψj,ωc,φf,Fl]
 congr 1
 exact ωj fun j hj=>by rw [DB (ς.1 hj)]
abbrev XY (nh:Hd) (a:Nat) (mh:Hd) (c mv:Nat):Af:= .cells 180 [hdr nh a,hdr mh c,K9 (.map (some mv))]
theorem CA.keepM {wb mv:Nat} {nb pb:Nat ->Nat} {N:Net} {M:MF} (h:CA wb mv nb pb N M) {b:Nat} (hb:B5 M N.mh b=none) {v:Af} {b':Nat} {t:TypeId} {cs:List D} (hm:M b'=some (.cells t cs)):B1 (B5 M N.mh) b v b'=some (.cells t cs):=
 Go.Proofs.YteifpcnphnhaoaaGreat.keepM hb hm fun c hc=>by have:=h.rs.blk (r:= .m) hc;rw [hm] at this;cases this
theorem Kt {α:Type} (l:List α) (y d:α) (j:Nat):(l++ [y]).getD j d=if j=l.length then y else l.getD j d:=by
 rw [ϱ,ϱ,List.getElem?_append]
 split
 ·rw [ϑ (by omega)]
 ·split
  ·rename_i e;subst e;simp
  ·rw [ωx (by simp;omega),ωx (by omega)]
theorem getD_mem {α:Type} {l:List α} {d:α} (i:Nat):l.getD i d∈l∨l.getD i d=d:=by
 by_cases h:i<l.length
 ·left;rw [CI d h];exact θ h
 ·right;rw [ϱ,ωx (by omega)];rfl
theorem snoc_get {α:Type} {l:List α} {y z:α} {i:Nat} (h:(l++ [y])[i]? =some z):(i<l.length∧l[i]? =some z)∨(i=l.length∧z=y):=by
 rw [List.getElem?_append] at h
 split at h
 ·rename_i hi;exact .inl ⟨hi,h⟩
 ·rename_i hi
  right
  have:i - l.length=0:=by
   have:=(χ.1 h).1
   simp at this;omega
  rw [this] at h;exact ⟨by omega,(Option.some.inj h).symm⟩
theorem CA.addM {wb mv:Nat} {nb pb:Nat ->Nat} {N:Net} {M:MF} (h:CA wb mv nb pb N M) {y:Po} (hy:y.q=[]) (hyh:y.qh=none) {bn:Nat} (hM:M bn=some (T4 y)) (hbn:∀j,j<N.po.length ->pb j≠bn) {b cap:Nat} (hb:B5 M N.mh b=none) (hl:N.po.length+1≤cap):
  CA wb mv nb (MN pb N.po.length bn) {N with po:=N.po++ [y],mh:=some (b,cap)} (B1 (B1 (B5 M N.mh) b (.row VX 1 cap ((List.range N.po.length).map (fun j=>BL (pb j))++ [BL bn]))) wb (XY N.nh N.nd.length (some (b,cap)) (N.po.length+1) mv)):=by
 have hef:∀i,((N.nd.getD i Bl).ef.map (bY (MN pb N.po.length bn)))=(N.nd.getD i Bl).ef.map (bY pb):=fun i=>ωj fun e he=>by
  rcases getD_mem (l:=N.nd) (d:=Bl) i with hm | hm
  ·show D.agg [pD (MN pb N.po.length bn e.1) 0,_]=_;rw [DB ((h.e _ hm).1 e he)]
  ·rw [hm] at he;cases he
 have hpl:∀i,((N.nd.getD i Bl).pl.map (plD (MN pb N.po.length bn)))=(N.nd.getD i Bl).pl.map (plD pb):=fun i=>ωj fun e he=>by
  rcases getD_mem (l:=N.nd) (d:=Bl) i with hm | hm
  ·show D.agg [pD (MN pb N.po.length bn e.1) 0,_]=_;rw [DB ((h.e _ hm).2 e he)]
  ·rw [hm] at he;cases he
 have hR:∀r,r≠RI.m ->CT nb (MN pb N.po.length bn) {N with po:=N.po++ [y],mh:=some (b,cap)} r=CT nb pb N r:=fun r hr=>by
  cases r with
  | e i=>show (⟨_,_,_,(N.nd.getD i Bl).ef.map _⟩:RowM)=_;rw [hef];rfl
  | p i=>show (⟨_,_,_,(N.nd.getD i Bl).pl.map _⟩:RowM)=_;rw [hpl];rfl
  | n=>rfl
  | m=>exact absurd Z hr
  | q j=>
   show (⟨((N.po++ [y]).getD j CV).qh,_,_,((N.po++ [y]).getD j CV).q.map _⟩:RowM)=⟨(N.po.getD j CV).qh,_,_,(N.po.getD j CV).q.map _⟩
   rw [Kt]
   split
   ·rename_i e
    rw [hy,hyh,ϱ,ωx (by omega)];rfl
   ·rfl
 have hup:=h.rs.upd (R':=CT nb (MN pb N.po.length bn) {N with po:=N.po++ [y],mh:=some (b,cap)}) .m hR (b:=b) (cap:=cap) hb Z (by
  show ((List.range (N.po++ [y]).length).map _).length≤cap
  simp;exact hl)
 have hrow:(CT nb (MN pb N.po.length bn) {N with po:=N.po++ [y],mh:=some (b,cap)} .m).xs=(List.range N.po.length).map (fun j=>BL (pb j))++ [BL bn]:=by
  show (List.range (N.po++ [y]).length).map _=_;rw [Θ,Ψ,Ow]
 rw [hrow] at hup
 have hk:∀(b':Nat) (t:TypeId) (cs:List D),t≠180 ->M b'=some (.cells t cs) ->B1 (B1 (B5 M N.mh) b (.row VX 1 cap ((List.range N.po.length).map (fun j=>BL (pb j))++ [BL bn]))) wb (XY N.nh N.nd.length (some (b,cap)) (N.po.length+1) mv) b'=some (.cells t cs):=fun b' t cs ht hm=>by
  rw [Fs]
  ·exact h.keepM hb hm
  ·rintro rfl;rw [h.w] at hm;injection hm with hm;injection hm with hm;exact ht hm.symm
 refine ⟨fun i x hx=>hk _ _ _ (by decide) (h.n i x hx),fun i z hz=>?_,hup.cells (h.keepM hb h.w),?_,h.ni,fun i k hi hk e=>?_,fun x hx=>?_,fun z hz=>?_⟩
 ·rcases snoc_get hz with ⟨h1,h2⟩ | ⟨h1,h2⟩
  ·rw [DB h1];exact hk _ _ _ (by decide) (h.p i z h2)
  ·subst h1 h2;rw [Fl];exact hk _ _ _ (by decide) hM
 ·rw [Fm];show _=some (Af.cells _ [_,hdr _ (N.po++ [y]).length,_]);rw [Θ];rfl
 ·have hi':i<N.po.length+1:=by simpa using hi
  have hk':k<N.po.length+1:=by simpa using hk
  by_cases e1:i=N.po.length<;>by_cases e2:k=N.po.length
  ·omega
  ·subst e1;rw [Fl,DB (by omega)] at e;exact absurd e.symm (hbn k (by omega))
  ·subst e2;rw [Fl,DB (by omega)] at e;exact absurd e (hbn i (by omega))
  ·rw [DB (by omega),DB (by omega)] at e;exact h.pi i k (by omega) (by omega) e
 ·have:=h.e x hx;refine ⟨fun e he=>?_,fun e he=>?_⟩
  ·have:=this.1 e he;simp;omega
  ·have:=this.2 e he;simp;omega
 ·rcases ν.1 hz with hz | hz
  ·exact h.q z hz
  ·rw [ξ.1 hz,hy];intro i hi;cases hi
theorem CA.perm {wb mv:Nat} {nb pb:Nat ->Nat} {N:Net} {M:MF} (h:CA wb mv nb pb N M) (hn:N.nd=[]) (hqn:∀y∈N.po,y.q=[]∧y.qh=none) {ys:List Nat} (hp:ys.Perm (List.range N.po.length)) {b cap:Nat} (hm:N.mh=some (b,cap)):
  CA wb mv nb (fun k=>pb (ys.getD k 0)) {N with po:=ys.map fun i=>N.po.getD i CV} (B1 M b (.row VX 1 cap (ys.map fun j=>BL (pb j)))):=by
 have hyl:ys.length=N.po.length:=by rw [hp.length_eq,ωf]
 have hys:∀k,k<ys.length ->ys.getD k 0<N.po.length:=fun k hk=>by
  rw [CI 0 hk];exact ς.1 (hp.mem_iff.1 (θ hk))
 have hrow:=h.rs.blk (r:= .m) hm
 have hrl:=(h.rs.1 .m)
 rw [show (CT nb pb N .m).h=some (b,cap) from hm] at hrl
 have hlen:N.po.length≤cap:=by
  have:=hrl.1;have e:((List.range N.po.length).map fun j=>BL (pb j)).length=N.po.length:=by simp
  exact e▸this
 have hk:∀(b':Nat) (t:TypeId) (cs:List D),M b'=some (.cells t cs) ->B1 M b (.row VX 1 cap (ys.map fun j=>BL (pb j))) b'=some (.cells t cs):=fun b' t cs hm'=>by
  rw [Fs]
  ·exact hm'
  ·rintro rfl;rw [hrow] at hm';cases hm'
 have hq0:∀(l:List Po),(∀y∈l,y.q=[]∧y.qh=none) ->∀j,(l.getD j CV).q=[]∧(l.getD j CV).qh=none:=fun l hl j=>by
  rcases getD_mem (l:=l) (d:=CV) j with hm | hm
  ·exact hl _ hm
  ·rw [hm];exact ⟨Z,Z⟩
 have hqn':∀y∈ys.map fun i=>N.po.getD i CV,y.q=[]∧y.qh=none:=fun y hy=>by
  obtain ⟨i,_,rfl⟩:=ϖ.1 hy;exact hq0 _ hqn i
 refine ⟨fun i x hx=>?_,fun j y hy=>?_,⟨fun r=>?_,fun r r' b1 c c' h1 h2=>?_⟩,?_,h.ni,fun i k hi hk' e=>?_,fun x hx=>?_,fun y hy=>?_⟩
 ·have:N.nd[i]? =some x:=hx;rw [hn] at this;simp at this
 ·have hy':(ys.map fun i=>N.po.getD i CV)[j]? =some y:=hy;rw [η] at hy'
  cases hj:ys[j]? with
  | none=>rw [hj] at hy';cases hy'
  | some i=>
   rw [hj] at hy';have e:y=N.po.getD i CV:=(Option.some.inj hy').symm;have hjl:=(χ.1 hj).1;have hi:=hys j hjl;rw [F8 hj] at hi;show B1 M b _ (pb (ys.getD j 0))=_;rw [F8 hj,e,CI CV hi];exact hk _ _ _ (h.p i _ (ω hi))
 ·cases r with
  | e i=> 
   have:N.nd.getD i Bl=Bl:=by rw [hn];rfl
   show BK _ (N.nd.getD i Bl).eh _ _ ((N.nd.getD i Bl).ef.map _);rw [this];rfl
  | p i=> 
   have:N.nd.getD i Bl=Bl:=by rw [hn];rfl
   show BK _ (N.nd.getD i Bl).ph _ _ ((N.nd.getD i Bl).pl.map _);rw [this];rfl
  | q j=>
   show BK _ ((ys.map fun i=>N.po.getD i CV).getD j CV).qh _ _ (((ys.map fun i=>N.po.getD i CV).getD j CV).q.map _);obtain ⟨e1,e2⟩:=hq0 _ hqn' j;rw [e1,e2];rfl
  | n=>
   have hnr:=h.rs.1 .n;show BK _ N.nh _ _ ((List.range N.nd.length).map _)
   cases hh:N.nh with
   | none=>show _=[];rw [hn];rfl
   | some p=>
    obtain ⟨b',c'⟩:=p;rw [show (CT nb pb N .n).h=some (b',c') from hh] at hnr;refine ⟨by have:=hnr.1;exact this,?_⟩;rw [Fs]
    ·exact hnr.2
    ·rintro rfl;exact absurd (h.rs.2 .n .m b' c' cap hh hm) (by intro e;cases e)
  | m=>
   show BK _ N.mh _ _ ((List.range (ys.map fun i=>N.po.getD i CV).length).map fun k=>BL (pb (ys.getD k 0)))
   have e:((List.range (ys.map fun i=>N.po.getD i CV).length).map fun k=>BL (pb (ys.getD k 0)))=ys.map fun j=>BL (pb j):=by
    apply χc (by simp)
    intro k h1 h2;simp only [ωd,ψu];rw [CI 0 (by simpa using h2)]
   rw [e,hm];exact ⟨by rw [ψ,hyl];exact hlen,Fm _ _ _⟩
 ·have hcase:∀r b1 c,(CT nb (fun k=>pb (ys.getD k 0)) {N with po:=ys.map fun i=>N.po.getD i CV} r).h=some (b1,c) ->(CT nb pb N r).h=some (b1,c):=fun r b1 c h1=>by
   cases r with
   | e i=>exact h1
   | p i=>exact h1
   | n=>exact h1
   | m=>exact h1
   | q j=>
    have h1':((ys.map fun i=>N.po.getD i CV).getD j CV).qh=some (b1,c):=h1;rw [(hq0 _ hqn' j).2] at h1';cases h1'
  exact h.rs.2 r r' b1 c c' (hcase _ _ _ h1) (hcase _ _ _ h2)
 ·have:=hk _ _ _ h.w;show _=some (Af.cells _ [_,hdr N.mh (ys.map fun i=>N.po.getD i CV).length,_]);rw [ψ,hyl];exact this
 ·have hi':i<ys.length:=by simpa using hi
  have hk2:k<ys.length:=by simpa using hk'
  have:=h.pi _ _ (hys i hi') (hys k hk2) e;rw [CI 0 hi',CI 0 hk2] at this;have hnd:ys.Nodup:=hp.nodup_iff.2 List.nodup_range;exact (List.getElem_inj hnd).1 this
 ·have:x∈N.nd:=hx;rw [hn] at this;cases this
 ·intro i hi;rw [(hqn' y hy).1] at hi;cases hi
end Go.Proofs.YteifpcnphnhaoaaGreat
namespace Go.Proofs.YteifpcnphnhaoaaGreat
open Go.RowKit
theorem aP {α β:Type} [DecidableEq α] {m:List (α×β)} {a:α} {b:β} (h:a∉m.map Prod.fst):Av m a b=m++ [(a,b)]:=by
 induction m with
 | nil=>rfl
 | cons p r ih=>
  obtain ⟨k,b'⟩:=p;simp only [ωm,Φ,not_or] at h;simp only [Av,φk];rw [ϑ h.1,ih h.2]
theorem GJ {α β:Type} [DecidableEq α] {m:List (α×β)} {a:α} {z:β} (h:a∉m.map Prod.fst):A6 m a z=z:=by
 induction m with
 | nil=>rfl
 | cons p r ih=>
  obtain ⟨k,b'⟩:=p;simp only [ωm,Φ,not_or] at h;simp only [A6];rw [ϑ h.1,ih h.2]
theorem DI {α β:Type} [DecidableEq α] {m:List (α×β)} {a k:α} {b z:β} (h:a≠k):A6 (m++ [(k,b)]) a z=A6 m a z:=by
 induction m with
 | nil=>simp only [List.nil_append,A6];rw [ϑ h]
 | cons p r ih=>
  obtain ⟨k',b'⟩:=p;simp only [φk,A6,ih]
theorem D1 {α β:Type} [DecidableEq α] {m:List (α×β)} {a:α} {b z:β} (h:a∉m.map Prod.fst):A6 (m++ [(a,b)]) a z=b:=by
 induction m with
 | nil=>simp [A6]
 | cons p r ih=>
  obtain ⟨k',b'⟩:=p;simp only [ωm,Φ,not_or] at h;simp only [φk,A6];rw [ϑ h.1,ih h.2]
def Ti {α:Type} (d:α) (f:Nat ->Nat) (l:List α):List (α×Value):=(List.range l.length).map fun i=>(l.getD i d,pV (f i) 0)
theorem Ma {α:Type} (d:α) (f:Nat ->Nat) (l:List α):(Ti d f l).map Prod.fst=l:=by
 unfold Ti;rw [ωv];refine χc (by simp) fun j h1 h2=>?_;simp only [ωd,ψu,Function.comp];exact CI d h2
theorem VG {α:Type} [DecidableEq α] {d:α} {f:Nat ->Nat} {l:List α} {a:α} {b:Nat} (h:a∉l):Av (Ti d f l) a (pV b 0)=Ti d (MN f l.length b) (l++ [a]):=by
 rw [aP (by rw [Ma];exact h)];unfold Ti;rw [Θ,Ψ,ψj,ωc,φf,Fl]
 congr 1
 ·refine ωj fun i hi=>?_;have hi':=ς.1 hi;rw [DB hi',ϱ,ϱ,ψa hi']
 ·rw [ϱ,ωr (υ _)];simp
theorem VH {α:Type} [DecidableEq α] [BEq α] [LawfulBEq α] {d:α} {f:Nat ->Nat} {l:List α} (hn:l.Nodup) {a:α} {z:Value} {i:Nat} (hi:i<l.length) (e:l[i]=a):A6 (Ti d f l) a z=pV (f i) 0:=by
 refine DJ (by rw [Ma];exact hn) ?_;exact ϖ.2 ⟨i,ς.2 hi,by rw [CI d hi,e]⟩
theorem tab_no {α:Type} [DecidableEq α] {d:α} {f:Nat ->Nat} {l:List α} {a:α} {z:Value} (h:a∉l):A6 (Ti d f l) a z=z:=GJ (by rw [Ma];exact h)
def JK (rs:List AP) (i j:Nat):Int:=Bh (rs.getD i EM) (rs.getD j EM)
theorem Pi (rs:List AP):PC (JK rs):=O5.comap fun i=>rs.getD i EM
def Fz (rs:List AP):List Nat:=(List.range rs.length).mergeSort fun i j=>decide (JK rs i j≤0)
theorem YM (rs:List AP):(Fz rs).Perm (List.range rs.length):=List.mergeSort_perm _ _
theorem Wu {rs:List AP} (hn:rs.Nodup) {ys:List Nat} (hp:ys.Perm (List.range rs.length)) (hs:ys.Pairwise fun a b=>¬JK rs b a<0):ys=Fz rs:=by
 have key:∀zs:List Nat,zs.Perm (List.range rs.length) ->(zs.Pairwise fun a b=>¬JK rs b a<0) ->zs.Pairwise fun a b=>JK rs a b<0:=fun zs hz hs=>by
  have hnd:zs.Pairwise fun a b=>a≠b:=hz.nodup_iff.2 List.nodup_range;have hm:∀x∈zs,x<rs.length:=fun x hx=>ς.1 (hz.mem_iff.1 hx);refine χk (fun {a b} ha hb h=>?_) (hs.and hnd);have h1:=(Pi rs).anti a b
  by_cases h0:JK rs a b=0
  ·exfalso
   have h3:=Du.1 h0;rw [CI EM (hm a ha),CI EM (hm b hb)] at h3;exact h.2 ((List.getElem_inj hn).1 h3)
  ·have:=h.1;omega
 refine Cw (R:=fun a b=>JK rs a b<0) (fun x=>by rw [(Pi rs).refl];omega) (fun x y z=>(Pi rs).trans x y z) (key ys hp hs) (key _ (YM rs) ?_) fun x=>hp.mem_iff.trans (YM rs).mem_iff.symm;have:=List.pairwise_mergeSort (le:=fun i j=>decide (JK rs i j≤0)) (fun a b c h1 h2=>?_) (fun a b=>?_) (List.range rs.length)
 ·refine List.Pairwise.imp (fun {a b} h=>?_) this;have h1:=(Pi rs).anti a b;have h2:JK rs a b≤0:=by simpa using h
  omega
 ·have h1':JK rs a b≤0:=by simpa using h1
  have h2':JK rs b c≤0:=by simpa using h2
  have:JK rs a c≤0:=by
   by_cases e1:JK rs a b=0
   ·rw [(Pi rs).eqv a b c e1];exact h2'
   ·by_cases e2:JK rs b c=0
    ·have a1:=(Pi rs).anti b c;have e3:=(Pi rs).eqv c b a (by omega);have a2:=(Pi rs).anti a c;have a3:=(Pi rs).anti a b;omega
    ·have:=(Pi rs).trans a b c (by omega) (by omega);omega
  simpa using this
 ·have h1:=(Pi rs).anti a b
  by_cases h:JK rs a b≤0
  ·simp [h]
  ·have:JK rs b a≤0:=by omega
   simp [this]
abbrev C7 (D:List (AP×Int)) (r:AP):Int:=A6 D r 0
def negQ (ds:List (List (AP×Int))) (r:AP):List Nat:=(List.range ds.length).filter fun i=>decide (C7 (ds.getD i []) r<0)
def Ia (x:A2):Po:=⟨x.r,x.n,0,none,[],0⟩
def UD (ds:List (List (AP×Int))) (x:A2):Po:=⟨x.r,x.n,(ds.map fun D=>C7 D x.r).sum,none,negQ ds x.r,0⟩
def U7 (rs:List AP) (D:List (AP×Int)):List (Nat×Int):=(D.filter fun d=>decide (d.1∈rs)).map fun d=>(rs.idxOf d.1,d.2)
def XN (rs:List AP) (ds:List (List (AP×Int))) (D:List (AP×Int)):List (Nat×Nat):=(D.filter fun d=>decide (d.1∈rs) && decide (d.2<0)).map fun d=>(rs.idxOf d.1,(negQ ds d.1).length)
def aL (rs:List AP) (ds:List (List (AP×Int))) (x:AK) (D:List (AP×Int)):Nd:=⟨x,none,U7 rs D,none,XN rs ds D,true⟩
def H9 (rs:List AP) (its:List AK) (k:Nat):List Nd:=(List.range k).map fun i=>aL rs ((its.map AR).take i) (its.getD i AY) (AR (its.getD i AY))
def FW (ro:List A2) (its:List AK) (k:Nat):Net:=⟨H9 (ro.map A2.r) its k,ro.map (UD ((its.map AR).take k)),none,none⟩
def ES (ro:List A2) (its:List AK) (k t:Nat):Net:=⟨H9 (ro.map A2.r) its k++ [aL (ro.map A2.r) ((its.map AR).take k) (its.getD k AY) ((AR (its.getD k AY)).take t)],ro.map (UD ((its.map AR).take k++ [(AR (its.getD k AY)).take t])),none,none⟩
theorem P4 {α:Type} (p:α ->Bool) (d:α):[d].filter p=if p d=true then [d] else []:=by
 cases h:p d<;>simp [List.filter,h]
theorem U6 {rs:List AP} {T:List (AP×Int)} {d:AP×Int} (h:d.1∈rs):U7 rs (T++ [d])=U7 rs T++ [(rs.idxOf d.1,d.2)]:=by
 unfold U7;rw [ωz,P4,κ (ωi h),ωc];rfl
theorem Q1 {rs:List AP} {T:List (AP×Int)} {d:AP×Int} (h:d.1∉rs):U7 rs (T++ [d])=U7 rs T:=by
 unfold U7;rw [ωz,P4,ϑ (by simp only [ψe];exact h),ωk]
theorem Zf {rs:List AP} {ds:List (List (AP×Int))} {T:List (AP×Int)} {d:AP×Int} (h:d.1∈rs) (h2:d.2<0):XN rs ds (T++ [d])=XN rs ds T++ [(rs.idxOf d.1,(negQ ds d.1).length)]:=by
 unfold XN;rw [ωz,P4,κ (by rw [ωi h,ωi h2];rfl),ωc];rfl
theorem QA {rs:List AP} {ds:List (List (AP×Int))} {T:List (AP×Int)} {d:AP×Int} (h:¬(d.1∈rs∧d.2<0)):XN rs ds (T++ [d])=XN rs ds T:=by
 unfold XN;rw [ωz,P4,ϑ (by rw [ωb,ψe,ψe];exact h),ωk]
theorem X5 (ds:List (List (AP×Int))) (D:List (AP×Int)) (r:AP):negQ (ds++ [D]) r=negQ ds r++if C7 D r<0 then [ds.length] else []:=by
 unfold negQ;rw [Θ,Ψ,ψj,ωz]
 congr 1
 ·refine χx fun i hi=>?_;have hi':=ς.1 hi;rw [ϱ,ψa hi',←ϱ]
 ·have e:(ds++ [D]).getD ds.length []=D:=by rw [ϱ,ωr (υ _)];simp
  rw [P4,e]
  by_cases h:C7 D r<0
  ·rw [κ (ωi h),κ h]
  ·rw [ϑ (by simpa using h),ϑ h]
theorem EP (ds:List (List (AP×Int))) (D:List (AP×Int)) (x:A2):UD (ds++ [D]) x=⟨x.r,x.n,(UD ds x).sum+C7 D x.r,none,(UD ds x).q++(if C7 D x.r<0 then [ds.length] else []),0⟩:=by
 unfold UD;rw [X5,ωc,ψr]
 simp
theorem X1 {ro:List A2} {its:List AK} {k:Nat}:ES ro its k 0=⟨(FW ro its k).nd++ [⟨its.getD k AY,none,[],none,[],true⟩],(FW ro its k).po,none,none⟩:=by
 unfold ES FW
 congr 1
 refine ωj fun x _=>?_;rw [EP];unfold UD
 simp [C7,A6]
theorem X3 {ro:List A2} {its:List AK} {k:Nat} (hk:k<its.length):ES ro its k (AR (its.getD k AY)).length=FW ro its (k+1):=by
 unfold ES FW H9;rw [ωt,ψj,ωc,φf]
 congr 1
 have:(its.map AR).take (k+1)=(its.map AR).take k++ [AR (its.getD k AY)]:=by
  rw [φ (by simpa using hk),ωd,CI AY hk]
 rw [this]
theorem X2 {ro:List A2} {its:List AK} {k t:Nat} (ht:t<(AR (its.getD k AY)).length) (hr:((AR (its.getD k AY))[t]).1∉ro.map A2.r):ES ro its k (t+1)=ES ro its k t:=by
 unfold ES
 obtain ⟨D,hD⟩:∃D,AR (its.getD k AY)=D:=⟨_,Z⟩
 obtain ⟨d,hd⟩:∃d,(AR (its.getD k AY))[t]=d:=⟨_,Z⟩
 rw [hd] at hr;rw [φ ht,hd]
 have e1:∀(ds:List (List (AP×Int))) (T:List (AP×Int)),aL (ro.map A2.r) ds (its.getD k AY) (T++ [d])=aL (ro.map A2.r) ds (its.getD k AY) T:=fun ds T=>by
  unfold aL;rw [Q1 hr,QA (fun h=>hr h.1)]
 rw [e1]
 congr 1
 refine ωj fun x hx=>?_;have hne:x.r≠d.1:=fun e=>hr (e▸ϖ.2 ⟨x,hx,Z⟩);rw [EP,EP];have:C7 ((AR (its.getD k AY)).take t++ [d]) x.r=C7 ((AR (its.getD k AY)).take t) x.r:=DI hne;rw [this]
theorem DC (x:AK):((AR x).map Prod.fst).Nodup:=by
 unfold AR
 split
 ·have:=Ng (ctr x);show ((Ln (ctr x)).map Prod.fst).Pairwise _;rw [ωy];refine this.imp fun {a b} h e=>?_;rw [e,O5.refl] at h;omega
 ·exact List.nodup_nil
theorem X4 {ro:List A2} (hro:(ro.map A2.r).Nodup) {its:List AK} {k t j:Nat} (hk:k≤its.length) (ht:t<(AR (its.getD k AY)).length) (hj:j<ro.length) (hr:(ro.map A2.r).idxOf ((AR (its.getD k AY))[t]).1=j) (hm:((AR (its.getD k AY))[t]).1∈ro.map A2.r) {x:Nd} {y:Po} (hx:(ES ro its k t).nd[k]? =some x) (hy:(ES ro its k t).po[j]? =some y):
  ES ro its k (t+1)=⟨(ES ro its k t).nd.set k (jnX x j y.q.length ((AR (its.getD k AY))[t]).2),(ES ro its k t).po.set j (jnY y k ((AR (its.getD k AY))[t]).2),none,none⟩:=by
 obtain ⟨d,hd⟩:∃d,(AR (its.getD k AY))[t]=d:=⟨_,Z⟩
 rw [hd] at hr hm⊢
 have hdn:d.1∉((AR (its.getD k AY)).take t).map Prod.fst:=fun h=>by
  have h1:=DC (its.getD k AY);rw [←χw t (AR (its.getD k AY)),χg ht,hd,ωc,ωm,χp] at h1;exact h1.2.2 _ h _ (ωo ..) rfl
 have hl:(H9 (ro.map A2.r) its k).length=k:=by unfold H9;simp
 have hdsl:((its.map AR).take k).length=k:=by simp;omega
 have ex:x=aL (ro.map A2.r) ((its.map AR).take k) (its.getD k AY) ((AR (its.getD k AY)).take t):=by
  have hx':(H9 (ro.map A2.r) its k++ [aL (ro.map A2.r) ((its.map AR).take k) (its.getD k AY) ((AR (its.getD k AY)).take t)])[k]? =some x:=hx;rw [ωr (by omega),hl,Nat.sub_self] at hx';exact (Option.some.inj hx').symm
 have hy':(ro.map (UD ((its.map AR).take k++ [(AR (its.getD k AY)).take t])))[j]? =some y:=hy;rw [η,ω hj] at hy';have ey:y=UD ((its.map AR).take k++ [(AR (its.getD k AY)).take t]) ro[j]:=(Option.some.inj hy').symm
 have hrj:ro[j].r=d.1:=by
  have h1:=φg (ψq hm);simp only [hr,ωd] at h1;exact h1
 have ha0:C7 ((AR (its.getD k AY)).take t) d.1=0:=GJ hdn
 have hyq:y.q.length=(negQ ((its.map AR).take k) d.1).length:=by
  rw [ey,EP,hrj,ha0];show (negQ _ _++_).length=_;rw [hrj];simp
 unfold ES;rw [φ ht,hd]
 congr 1
 ·rw [List.set_append_right _ _ (by omega),hl,Nat.sub_self,List.set_cons_zero]
  congr 2
  rw [ex];unfold aL jnX;rw [U6 hm,hr,hyq]
  by_cases h0:d.2<0
  ·rw [Zf hm h0,hr,κ h0]
  ·rw [QA (fun h=>h0 h.2),ϑ h0]
 ·refine χr fun i=>?_;rw [χq]
  by_cases e:j=i
  ·subst e;rw [κ Z,κ (by simpa using hj),η,ω hj];show some _=some _
   congr 1
   rw [ey];unfold jnY;rw [EP,EP,hrj];have h1:C7 ((AR (its.getD k AY)).take t++ [d]) d.1=d.2:=D1 hdn;rw [h1,ha0,hdsl,hrj.symm];simp only [Int.add_zero,Po.mk.injEq,true_and,and_true]
   by_cases h0:d.2<0
   ·simp [h0]
   ·simp [h0]
  ·rw [ϑ e,η,η]
   cases hi:ro[i]? with
   | none=>rfl
   | some z=>
    show some _=some _
    congr 1
    have hil:=(χ.1 hi)
    have hne:z.r≠d.1:=fun e2=>e (by
     have h1:(ro.map A2.r)[j]'(by simpa using hj)=(ro.map A2.r)[i]'(by simpa using hil.1):=by
      rw [ωd,ωd,hil.2,hrj,e2]
     exact (List.getElem_inj hro).1 h1)
    rw [EP,EP];have:C7 ((AR (its.getD k AY)).take t++ [d]) z.r=C7 ((AR (its.getD k AY)).take t) z.r:=DI hne;rw [this]
end Go.Proofs.YteifpcnphnhaoaaGreat
namespace Go.Proofs.YteifpcnphnhaoaaGreat
open Go.RowKit Go.Shelf
def nrm1:D ->D
 | .sl (some true) []=> .raw (.slice none 0 0)
 | x=>x
def nrm:D ->D
 | .agg cs=> .agg (cs.map nrm1)
 | x=>nrm1 x
theorem aC (x:D):(nrm1 x).one=x.one:=by
 unfold nrm1
 split<;>rfl
theorem AQ.nrm1 {w:World} {O:Nat ->Prop} {x:D} {v:Value} (h:AQ w O x v):AQ w O (nrm1 x) v:=by
 unfold Go.Proofs.YteifpcnphnhaoaaGreat.nrm1
 split
 ·cases h with
  | sl k hn hz hln hc hm hk ha hp=>
   rename_i a n cap
   have h1:=hn true rfl
   have h2:a=none:=by cases a with
    | none=>rfl
    | some _=>cases h1
   subst h2;have h3:=hz rfl;have h4:n=0:=hln.symm;subst h3 h4;exact .raw rfl
 ·exact h
theorem AQ.nrm {w:World} {O:Nat ->Prop} {x:D} {v:Value} (h:AQ w O x v):AQ w O (nrm x) v:=by
 unfold Go.Proofs.YteifpcnphnhaoaaGreat.nrm
 split
 ·rename_i cs
  cases h with
  | agg hl h1 hr=>
   refine .agg (by rw [hl,ψ]) (fun c hc=>?_) fun i c v hc hv=>?_
   ·obtain ⟨d,hd,rfl⟩:=ϖ.1 hc;rw [aC];exact h1 d hd
   ·rw [η] at hc
    cases hd:cs[i]? with
    | none=>rw [hd] at hc;cases hc
    | some d=>
     rw [hd] at hc;injection hc with hc;subst hc
     exact (hr i d v hd hv).nrm1
 ·exact h.nrm1
section
variable {P:Program} {F:Fr} {Q:Exit ->AS ->Prop} {ops:Array Oper} {l:List Oper} {n:Nat} {env:List (Nat×AV)} {hp:Hp}
theorem Zy (t:Nat) {x:D} (ht:get env t=some (.d x)) (h:Ab P F ops l Q ⟨n,(t,.d (nrm x))::env,hp⟩):Ab P F ops l Q ⟨n,env,hp⟩:=fun ρ act w hs=>h ρ act w ⟨hs.size,hs.defs,fun t' a ha=>by
 rcases KL ha with ⟨rfl,rfl⟩ | ⟨_,ha⟩
 ·have hr:=hs.env t _ ht
  generalize act.tmps.getD t undef=v at hr⊢
  cases hr with
  | d h=>exact .d h.nrm
 ·exact hs.env t' a ha,hs.heap⟩
end
def ZF (M:MF) (h:Hd) (E:TypeId) (ys:List D):MF:=match h with
 | none=>M
 | some (b,c)=>B1 M b (.row E 1 c ys)
theorem Xm {f:Nat} {M:MF}:∀(H H':Hp),hfam H f=some [.multi M] ->B2 H f M=some H' ->H'=H:=by
 intro H
 induction H with
 | nil=>intro H' h;cases h
 | cons p r ih=>
  obtain ⟨k,l⟩:=p;intro H' h1 h2;simp only [hfam] at h1;simp only [B2] at h2
  cases hk:Nat.beq k f with
  | true=>
   rw [hk] at h1 h2;injection h1 with h1
   subst h1;simp only [isM] at h2;injection h2 with h2;exact h2.symm
  | false=>
   rw [hk] at h1 h2;dsimp only at h1 h2
   cases hr:B2 r f M with
   | none=>rw [hr] at h2;cases h2
   | some r'=>
    rw [hr] at h2;injection h2 with h2
    rw [←h2,ih r' h1 hr]
theorem Yu {P:Program} {ρr:Ren} {τ:Type} (L:SlLaysF.n6 P ρr) {E:TypeId} {g g6:FuncId} {fn:Func} (hfn:P.funcs[g]? =some fn) (hnm:(fn.name== "runtime.NumGoroutine")=false) {c:Code} (hbody:fn.body=some c)
  {bl:τ ->Nat} {px:τ ->List D} {tx:τ ->TypeId} (cf:τ ->τ ->Int) (hO:Go.Sort.SWO (ltOf cf)) (xs ys0:List τ) (hsz:xs.length<4611686018427387904) (hc:∀x∈xs,∀y∈xs,AO P g [.d (.ptr (.agg (px x))),.d (.ptr (.agg (px y)))] (.raw (.int .i64 (cf x y))))
  (hu:∀ys:List τ,ys.Perm xs ->ys.Pairwise (fun a b=>¬cf b a<0) ->ys=ys0)
  {F:Fr} {s:AS} {d:Nat} {x y:Operand} {ty:TypeId} {pos:String} {aft:Array Edge} {gd:Option (Nat×Bool)} {at_:Array TypeId} {f n:Nat} {h:Hd} {M:MF} {fa:AV} {row:List D} {hp':Hp}
  (hg:ρr.f 6=g6) (hM:hfam s.hp f=some [.multi M]) (hpx:∀x∈xs,M (bl x)=some (.cells (tx x) (px x))) (h1x:∀x∈xs,∀c∈px x,c.one=true) (hx:s.ev x=some (.d (hdr h n))) (hy:s.ev y=some fa) (hfa:∀w O ρ v,AW w O ρ fa v ->v= .func (.func g) #[] #[]) (hb:BK M h E 1 row) (hrow:row=xs.map fun x=>pD (bl x) 0) (hn:n=xs.length) (hxh:h≠none ->xs≠ []) (hh:B2 s.hp f (ZF M h E (ys0.map fun x=>pD (bl x) 0))=some hp') (hd:Nat.blt d s.n=true):
  AJ P F ⟨some d,.call {callee:= .value (.func g6),args:= #[x,y],argTypes:=at_},ty,pos,aft,gd⟩ s ⟨s.n,(d,.d (.tup []))::s.env,hp'⟩ (fun _ _=>true):=by
 match h,hx,hb,hh,hxh with
 | none,hx,hb,hh,_=>
  rw [Xm _ _ hM hh];exact Wp L hg hx hy hd
 | some (b,cap),hx,hb,hh,hxh=>exact Yt L hfn hnm hbody cf hO xs ys0 hsz hc hu hg hM hpx h1x hx hy hfa hb.2 hrow hn (hxh (by simp)) hh hd
theorem rep0 (wb mv:Nat) (nb pb:Nat ->Nat) {M:MF} (hw:M wb=some (XY none 0 none 0 mv)):CA wb mv nb pb ⟨[],[],none,none⟩ M:=by
 refine ⟨fun i x hx=>by simp at hx,fun j y hy=>by simp at hy,⟨fun r=>?_,fun r r' b c c' h1 h2=>?_⟩,hw,fun i j hi _=>by simp at hi,fun i j hi _=>by simp at hi,fun x hx=>(by cases hx),fun y hy=>(by cases hy)⟩
 ·cases r<;>rfl
 ·cases r<;>cases h1
structure GV (p:Prb):Prop where
 i:p.it.length≤30
 r:p.ro.length≤100
 x:∀x∈p.it,x.po.length≤12∧x.pa.length≤12∧x.af.length≤12
def cm (x:AK):Prop:=x.po.length≤12∧x.pa.length≤12∧x.af.length≤12
theorem GV.b {p:Prb} (h:GV p):E7 p:=⟨by have:=h.r;omega,by have:=h.i;omega,fun i hi=>by have:=h.x i hi;omega⟩
theorem QE {α β:Type} {l:List (α×β)} (h:(l.map Prod.fst).Nodup):l.Nodup:=by
 have h':(l.map Prod.fst).Pairwise (fun a b=>a≠b):=h;rw [ωy] at h';exact h'.imp fun {a b} h e=>h (by rw [e])
theorem MO {x:AK} (h:cm x):(AR x).length≤60:=by
 unfold AR
 split
 ·have h1:(Xr x).length≤(ctr x).length:=by
   have h2:(Ln (ctr x)).length≤(sumL (ctr x)).length:=by
    have hp:(Ln (ctr x)).Perm ((sumL (ctr x)).filter fun d=>decide (d.2≠0)):=by
     refine (χz ?_ ?_).2 fun d=>?_
     ·have:=Ng (ctr x);refine this.imp fun {a b} h e=>?_;rw [e,O5.refl] at h;omega
     ·exact (QE (Ez (ctr x))).filter _
     ·rw [KD,ωa];simp
    rw [hp.length_eq];exact ωh _ _
   exact ωe h2 (HX _)
  have:=JJ x;have:=h.1;have:=h.2.1;omega
 ·exact Γ _
theorem KC (x:AK):Qm (AR x):=by
 unfold AR
 split
 ·rename_i hE
  intro d hd;exact bnd_E hE d ((KD _ _).1 hd).1
 ·intro d hd;cases hd
theorem WV {D:List (AP×Int)} (h:Qm D) (r:AP): -1000000000000000≤C7 D r∧C7 D r≤1000000000000000:=by
 unfold C7
 induction D with
 | nil=>simp [A6]
 | cons d D ih=>
  obtain ⟨k,b⟩:=d;simp only [A6]
  split
  ·exact h (k,b) (ωo ..)
  ·exact ih fun x hx=>h x (ωn _ hx)
theorem VM:∀{ds:List (List (AP×Int))} (_:∀D∈ds,Qm D) (r:AP),-(ds.length*1000000000000000)≤(ds.map fun D=>C7 D r).sum∧(ds.map fun D=>C7 D r).sum≤ds.length*1000000000000000
 | [],_,r=>by simp
 | D::ds,h,r=>by
  have h1:=WV (h D (ωo ..)) r;have h2:=VM (ds:=ds) (fun D hD=>h D (ωn _ hD)) r;simp only [ωm,φe,ψo];omega
theorem J8 (ds:List (List (AP×Int))) (r:AP):(negQ ds r).length≤ds.length:=by
 unfold negQ;refine ωe (ωh _ _) ?_
 simp
theorem WK (rs:List AP) (D:List (AP×Int)):(U7 rs D).length≤D.length:=by
 unfold U7;rw [ψ];exact ωh _ _
theorem V1 (rs:List AP) (ds:List (List (AP×Int))) (D:List (AP×Int)):(XN rs ds D).length≤D.length:=by
 unfold XN;rw [ψ];exact ωh _ _
theorem bU {N:Net} {i:Nat} {x:Nd} (h:N.nd[i]? =some x):(Au N).nd[i]? =some (EG x):=by
 show (N.nd.map EG)[i]? =_;rw [η,h];rfl
theorem bT {N:Net} {i:Nat} {y:Po} (h:N.po[i]? =some y):(Au N).po[i]? =some (CQ y):=by
 show (N.po.map CQ)[i]? =_;rw [η,h];rfl
theorem ca {ro:List A2} {its:List AK} (hi:its.length≤30) (hx:∀x∈its,cm x) {k t j:Nat} (hk:k<its.length) {N:Net} (h:Au N=ES ro its k t) {x:Nd} {y:Po} (h1:N.nd[k]? =some x) (h2:N.po[j]? =some y):
  (-1000000000000000000≤y.sum∧y.sum≤1000000000000000000)∧x.ef.length≤100000∧x.pl.length≤100000∧y.q.length≤100000:=by
 have a1:=bU h1;have a2:=bT h2;rw [h] at a1 a2;have hl:(H9 (ro.map A2.r) its k).length=k:=by unfold H9;simp
 have hdl:(AR (its.getD k AY)).length≤60:=MO (hx _ (by rw [CI AY hk];exact θ hk));have a1':(H9 (ro.map A2.r) its k++ [aL (ro.map A2.r) ((its.map AR).take k) (its.getD k AY) ((AR (its.getD k AY)).take t)])[k]? =some (EG x):=a1;rw [ωr (by omega),hl,Nat.sub_self] at a1';have ex:EG x=_:=(Option.some.inj a1').symm;have e1:x.ef=(EG x).ef:=rfl;have e2:x.pl=(EG x).pl:=rfl;have a2':(ro.map (UD ((its.map AR).take k++ [(AR (its.getD k AY)).take t])))[j]? =some (CQ y):=a2;rw [η] at a2'
 cases hj:ro[j]? with
 | none=>rw [hj] at a2';cases a2'
 | some z=>
  rw [hj] at a2';have ey:CQ y=UD ((its.map AR).take k++ [(AR (its.getD k AY)).take t]) z:=(Option.some.inj a2').symm;have e3:y.sum=(CQ y).sum:=rfl;have e4:y.q=(CQ y).q:=rfl;have hds:((its.map AR).take k++ [(AR (its.getD k AY)).take t]).length≤31:=by simp;omega
  have hb:=VM (ds:=(its.map AR).take k++ [(AR (its.getD k AY)).take t]) (fun D hD=>by
   rcases ν.1 hD with hD | hD
   ·obtain ⟨x,_,rfl⟩:=ϖ.1 (ψc hD);exact KC x
   ·rw [ξ.1 hD];exact (KC _).take t) z.r
  have hq:=J8 ((its.map AR).take k++ [(AR (its.getD k AY)).take t]) z.r;have he:=WK (ro.map A2.r) ((AR (its.getD k AY)).take t);have hp:=V1 (ro.map A2.r) ((its.map AR).take k) ((AR (its.getD k AY)).take t);rw [Ω] at he hp;rw [e1,e2,e3,e4,ex,ey];unfold UD aL;dsimp only
  generalize (List.map (fun D=>C7 D z.r) (List.take k (List.map AR its)++ [List.take t (AR (its.getD k AY))])).sum=S at hb⊢
  generalize (List.take k (List.map AR its)++ [List.take t (AR (its.getD k AY))]).length=m at*
  omega
theorem T_step {ro:List A2} (hro:(ro.map A2.r).Nodup) {its:List AK} {k t j:Nat} (hk:k<its.length) (ht:t<(AR (its.getD k AY)).length) {N N':Net} (h:Au N=ES ro its k t) (hr:(ro.map A2.r).idxOf ((AR (its.getD k AY))[t]).1=j) (hm:((AR (its.getD k AY))[t]).1∈ro.map A2.r) {x x':Nd} {y y':Po} (h1:N.nd[k]? =some x) (h2:N.po[j]? =some y)
  (e1:N'.nd=N.nd.set k x') (ex:EG x'=EG (jnX x j y.q.length ((AR (its.getD k AY))[t]).2)) (e2:N'.po=N.po.set j y') (ey:CQ y'=CQ (jnY y k ((AR (its.getD k AY))[t]).2)):Au N'=ES ro its k (t+1):=by
 have a1:=bU h1;have a2:=bT h2
 have hj:j<ro.length:=by
  have:=ψq hm;rw [hr] at this;simpa using this
 rw [h] at a1 a2;rw [X4 hro (Nat.le_of_lt hk) ht hj hr hm a1 a2,←h];unfold Au;dsimp only;rw [e1,e2,List.map_set,List.map_set,ex,ey]
 rfl
theorem FQ.del {M:MF} {R:RI ->RowM} (h:FQ M R) {b:Nat} {t:TypeId} {cs:List D} (hb:M b=some (.cells t cs)):FQ (Ea M b) R:=by
 refine ⟨fun r=>?_,h.2⟩;have h1:=h.1 r
 cases hh:(R r).h with
 | none=>rw [hh] at h1;exact h1
 | some p=>
  obtain ⟨b',c⟩:=p;rw [hh] at h1;refine ⟨h1.1,?_⟩;rw [Gd]
  ·exact h1.2
  ·rintro rfl;have:=h1.2;rw [hb] at this;cases this
theorem CA.addN2 {wb mv:Nat} {nb pb:Nat ->Nat} {N:Net} {M:MF} (h:CA wb mv nb pb N M) {x:Nd} (hx1:x.ef=[]) (hx2:x.eh=none) (hx3:x.pl=[]) (hx4:x.ph=none) {bn:Nat} (hM:M bn=some (T6 x)) (hbn:∀j,j<N.nd.length ->nb j≠bn) {b cap:Nat} (hb:B5 (Ea M wb) N.nh b=none) (hl:N.nd.length+1≤cap) {wb':Nat} (hw':B1 (B5 (Ea M wb) N.nh) b (.row Zc 1 cap ((List.range N.nd.length).map (fun j=>BL (nb j))++ [BL bn])) wb'=none):
  CA wb' mv (MN nb N.nd.length bn) pb {N with nd:=N.nd++ [x],nh:=some (b,cap)} (B1 (B1 (B5 (Ea M wb) N.nh) b (.row Zc 1 cap ((List.range N.nd.length).map (fun j=>BL (nb j))++ [BL bn]))) wb' (XY (some (b,cap)) (N.nd.length+1) N.mh N.po.length mv)):=by
 have hq:∀j,((N.po.getD j CV).q.map fun i=>BL (MN nb N.nd.length bn i))=(N.po.getD j CV).q.map fun i=>BL (nb i):=fun j=>ωj fun e he=>by
  rcases getD_mem (l:=N.po) (d:=CV) j with hm | hm
  ·rw [DB (h.q _ hm e he)]
  ·rw [hm] at he;cases he
 have hR:∀r,r≠RI.n ->CT (MN nb N.nd.length bn) pb {N with nd:=N.nd++ [x],nh:=some (b,cap)} r=CT nb pb N r:=fun r hr=>by
  cases r with
  | q j=>show (⟨_,_,_,(N.po.getD j CV).q.map _⟩:RowM)=_;rw [hq];rfl
  | m=>rfl
  | n=>exact absurd Z hr
  | e i=>
   show (⟨((N.nd++ [x]).getD i Bl).eh,_,_,((N.nd++ [x]).getD i Bl).ef.map _⟩:RowM)=⟨(N.nd.getD i Bl).eh,_,_,(N.nd.getD i Bl).ef.map _⟩
   rw [Kt]
   split
   ·rename_i e
    rw [hx1,hx2,ϱ,ωx (by omega)];rfl
   ·rfl
  | p i=>
   show (⟨((N.nd++ [x]).getD i Bl).ph,_,_,((N.nd++ [x]).getD i Bl).pl.map _⟩:RowM)=⟨(N.nd.getD i Bl).ph,_,_,(N.nd.getD i Bl).pl.map _⟩
   rw [Kt]
   split
   ·rename_i e
    rw [hx3,hx4,ϱ,ωx (by omega)];rfl
   ·rfl
 have hd:=h.rs.del h.w
 have hup:=hd.upd (R':=CT (MN nb N.nd.length bn) pb {N with nd:=N.nd++ [x],nh:=some (b,cap)}) .n hR (b:=b) (cap:=cap) hb Z (by
  show ((List.range (N.nd++ [x]).length).map _).length≤cap
  simp;exact hl)
 have hrow:(CT (MN nb N.nd.length bn) pb {N with nd:=N.nd++ [x],nh:=some (b,cap)} .n).xs=(List.range N.nd.length).map (fun j=>BL (nb j))++ [BL bn]:=by
  show (List.range (N.nd++ [x]).length).map _=_;rw [Θ,Ψ,Ow]
 rw [hrow] at hup
 have hk:∀(b':Nat) (t:TypeId) (cs:List D),t≠180 ->M b'=some (.cells t cs) ->B1 (B1 (B5 (Ea M wb) N.nh) b (.row Zc 1 cap ((List.range N.nd.length).map (fun j=>BL (nb j))++ [BL bn]))) wb' (XY (some (b,cap)) (N.nd.length+1) N.mh N.po.length mv) b'=some (.cells t cs):=fun b' t cs ht hm=>by
  refine GH hw' ?_
  have h1:Ea M wb b'=some (.cells t cs):=by
   rw [Gd]
   ·exact hm
   ·rintro rfl;rw [h.w] at hm;injection hm with hm;injection hm with hm;exact ht hm.symm
  exact Go.Proofs.YteifpcnphnhaoaaGreat.keepM hb h1 fun c hc=>by have:=hd.blk (r:= .n) hc;rw [h1] at this;cases this
 refine ⟨fun i z hz=>?_,fun j y hy=>hk _ _ _ (by decide) (h.p j y hy),⟨fun r=>LP hw' (hup.1 r),hup.2⟩,?_,fun i k hi hk e=>?_,h.pi,fun z hz=>?_,fun y hy=>?_⟩
 ·rcases snoc_get hz with ⟨h1,h2⟩ | ⟨h1,h2⟩
  ·rw [DB h1];exact hk _ _ _ (by decide) (h.n i z h2)
  ·subst h1 h2;rw [Fl];exact hk _ _ _ (by decide) hM
 ·rw [Fm];show _=some (Af.cells _ [hdr _ (N.nd++ [x]).length,_,_]);rw [Θ];rfl
 ·have hi':i<N.nd.length+1:=by simpa using hi
  have hk':k<N.nd.length+1:=by simpa using hk
  by_cases e1:i=N.nd.length<;>by_cases e2:k=N.nd.length
  ·omega
  ·subst e1;rw [Fl,DB (by omega)] at e;exact absurd e.symm (hbn k (by omega))
  ·subst e2;rw [Fl,DB (by omega)] at e;exact absurd e (hbn i (by omega))
  ·rw [DB (by omega),DB (by omega)] at e;exact h.ni i k (by omega) (by omega) e
 ·rcases ν.1 hz with hz | hz
  ·exact h.e z hz
  ·have e:=ξ.1 hz;subst e;refine ⟨fun e he=>?_,fun e he=>?_⟩
   ·rw [hx1] at he;cases he
   ·rw [hx3] at he;cases he
 ·intro i hi;have:=h.q y hy i hi
  simp;omega
section
variable {P:Program} {F:Fr} {s:AS} {d:Nat} {ty T T' E:TypeId} {pos:String} {aft:Array Edge} {g:Option (Nat×Bool)} {x:Operand}
theorem RJ {p:Option Addr} (hT:P.underlying T=some (.pointer E)) (hx:s.ev x=some (.d (.raw (.pointer p)))) (hd:Nat.blt d s.n=true):AA P F ⟨some d,.binOp .neq T x (.const (.pointer none)) T',ty,pos,aft,g⟩ s d (.d (.raw (.bool (!p.isNone)))):=
 Ck _ hd fun ρ act w hs=>by
  have hv:=hs.raw hx;have hp:P.pointee T=E:=by unfold Program.pointee;rw [hT]
  have hc:act.eval (.const (.pointer none))= .pointer none:=rfl;exact ⟨.bool (!p.isNone),by simp [execOp,hv,hc,Sc,binOp,run_equal_pointer_nil w T p (by rw [hp];exact hT)],.d (.raw Z)⟩
end
section
variable {P:Program} {F:Fr} {s:AS} {d:Nat} {ty T:TypeId} {pos:String} {aft:Array Edge} {g:Option (Nat×Bool)} {x:Operand}
theorem Wq (gg jg:Nat) {f j off f2 j2 m:Nat} {t:TypeId} {cs:List AV} (hx:s.ev x=some (.ptr f j off)) (ho:hget s.hp f j=some (.blk t cs)) (hc:cs[off]? =some (.d (.raw (.map (some m))))) (hg:hget s.hp gg jg=some (.addr f2 j2 (.map (some m)))) (hT:BG P T=true) (hd:Nat.blt d s.n=true):
  AA P F ⟨some d,.load T x,ty,pos,aft,g⟩ s d (.map f2 j2):=by
 have h:=A9 (F:=F) (ty:=ty) (pos:=pos) (aft:=aft) (g:=g) hx ho hc hT hd;refine ⟨h.1,h.2.1,fun ρ act w hs=>?_⟩;refine Zco (fun a w' ⟨v,e1,e2,e3⟩=>⟨v,e1,?_,e3⟩) (h.2.2 ρ act w hs)
 cases e2 with
 | d e2=>cases e2 with
  | raw _=>
   obtain ⟨_,hv⟩:=hs.heap.sim gg jg _ hg;exact .map hv
end
def Cp (p:Prb):List A2:=(Fz (p.ro.map A2.r)).map fun i=>p.ro.getD i DN
def Kv (y:Po):Po:={y with mi:=y.q.length}
def aJ (p:Prb):Net:=⟨(FW (Cp p) (ordP p) (ordP p).length).nd,(FW (Cp p) (ordP p) (ordP p).length).po.map Kv,none,none⟩
theorem aF {α:Type} {l:List A2} {f:A2 ->α} (h:(l.map f).Nodup) (k:Nat):((l.take k).map f).Nodup:=by
 exact h.sublist ((List.take_sublist k l).map f)
theorem aG {l:List A2} {f:A2 ->AP} (h:(l.map f).Nodup) {k:Nat} (hk:k<l.length):f l[k]∉(l.take k).map f:=fun hm=>by
 have h1:=aF h (k+1);rw [DT hk,χp] at h1;exact h1.2.2 _ hm _ (List.mem_singleton_self _) rfl
theorem G7 {p:Prb} (hE:Az p=0):(p.ro.map A2.r).Nodup:=by
 have h0:=W4.1 (O3 hE).1;rw [List.Nodup,ωy,ωq];intro i j hi hj hij e;have:=h0 j (ς.2 hj);unfold OO at this;rw [CI DN hj] at this
 split at this
 ·contradiction
 ·split at this
  ·cases this
  ·split at this
   ·cases this
   ·rename_i hn;exact hn (NE hj hij e)
theorem pm_in {rs:List AP} (hn:rs.Nodup) {ys:List Nat} (hp:ys.Perm (List.range rs.length)) {f:Nat ->Nat} {r:AP} {z:Value} (hm:r∈ys.map fun i=>rs.getD i EM):A6 (Ti EM f rs) r z=pV (f (ys.getD ((ys.map fun i=>rs.getD i EM).idxOf r) 0)) 0:=by
 have hj:=ψq hm;have he:=φg hj
 generalize (ys.map fun i=>rs.getD i EM).idxOf r=j at hj he⊢
 rw [ψ] at hj;rw [ωd] at he;have hi:ys[j]<rs.length:=ς.1 (hp.mem_iff.1 (θ hj));rw [CI EM hi] at he;rw [CI 0 hj];exact VH hn hi he
theorem pm_out {rs:List AP} {ys:List Nat} (hp:ys.Perm (List.range rs.length)) {f:Nat ->Nat} {r:AP} {z:Value} (hm:r∉ys.map fun i=>rs.getD i EM):A6 (Ti EM f rs) r z=z:=by
 refine tab_no fun h=>hm ?_;obtain ⟨i,hi,e⟩:=ωu h;exact ϖ.2 ⟨i,hp.mem_iff.2 (ς.2 hi),by rw [CI EM hi,e]⟩
theorem Tu (p:Prb):(Cp p).map A2.r=(Fz (p.ro.map A2.r)).map fun i=>(p.ro.map A2.r).getD i EM:=by
 unfold Cp;rw [ωv];refine ωj fun i hi=>?_;have hi':=ς.1 ((YM (p.ro.map A2.r)).mem_iff.1 hi);have hi2:i<p.ro.length:=by simpa using hi'
 show (p.ro.getD i DN).r=_;rw [CI DN hi2,CI EM hi',ωd]
theorem poC_one (y:Po):∀c∈poC y,c.one=true:=by
 intro c hc;simp only [Φ,List.not_mem_nil,or_false] at hc;rcases hc with rfl | rfl | rfl | rfl | rfl | rfl | rfl | rfl | rfl | rfl<;>rfl
theorem Lu {p:Prb} {i:Nat} (hi:i<p.ro.length):(p.ro.map A2.r).getD i EM=(p.ro.getD i DN).r:=by
 rw [CI DN hi,CI EM (by simpa using hi),ωd]
theorem ZE (p:Prb):∀i∈List.range p.ro.length,∀j∈List.range p.ro.length,AO Tryz.prog 142 [.d (.ptr (.agg (poC (Ia (p.ro.getD i DN))))),.d (.ptr (.agg (poC (Ia (p.ro.getD j DN)))))] (.raw (.int .i64 (JK (p.ro.map A2.r) i j))):=fun i hi j hj=>by
 have h:=cmpPo_p (Ia (p.ro.getD i DN)) (Ia (p.ro.getD j DN))
 have e:JK (p.ro.map A2.r) i j=Bh (p.ro.getD i DN).r (p.ro.getD j DN).r:=by
  unfold JK;rw [Lu (ς.1 hi),Lu (ς.1 hj)]
 rw [e];exact h
theorem sort_px {p:Prb} {wb mv:Nat} {pb:Nat ->Nat} {mh:Hd} {M:MF} (hR:CA wb mv (fun _=>0) pb ⟨[],p.ro.map Ia,none,mh⟩ M):∀i∈List.range p.ro.length,M (pb i)=some (.cells 190 (poC (Ia (p.ro.getD i DN)))):=fun i hi=>by
 have hi':=ς.1 hi;refine hR.p i (Ia (p.ro.getD i DN)) ?_;show (p.ro.map Ia)[i]? =_;rw [η,ω hi',CI DN hi'];rfl
theorem ZD {p:Prb} {wb mv:Nat} {pb:Nat ->Nat} {mh:Hd} {M:MF} (hR:CA wb mv (fun _=>0) pb ⟨[],p.ro.map Ia,none,mh⟩ M):
  CA wb mv (fun _=>0) (fun k=>pb ((Fz (p.ro.map A2.r)).getD k 0)) ⟨[],(Cp p).map Ia,none,mh⟩ (ZF M mh VX ((Fz (p.ro.map A2.r)).map fun x=>pD (pb x) 0)):=by
 have hp:(Fz (p.ro.map A2.r)).Perm (List.range (p.ro.map Ia).length):=by
  have:=YM (p.ro.map A2.r);rw [ψ] at this⊢;exact this
 have hpo:(Fz (p.ro.map A2.r)).map (fun i=>(p.ro.map Ia).getD i CV)=(Cp p).map Ia:=by
  unfold Cp;rw [ωv];refine ωj fun i hi=>?_;have hi':=ς.1 (hp.mem_iff.1 hi);have hi2:i<p.ro.length:=by simpa using hi'
  show _=Ia (p.ro.getD i DN);rw [CI CV hi',CI DN hi2,ωd]
 cases hmh:mh with
 | some q=>
  obtain ⟨b,c⟩:=q;subst hmh;have h:=hR.perm Z (fun y hy=>by obtain ⟨x,_,rfl⟩:=ϖ.1 hy;exact ⟨Z,Z⟩) hp rfl;dsimp only at h;rw [hpo] at h;exact h
 | none=>
  subst hmh;have h0:BK M none VX 1 ((List.range (p.ro.map Ia).length).map fun j=>BL (pb j)):=hR.rs.1 .m;have h1:=TW h0 rfl;rw [ωf,ψ] at h1;have h2:p.ro=[]:=ωw h1
  have h3:(Cp p).map Ia=p.ro.map Ia:=by
   have h4:Fz (p.ro.map A2.r)=[]:=ωw (by rw [hp.length_eq,ωf,ψ,h1]);rw [←hpo,h4,h2];rfl
  rw [h3];rw [h2] at hR⊢;exact ⟨hR.n,fun j y hy=>by simp at hy,⟨fun r=>by cases r<;>rfl,fun r r' b c c' e1 e2=>by cases r<;>cases e1⟩,hR.w,hR.ni,fun i j hi _ _=>by simp at hi,hR.e,hR.q⟩
theorem X0 (ros:List A2) (its:List AK) {mh:Hd}:Au ⟨[],ros.map Ia,none,mh⟩=FW ros its 0:=by
 unfold Au FW H9;dsimp only;rw [ωv]
 rfl
theorem Ee {p:Prb} (hE:Az p=0):((ordP p).map AK.id).Nodup:=by
 have h1:ordP p=BJ p.it:=κ hE;rw [h1];exact ((W5 p.it).map AK.id).nodup_iff.2 (DL (O3 hE).2.1)
theorem Mj {p:Prb} (hE:Az p=0):((Cp p).map A2.r).Nodup:=by
 have h1:(Cp p).Perm p.ro:=by
  unfold Cp;refine ((YM (p.ro.map A2.r)).map _).trans (List.Perm.of_eq ?_);rw [ψ]
  apply χc (by simp)
  intro i h1 h2;simp only [ωd,ψu];exact CI DN (by simpa using h2)
 exact (h1.map A2.r).nodup_iff.2 (G7 hE)
theorem PI {l:List AK} (h:(l.map AK.id).Nodup) {k:Nat} (hk:k<l.length):l[k].id∉(l.take k).map AK.id:=fun hm=>by
 have h1:((l.take (k+1)).map AK.id).Nodup:=h.sublist ((List.take_sublist (k+1) l).map AK.id);rw [DT hk,χp] at h1;exact h1.2.2 _ hm _ (List.mem_singleton_self _) rfl
theorem nd_len {N:Net} {ros:List A2} {its:List AK} {k:Nat} (h:Au N=FW ros its k):N.nd.length=k:=by
 have h1:=Δ (fun N=>N.nd.length) h;have h2:(N.nd.map EG).length=(H9 (ros.map A2.r) its k).length:=h1;rw [ψ] at h2;rw [h2];unfold H9;simp
theorem po_len {N:Net} {ros:List A2} {its:List AK} {k:Nat} (h:Au N=FW ros its k):N.po.length=ros.length:=by
 have h1:=Δ (fun N=>N.po.length) h;have h2:(N.po.map CQ).length=(ros.map (UD ((its.map AR).take k))).length:=h1
 rwa [ψ,ψ] at h2
theorem T_zeroX {N:Net} {ros:List A2} {its:List AK} {k:Nat} {x:AK} {nh:Hd} (hX:its.getD k AY=x) (h:Au N=FW ros its k):Au {N with nd:=N.nd++ [⟨x,none,[],none,[],true⟩],nh:=nh}=ES ros its k 0:=by
 subst hX;rw [X1,←h];unfold Au;dsimp only;rw [ωc];rfl
theorem T_skipX {ros:List A2} {its:List AK} {k t:Nat} {X:AK} (hX:its.getD k AY=X) (ht:t<(AR X).length) (hr:((AR X)[t]).1∉ros.map A2.r):ES ros its k (t+1)=ES ros its k t:=by
 subst hX;exact X2 ht hr
theorem T_stepX {ro:List A2} {its:List AK} {k t j:Nat} {X:AK} (hX:its.getD k AY=X) (hro:(ro.map A2.r).Nodup) (hk:k<its.length) (ht:t<(AR X).length) {N N':Net} (h:Au N=ES ro its k t) (hr:(ro.map A2.r).idxOf ((AR X)[t]).1=j) (hm:((AR X)[t]).1∈ro.map A2.r) {x x':Nd} {y y':Po} (h1:N.nd[k]? =some x) (h2:N.po[j]? =some y)
  (e1:N'.nd=N.nd.set k x') (ex:EG x'=EG (jnX x j y.q.length ((AR X)[t]).2)) (e2:N'.po=N.po.set j y') (ey:CQ y'=CQ (jnY y k ((AR X)[t]).2)):Au N'=ES ro its k (t+1):=by
 subst hX;exact T_step hro hk ht h hr hm h1 h2 e1 ex e2 ey
theorem T_nd {N:Net} {ros:List A2} {its:List AK} {k t:Nat} (h:Au N=ES ros its k t):N.nd.length=k+1:=by
 have h1:=Δ (fun N=>N.nd.length) h;have h2:(N.nd.map EG).length=(H9 (ros.map A2.r) its k++ [_]).length:=h1;rw [ψ,Θ] at h2;rw [h2];unfold H9;simp
theorem T_po {N:Net} {ros:List A2} {its:List AK} {k t:Nat} (h:Au N=ES ros its k t):N.po.length=ros.length:=by
 have h1:=Δ (fun N=>N.po.length) h;have h2:(N.po.map CQ).length=(ros.map _).length:=h1
 rwa [ψ,ψ] at h2
theorem T_lastX {ros:List A2} {its:List AK} {k:Nat} {X:AK} (hX:its.getD k AY=X) (hk:k<its.length):ES ros its k (AR X).length=FW ros its (k+1):=by
 subst hX;exact X3 hk
theorem ids_of {N:Net} {ros:List A2} {its:List AK} (h:Au N=FW ros its its.length):BS N=its.map AK.id:=by
 have h1:N.nd.map EG=H9 (ros.map A2.r) its its.length:=Δ (fun N=>N.nd) h;have h2:BS N=(N.nd.map EG).map fun x=>x.it.id:=by unfold BS;rw [ωv];rfl
 rw [h2,h1];unfold H9;rw [ωv]
 apply χc (by simp)
 intro i a b;simp only [ωd,ψu,Function.comp];show (its.getD i AY).id=_;rw [CI AY (by simpa using b)]
theorem bL {po po':List Po} {j:Nat} {y:Po} (hj:j<po.length) (h:po'=(po.take j).map Kv++po.drop j) (hy:po'[j]? =some y):po'.set j (Kv y)=(po.take (j+1)).map Kv++po.drop (j+1):=by
 subst h;have hl:((po.take j).map Kv).length=j:=by rw [ψ,Ω];omega
 rw [ωr (by omega),hl,Nat.sub_self,χg hj] at hy;have e:y=po[j]:=(Option.some.inj hy).symm;rw [List.set_append_right _ _ (by omega),hl,Nat.sub_self,χg hj,List.set_cons_zero,DT hj,e,ψm];rfl
theorem net_fin {p:Prb} {its:List AK} {ros:List A2} (h1:ordP p=its) (h2:Cp p=ros):aJ p=⟨(FW ros its its.length).nd,(FW ros its its.length).po.map Kv,none,none⟩:=by
 unfold aJ;rw [h1,h2]
theorem aH {N N5:Net} {ros:List A2} {its:List AK} (hT:Au N=FW ros its its.length) (h1:N5.nd=N.nd) (h2:N5.po=N.po.map Kv):Au N5=⟨(FW ros its its.length).nd,(FW ros its its.length).po.map Kv,none,none⟩:=by
 rw [←hT];unfold Au;dsimp only;rw [h1,h2,ωv,ωv]
 rfl
set_option maxRecDepth 100000 in
set_option maxHeartbeats 2000000 in
theorem TD (p:Prb) (hf:GV p) (hE:Az p=0):AN Tryz.prog 96 [.d (CB p)] [] fun r H'=>∃wb mv nb pb N M bs,r= .d (.tup [pD wb 0,AF 0])∧H'=HW mv bs (Fd nb (BS N)) M∧CA wb mv nb pb N M∧Au N=aJ p:=by
 have hck:=GE p hf.b;rw [hE] at hck;have hrn:=G7 hE;have hrl:=hf.r;refine BB Tryz.func96 Z Z Tryz.ntmps96 Z Z Z fun F hF=>(AC (AE ?_));refine V (CE 1 Z Z Z Z Z Z Z) (AB Z Z (AB Z Z (AD (AC (AC (AE (J (BO Z Z B8 Z Z Z) (J (BZ (hck) Z Z) ?_))))))));refine AB Z Z (AD (AC (AE (goMv Z Z (J (EA Z Z Z) (AD (Db Z (Z) (A3 ?_))))))));refine AC (AE (V (Ph 50 Z Z Z Z) (Zz 51 50 0 Z Z Z Z Z fun mv=>(o_toRaw 26 51 0 (.inl Z) Z (J (Fe zl180 pl180 Z Z Z) (Zy 27 Z (V (CE 2 Z Z Z Z Z Z Z) (AB Z Z ?_))))))));refine AD (AC (I7 40 Z Z Z (D6 5 2 40 (ds:=[hdr none 0,hdr none 0,K9 (.map (some mv))]) hF Z Z Z Z Z Z Z Z Z Z Z (fun _=>rfl) fun wb hwb=>(AE (V (Ph 3 Z Z Z Z) (AB Z Z (AD (AC ?_))))))));refine AC (AE (J (A4 Z Dr Z Z Z) (J (A9 Z Z Z Mt Z) (J (Bz Z Tryz.underlying36 Z) (goMv Z Z (AD (A5 (B6 (α:=Nat×(Nat ->Nat)×Hd×MF) (fun q=>⟨142,[(1,(.ptr 1 0 0)),(5,(.d (pD wb 0))),(6,(.map 3 0)),(31,(.d (.sl none (p.ro.map CZ)))),(32,(.d (AF (p.ro.length:Int)))),(33,(.d (AF (q.1:Int))))],[(1,[.blk 39 [.d (.sl none (p.ro.map CZ)),.d (.sl none (p.it.map Al))]]),(3,[BM C4 K9 (Ti EM q.2.1 ((p.ro.take q.1).map A2.r))]),(40,[.multi q.2.2.2]),(50,[BM AF K9 (Fd (fun _=>0) [])]),(51,[.addr 50 0 (.map (some mv))])]⟩) (fun q=>q.1≤p.ro.length∧CA wb mv (fun _=>0) q.2.1 ⟨[],(p.ro.take q.1).map Ia,none,q.2.2.1⟩ q.2.2.2∧(q.2.2.1≠none ->0<q.1)) (fun q=>p.ro.length - q.1) ((0,(fun _=>0),none,B1 (fun _=>none) wb (XY none 0 none 0 mv))) (⟨Γ _,rep0 _ _ _ _ (show B1 (fun _=>none) wb (XY none 0 none 0 mv) wb=_ from Fm _ _ _),fun h=>absurd Z h⟩) (A1 hF [1,3,40,50,51] Z Z ⟨Z,Z,Z,Z,Z,Z,trivial⟩) ?_))))))));rintro ⟨k,pb,mh,M⟩ ⟨hk0,hR,hmh⟩;dsimp only at hk0 hR hmh⊢;refine AC (AE (J (BT Z Z Z) (AD (AC (Ah Z (fun h34=>?_) (fun h34=>?_))))))
 ·have hk1:k<p.ro.length:=Bf h34;refine A3 (AC (A5 (AC ?_)));have hpl:((p.ro.take k).map Ia).length=k:=by rw [ψ,Ω];omega
  have hpr:((p.ro.take k).map A2.r).length=k:=by rw [ψ,Ω];omega
  refine AE (J (Bb (k) Z Z (Z) (Ag hk1) Tryz.underlying36 Z Lc Z) (J (GW Z Z ZP Z) ?_));refine V (CO 4 Qn Z Z Z Z) (V (Bi Z Z Z Z Z Z Z Lc) (AD (AC (AE (goMv Z Z (J (A4 Z Dp Z Z Z) (J (BO Z Z CY Z Z Z) (J (A4 Z Dp Z Z Z) ?_))))))));refine J (BO Z Z CY Z Z Z) (J (A4 Z QR Z Z Z) (J (A9 Z Z Z Kg Z) (J (Fe zl190 pl190 Z Z Z) (Zy 44 Z (V (CE 5 Z Z Z Z Z Z Z) (aB 45 5 40 (ds:=poC (Ia p.ro[k])) hF Z Z Z Z Z Z Z Z Z Z Z (fun _=>rfl) fun bn hbn=>(V (T9 (Ti EM pb ((p.ro.take k).map A2.r)) (p.ro[k].r) (pV bn 0) Z Z Z Vn CJ Z Z) (AD ?_))))))));have hrnk:p.ro[k].r∉(p.ro.take k).map A2.r:=aG hrn hk1;rw [VG hrnk,hpr,←DT hk1];have hget:A6 (Ti EM (MN pb k bn) ((p.ro.take (k+1)).map A2.r)) p.ro[k].r (.pointer none)=pV bn 0:=by rw [VH (i:=k) (aF hrn (k+1)) (by rw [ψ,Ω];omega) (by rw [ωd,List.getElem_take]),Fl]
  have hR1:=hR.fresh (m:=T4 (Ia p.ro[k])) hbn;have hpb:((List.range k).map pb).length=k:=by simp
  have hwb1:B1 M bn (T4 (Ia p.ro[k])) wb=some (XY none 0 mh ((List.range k).map pb).length mv):=by rw [hpb];have h:_=some (XY none 0 mh ((p.ro.take k).map Ia).length mv):=hR1.w;rw [hpl] at h;exact h
  have hmr:BK (B1 M bn (T4 (Ia p.ro[k]))) mh VX 1 (((List.range k).map pb).map BL):=by have h:BK _ mh VX 1 ((List.range ((p.ro.take k).map Ia).length).map fun j=>BL (pb j)):=hR1.rs.1 .m;rw [hpl] at h;rw [ωv];exact h
  refine Cc [[],[],[1],[1,2],[1,2,3],[],[],[6],[5,6,7],[5,6,7,8],[1,2,3,4,5,6,7,8,9],[0,1,2,3,4,5,6,7,8,9,10],[0,1,2,3,4,5,6,7,8,9,10,11],[0,1,2,3,4,5,6,7,8,9,10,11,12]] mixed Z (Cj (AI [5] [] Z Z (fun _=>AG (Ai Z Z)) (AI [5] [] Z Z (fun _=>AG (Ai Z Z)) (AI [47] [] Z Z (fun _=>AG (DQ Z Z)) (AI [48] [] Z Z (fun _=>AG (CS Z Jt Z Z Z)) (AI [49] [40] Z Z (fun _=>AG (EX (f:=40) Z Z (hwb1) Z Vb Z)) (AI [6] [] Z Z (fun _=>AG (Ai Z Z)) (AI [8] [] Z Z (fun _=>AG (A4 Z Dp Z Z Z)) ?_))))))));refine AI [52] [4] Z Z (fun _=>AG (BO Z Z CY Z Z Z)) (AI [51,53] [3] Z Z (fun _=>AG (HQ (Ti EM (MN pb k bn) ((p.ro.take (k+1)).map A2.r)) p.ro[k].r (.pointer none) (pV bn 0) Z Z Z Vn CJ Y3 hget Z)) (Fo [54] [6] [(55,_)] Z Z (fun _=>Fq (Dz 6 sl177 Z Z Z Z Z Z Z Z)) (.inr ⟨55,_,Z,Z,Z,Z,Z⟩) Z Z Z Z Z (Fo [50,55] [61,40,6] [(56,_)] Z Z (fun _=>Fq (G3 50 61 40 hmr Z Z (by simp) Z Z Z Z Z (I8 (emb:=BL) ((List.range k).map pb) [bn] Z Z Z Z Z Z Z Z sl177 (by simp;omega) Z Z Z Z))) (.inr ⟨56,_,Z,Z,Z,Z,Z⟩) Z Z Z Z Z (C1 11 Z Z Z (Ae 12 Z Z (Eo 56 61 40 hF Z Z Z (by simp) (by simp) Z Z Z Z Z Z Z (fun _ _=>rfl) fun b1 c1 hb1 hc1=>(J (DQ Z Z) (AD ⟨Z,?_⟩))))))));refine Ae 13 Z Z (J (CS Z Jt Z Z Z) (AD ⟨Z,?_⟩));refine Ae 14 Z Z (V (O2 (f:=40) Z Z Z Z (hR1.keepM hb1 hwb1) ((by show _<3;omega)) Z sz177) (AD ⟨Z,?_⟩));refine C6 ?_;have e1:((List.range ((p.ro.take k).map Ia).length).map (fun j=>BL (pb j))++ [BL bn])=((List.range k).map pb++ [bn]).map BL:=by rw [hpl,ωc,ωv];rfl
  have e2:((List.range k).map pb++ [bn]).length=((p.ro.take k).map Ia).length+1:=by simp;omega
  have hR2:=hR1.addM (y:=Ia p.ro[k]) (bn:=bn) Z Z (Fm _ _ _) (fun j hj e=>by have h1:=hR.p j _ (ω hj);rw [e,hbn] at h1;cases h1) hb1 (cap:=c1) (by have h:=hc1;simp at h⊢;omega);dsimp only at hR2;rw [e1,←e2,←DT hk1,hpl] at hR2;refine AE (J (Ay Z Z (Υ _ (by omega)) Z) (goMv Z Z (AD ?_)));exact ⟨(k+1,MN pb k bn,some (b1,c1),_),⟨by show k+1≤_;omega,hR2,fun _=>Nat.succ_pos _⟩,by show p.ro.length - (k+1)<p.ro.length - k;omega,A1 hF [1,3,40,50,51] Z (Z) ⟨Z,Z,Z,Z,Z,Z,trivial⟩⟩
 ·refine BF (AC ?_);have hkk:k=p.ro.length:=by have h:=h34;omega
  subst hkk;rw [ωt] at hR⊢;have hwb2:M wb=some (XY none 0 mh p.ro.length mv):=by have h:_=some (XY none 0 mh (p.ro.map Ia).length mv):=hR.w;rw [ψ] at h;exact h
  have hR3:=ZD hR;have hmr:BK M mh VX 1 ((List.range p.ro.length).map fun j=>BL (pb j)):=by have h:BK _ mh VX 1 ((List.range (p.ro.map Ia).length).map fun j=>BL (pb j)):=hR.rs.1 .m;rw [ψ] at h;exact h
  refine AE (goMv Z Z (J (DQ Z Z) (J (CS Z Jt Z Z Z) (J (EX (f:=40) Z Z (hwb2) Z Vb Z) (V (Yu laysPo Tryz.func142 Z Z (f:=40) (bl:=pb) (px:=fun j=>poC (Ia (p.ro.getD j DN))) (tx:=fun _=>190) (JK (p.ro.map A2.r)) (Pi _).swo (List.range p.ro.length) (Fz (p.ro.map A2.r)) (by simp;omega) (ZE p) (fun ys h1 h2=>Wu hrn (by rw [ψ];exact h1) h2) Z Z (sort_px hR) (fun _ _=>poC_one _) Z Z Ky hmr Z (by simp) (fun h=>by have h1:=hmh h;intro h2;have h3:=Δ List.length h2;rw [ωf,φq] at h3;omega) Z Z) (AD (AC (AC ?_))))))))
  obtain ⟨its,hits⟩:∃its,ordP p=its:=⟨_,Z⟩
  have hoi:=H6 p hf.b;rw [hits] at hoi
  obtain ⟨ros,hros⟩:∃ros,Cp p=ros:=⟨_,Z⟩
  have hitl:its.length≤30:=by rw [←hits];exact ωe (DY p) hf.i
  have hrol:ros.length≤100:=by rw [←hros];unfold Cp;rw [ψ,(YM _).length_eq,ωf,ψ];exact hrl
  have hitx:∀x∈its,cm x:=fun x hx=>hf.x x (H7 (p:=p) (by rw [hits];exact hx));have hin:(its.map AK.id).Nodup:=by rw [←hits];exact Ee hE
  have hroN:(ros.map A2.r).Nodup:=by rw [←hros];exact Mj hE
  have hpin:=fun (r:AP) (h:r∈ros.map A2.r)=>pm_in (z:= .pointer none) hrn (YM (p.ro.map A2.r)) (f:=pb) (r:=r) (by rw [←Tu,hros];exact h);have hpout:=fun (r:AP) (h:r∉ros.map A2.r)=>pm_out (z:= .pointer none) (YM (p.ro.map A2.r)) (f:=pb) (r:=r) (by rw [←Tu,hros];exact h);rw [←Tu,hros] at hpin;rw [hros] at hR3
  generalize ZF M mh VX ((Fz (p.ro.map A2.r)).map fun x=>pD (pb x) 0)=M2 at hR3⊢
  obtain ⟨pb2,hpb2⟩:∃f:Nat ->Nat,(fun k=>pb ((Fz (p.ro.map A2.r)).getD k 0))=f:=⟨_,Z⟩
  rw [hpb2] at hR3;have hpin2:∀r,r∈ros.map A2.r ->A6 (Ti EM pb (p.ro.map A2.r)) r (.pointer none)=pV (pb2 ((ros.map A2.r).idxOf r)) 0:=fun r h=>by rw [hpin r h,←hpb2]
  obtain ⟨pm,hpm⟩:∃m,Ti EM pb (p.ro.map A2.r)=m:=⟨_,Z⟩
  rw [hpm] at hpin2 hpout⊢;refine AE (J (BO Z Z B8 Z Z Z) (J (BZ (hoi) Z Z) (J (Bz Z Tryz.underlying28 Z) (goMv Z Z (AD (A5 (B6 (α:=Nat×Nat×(Nat ->Nat)×Net×MF) (fun q=>⟨142,[(1,(.ptr 1 0 0)),(5,(.d (pD q.2.1 0))),(6,(.map 3 0)),(66,(.d (.sl none ((its.map AK.id).map AF)))),(67,(.d (AF ((its.map AK.id).length:Int)))),(68,(.d (AF (q.1:Int))))],[(1,[.blk 39 [.d (.sl none (p.ro.map CZ)),.d (.sl none (p.it.map Al))]]),(3,[BM C4 K9 pm]),(40,[.multi q.2.2.2.2]),(50,[BM AF K9 (Fd q.2.2.1 ((its.take q.1).map AK.id))]),(51,[.addr 50 0 (.map (some mv))])]⟩) (fun q=>q.1≤its.length∧CA q.2.1 mv q.2.2.1 pb2 q.2.2.2.1 q.2.2.2.2∧Au q.2.2.2.1=FW ros its q.1) (fun q=>its.length - q.1) ((0,wb,(fun _=>0),⟨[],ros.map Ia,none,mh⟩,M2)) (⟨Γ _,hR3,X0 ros its⟩) (A1 hF [1,3,40,50,51] Z Z ⟨Z,Z,Z,Z,Z,Z,trivial⟩) ?_)))))));rintro ⟨k,wb,nb,N,M⟩ ⟨hk0,hR,hT⟩;dsimp only at hk0 hR hT⊢;refine AC (AE (J (BT Z Z Z) (AD (AC (Ah Z (fun h69=>?_) (fun h69=>?_))))))
  ·have hk1:k<its.length:=by have h:=h69;rw [ψ] at h;exact Bf h
   refine A3 (AC (A5 (AC ?_)))
   obtain ⟨X,hX⟩:∃X,its.getD k AY=X:=⟨_,Z⟩
   have hXk:its[k]=X:=by rw [←hX,CI AY hk1]
   have hidk:X.id∉(its.take k).map AK.id:=by rw [←hXk];exact PI hin hk1
   have hitk:LV its X.id=(X,true):=by have h:=NN hk1 (PI hin hk1) rfl;rw [hXk] at h;exact h
   have hip:=UU p X.id hf.b;rw [hits,hitk] at hip;have hk70:((its.map AK.id).map AF)[k]? =some (AF X.id):=by rw [η,η,ω hk1,hXk];rfl
   refine AE (J (Bb (k) Z Z (Z) (hk70) Tryz.underlying28 Z BD Z) (J (Cm Z Z Aq Z) (AB Z Z (AD (AC (AE (J (BO Z Z B8 Z Z Z) (goMv Z Z ?_))))))));refine J (BZ (hip) Z Z) (goMv Z Z (J (D8 Z Z Z) (J (D8 Z Z Z) (V (CO 7 EY Z Z Z Z) (V (Bi Z Z Z Z Z Z Z C8) (AB Z Z (AD (AC ?_))))))));refine AE (J (BO Z Z Bt Z Z Z) (J (Fe zl184 pl184 Z Z Z) (Zy 79 Z (V (CE 8 Z Z Z Z Z Z Z) (AB Z Z (AD (AC (D6 13 8 40 (ds:=ndC ⟨X,none,[],none,[],true⟩) hF Z Z Z Z Z Z Z Z Z Z Z (fun _=>rfl) fun bn hbn=>?_))))))));have hNk:N.nd.length=k:=nd_len hT;have hR1:=hR.fresh (m:=T6 ⟨X,none,[],none,[],true⟩) hbn;have hnb:((List.range k).map nb).length=k:=by simp
   have hwb1:B1 M bn (T6 ⟨X,none,[],none,[],true⟩) wb=some (XY N.nh ((List.range k).map nb).length N.mh N.po.length mv):=by rw [hnb];have h:_=some (XY N.nh N.nd.length N.mh N.po.length mv):=hR1.w;rw [hNk] at h;exact h
   have hnr:BK (Ea (B1 M bn (T6 ⟨X,none,[],none,[],true⟩)) wb) N.nh Zc 1 (((List.range k).map nb).map BL):=by have h:BK _ N.nh Zc 1 ((List.range N.nd.length).map fun j=>BL (nb j)):=(hR1.rs.del hR1.w).1 .n;rw [hNk] at h;rw [ωv];exact h
   refine a_split 5 20 40 Z Z Z hwb1 Z Z Z Z (Cc [[],[],[1],[1,2],[1,2,3],[],[],[6],[6,7],[6,7,8],[],[10],[6,7,8,9,10,11],[],[0,1,2,3,4,6,7,8,9,10,11,12],[0,1,2,3,4,6,7,8,9,10,11,12,14],[0,1,2,3,4,6,7,8,9,10,11,12,14,15],[0,1,2,3,4,5,6,7,8,9,10,11,12,14,15,16],[0,1,2,3,4,5,6,7,8,9,10,11,12,14,15,16,17],[0,1,2,3,4,5,6,7,8,9,10,11,12,13,14,15,16,17,18]] mixed Z (Cj (AI [5] [] Z Z (fun _=>AG (Ai Z Z)) (AI [5] [] Z Z (fun _=>AG (Ai Z Z)) (AI [82] [] Z Z (fun _=>AG (KN Z Z)) (AI [83] [] Z Z (fun _=>AG (A4 Z ML Z Z Z)) (AI [84] [20,51] Z Z (fun _=>AG (Wq 51 0 Z Z Z Z Va Z)) ?_)))))));refine AI [10] [] Z Z (fun _=>AG (Ai Z Z)) (AI [5] [] Z Z (fun _=>AG (Ai Z Z)) (AI [87] [] Z Z (fun _=>AG (KN Z Z)) (AI [88] [] Z Z (fun _=>AG (A4 Z IY Z Z Z)) (AI [89] [20] Z Z (fun _=>AG (A9 Z Z Z GG Z)) (AI [13] [] Z Z (fun _=>AG (Ai Z Z)) (Fo [91] [9] [(92,_)] Z Z (fun _=>Fq (Dz 9 VS Z Z Z Z Z Z Z Z)) (.inr ⟨92,_,Z,Z,Z,Z,Z⟩) Z Z Z Z Z (Fo [90,92] [60,40,9] [(93,_)] Z Z (fun _=>Fq (G3 90 60 40 hnr Z Z (by simp) Z Z Z Z Z (I8 (emb:=BL) ((List.range k).map nb) [bn] Z Z Z Z Z Z Z Z VS (by simp;omega) Z Z Z Z))) (.inr ⟨93,_,Z,Z,Z,Z,Z⟩) Z Z Z Z Z (AI [13] [] Z Z (fun _=>AG (Ai Z Z)) ?_))))))));refine AI [81] [] Z Z (fun _=>AG (KN Z Z)) (AI [95] [] Z Z (fun _=>AG (A4 Z IY Z Z Z)) (Fo [96,93] [20,60] [] Z Z (fun _=>Fq (Bi Z Z Z Z Z Z Z sz175)) (.inl ⟨Z,Z⟩) Z Z Z Z Z (Fo [85,86] [50] [(97,_)] Z Z (fun _=>Fq (G0 (Fd nb ((its.take k).map AK.id)) (X.id) ((.pointer none)) Z Z Z Vo HP Uw Z Z)) (.inr ⟨97,_,Z,Z,Z,Z,Z⟩) Z Z Z Z Z (AI [97] [] Z Z (fun _=>AG (Cu Z Z Z)) (C1 19 Z Z Z (Ae 20 Z Z (V (G2 (Fd nb ((its.take k).map AK.id)) (X.id) ((.pointer none)) (pV bn 0) Z Z Z HP Z Z) (AD ⟨Z,?_⟩))))))));refine C6 (AC (Uo 93 60 40 20 0 hF Z Z Z (by simp) (by simp) Z Z (fun _ _=>rfl) (fun _ _=>rfl) Z (fun _ _=>rfl) (fun _ _=>rfl) Z Z (fun _ _=>rfl) (fun _ _=>rfl) (fun _ _=>rfl) (fun _ _=>rfl) fun b1 c1 hb1 hc1=>(D6 5 20 40 (ds:=[hdr (some (b1,c1)) ((List.range k).map nb++ [bn]).length,hdr N.mh N.po.length,K9 (.map (some mv))]) hF Z Z Z Z Z Z Z Z Z Z Z (fun _=>rfl) fun wb2 hwb2=>?_)));have hby:Av (Fd nb ((its.take k).map AK.id)) X.id (pV bn 0)=Fd (MN nb k bn) ((its.take (k+1)).map AK.id):=by have h:=VG (d:=(0:Int)) (f:=nb) (b:=bn) hidk;rw [show ((its.take k).map AK.id).length=k by rw [ψ,Ω];omega,←hXk,←DT hk1] at h;rw [←hXk];exact h
   rw [hby];have e1:((List.range N.nd.length).map (fun j=>BL (nb j))++ [BL bn])=((List.range k).map nb++ [bn]).map BL:=by rw [hNk,ωc,ωv];rfl
   have e2:((List.range k).map nb++ [bn]).length=N.nd.length+1:=by simp;omega
   have hR2:=hR1.addN2 (x:=⟨X,none,[],none,[],true⟩) (bn:=bn) Z Z Z Z (Fm _ _ _) (fun j hj e=>by have h1:=hR.n j _ (ω hj);rw [e,hbn] at h1;cases h1) hb1 (cap:=c1) (by have h:=hc1;simp at h;omega) (wb':=wb2) (by rw [e1];exact hwb2);rw [e1,←e2,hNk] at hR2;have hT0:=T_zeroX (x:=X) (nh:=some (b1,c1)) hX hT;have hfk:cm X:=hitx X (by rw [←hXk];exact θ hk1);have hdl:=MO hfk;refine AE (J (BO Z Z Bt Z Z Z) (J (BZ (Sl X (by have h:=hfk.1;omega) (by have h:=hfk.2.1;omega) (by have h:=hfk.2.2;omega)) Z Z) (goMv Z Z (J (D8 Z Z Z) (J (D8 Z Z Z) (AB Z Z (AB Z Z ?_)))))));refine AD (AC (AE (goMv Z Z (J (Bz Z Tryz.underlying215 Z) (goMv Z Z (AD (A5 (B6 (α:=Nat×Net×MF) (fun r=>⟨142,[(1,(.ptr 1 0 0)),(5,(.d (pD wb2 0))),(6,(.map 3 0)),(66,(.d (.sl none ((its.map AK.id).map AF)))),(67,(.d (AF ((its.map AK.id).length:Int)))),(68,(.d (AF (k:Int)))),(13,(.d (pD bn 0))),(104,(.d (.sl none ((AR X).map OV)))),(105,(.d (AF ((AR X).length:Int)))),(106,(.d (AF (r.1:Int))))],[(1,[.blk 39 [.d (.sl none (p.ro.map CZ)),.d (.sl none (p.it.map Al))]]),(3,[BM C4 K9 pm]),(40,[.multi r.2.2]),(50,[BM AF K9 (Fd (MN nb k bn) ((its.take (k+1)).map AK.id))]),(51,[.addr 50 0 (.map (some mv))])]⟩) (fun r=>r.1≤(AR X).length∧CA wb2 mv (MN nb k bn) pb2 r.2.1 r.2.2∧Au r.2.1=ES ros its k r.1) (fun r=>(AR X).length - r.1) ((0,_,_)) (⟨Γ _,hR2,hT0⟩) (A1 hF [1,3,40,50,51] Z Z ⟨Z,Z,Z,Z,Z,Z,Z,Z,Z,Z,trivial⟩) ?_))))))));rintro ⟨t,N3,M3⟩ ⟨ht0,hR4,hT3⟩;dsimp only at ht0 hR4 hT3⊢;refine AC (AE (J (BT Z Z Z) (AD (AC (Ah Z (fun h107=>?_) (fun h107=>?_))))))
   ·have ht1:t<(AR X).length:=Bf h107;refine A3 (AC (A5 (AC (AE (J (Bb (t) Z Z (Z) (Ag ht1) Tryz.underlying215 Z VJ Z) ?_)))));refine J (GW Z Z rw218 Z) (V (CO 10 Y0 Z Z Z Z) (V (Bi Z Z Z Z Z Z Z VJ) (AD (AC (AE (goMv Z Z (J (A4 Z Jo Z Z Z) (J (BO Z Z CY Z Z Z) ?_))))))))
    by_cases hm:((AR X)[t]).1∈ros.map A2.r
    ·refine J (HQ pm ((AR X)[t]).1 (.pointer none) (pV (pb2 ((ros.map A2.r).idxOf ((AR X)[t]).1)) 0) Z Z Z Vn CJ Y3 (hpin2 _ hm) Z) (AB Z Z (AD (AC (AE (goMv Z Z (J (RJ Tryz.underlying186 Z Z) (AD (D9 Z (Z) ?_))))))));have hnl3:N3.nd.length=k+1:=T_nd hT3;have hpl3:N3.po.length=ros.length:=T_po hT3
     obtain ⟨x,hx⟩:∃x,N3.nd[k]? =some x:=⟨_,ω (by omega)⟩
     have hjl:(ros.map A2.r).idxOf ((AR X)[t]).1<N3.po.length:=by rw [hpl3];have h:=ψq hm;rw [ψ] at h;exact h
     obtain ⟨y,hy⟩:∃y,N3.po[(ros.map A2.r).idxOf ((AR X)[t]).1]? =some y:=⟨_,ω hjl⟩
     have hbd:=ca hitl hitx hk1 hT3 hx hy;have hda:=KC X _ (θ ht1);have hj:=join_c hR4 hx hy ((AR X)[t]).2 ⟨by omega,by omega⟩ hbd.1 hbd.2.1 hbd.2.2.1 hbd.2.2.2;rw [Fl] at hj;refine AE (goMv Z Z (goMv Z Z (J (A4 Z WI Z Z Z) (J (A9 Z Z Z Kg Z) ?_))));refine Ch (W2 hj Z [40] ⟨Z,trivial⟩ Z Z Z Z (fun r H' ⟨e1,N',M',e2,_⟩=>by subst e1 e2;exact ⟨Z,Z,Z⟩) Z) Z ?_;rintro _ ⟨r,H',⟨rfl,N4,M4,rfl,hR5,hnh4,hmh4,⟨x',hx4,ex4⟩,y',hy4,ey4⟩,rfl⟩;refine AD (AE (J (Ay Z Z (Υ _ (by omega)) Z) (goMv Z Z (AD ?_))));exact ⟨(t+1,N4,M4),⟨by show t+1≤_;omega,hR5,T_stepX hX hroN hk1 ht1 hT3 Z hm hx hy hx4 ex4 hy4 ey4⟩,by show (AR X).length - (t+1)<(AR X).length - t;omega,A1 hF [1,3,40,50,51] Z (Z) ⟨Z,Z,Z,Z,Z,Z,Z,Z,Z,Z,trivial⟩⟩
    ·refine J (HQ pm ((AR X)[t]).1 (.pointer none) (.pointer none) Z Z Z Vn CJ Y3 (hpout _ hm) Z) (AB Z Z (AD (AC (AE ?_))));refine goMv Z Z (J (RJ Tryz.underlying186 Z Z) (AD (Db Z (Z) (A3 (AE (J (Ay Z Z (Υ _ (by omega)) Z) (goMv Z Z (AD ?_))))))));exact ⟨(t+1,N3,M3),⟨by show t+1≤_;omega,hR4,by show Au N3=ES ros its k (t+1);rw [T_skipX hX ht1 hm];exact hT3⟩,by show (AR X).length - (t+1)<(AR X).length - t;omega,A1 hF [1,3,40,50,51] Z (Z) ⟨Z,Z,Z,Z,Z,Z,Z,Z,Z,Z,trivial⟩⟩
   ·refine BF ?_;have hte:t=(AR X).length:=by have h:=h107;omega
    have hT5:Au N3=FW ros its (k+1):=by rw [←T_lastX hX hk1,←hte];exact hT3
    refine AE (J (Ay Z Z (Υ _ (by omega)) Z) (goMv Z Z (AD ?_)));exact ⟨(k+1,wb2,MN nb k bn,N3,M3),⟨by show k+1≤_;omega,hR4,hT5⟩,by show its.length - (k+1)<its.length - k;omega,A1 hF [1,3,40,50,51] Z (Z) ⟨Z,Z,Z,Z,Z,Z,trivial⟩⟩
  ·refine BF (AC (AC ?_));have hke:k=its.length:=by have h:=h69;rw [ψ] at h;omega
   subst hke;rw [ωt];have hwbf:=hR.w;have hpzf:N.mh=none ->N.po.length=0:=fun h=>by have h1:BK M N.mh VX 1 ((List.range N.po.length).map fun j=>BL (pb2 j)):=hR.rs.1 .m;have h2:=TW h1 h;rw [ωf] at h2;exact h2
   have hids:=ids_of hT;have hNl:N.po.length=ros.length:=po_len hT;refine AE ?_;refine goMv Z Z (J (DQ Z Z) (J (CS Z Jt Z Z Z) (J (EX (f:=40) Z Z (hwbf) Z Vb Z) (J (Ut hpzf Z Tryz.underlying177 Z) (goMv Z Z (AD (A5 (B6 (α:=Nat×Net×MF) (fun r=>⟨142,[(5,(.d (pD wb 0))),(126,(.d (hdr N.mh N.po.length))),(127,(.d (AF (N.po.length:Int)))),(128,(.d (AF (r.1:Int))))],[(40,[.multi r.2.2]),(50,[BM AF K9 (Fd nb (its.map AK.id))]),(51,[.addr 50 0 (.map (some mv))])]⟩) (fun r=>r.1≤N.po.length∧CA wb mv nb pb2 r.2.1 r.2.2∧r.2.1.nd=N.nd∧r.2.1.mh=N.mh∧r.2.1.po=(N.po.take r.1).map Kv++N.po.drop r.1) (fun r=>N.po.length - r.1) ((0,N,M)) (⟨Γ _,hR,Z,Z,Z⟩) (A1 hF [40,50,51] Z Z ⟨Z,Z,Z,Z,trivial⟩) ?_))))))));rintro ⟨j,N5,M5⟩ ⟨hj0,hR5,hnd5,hmh5,hpo5⟩;dsimp only at hj0 hR5 hnd5 hmh5 hpo5⊢;refine AC (AE (J (BT Z Z Z) (AD (AC (Ah Z (fun h129=>?_) (fun h129=>?_))))))
   ·have hj1:j<N.po.length:=Bf h129;refine A3 (AC (A5 (AC ?_)));have hl5:N5.po.length=N.po.length:=by rw [hpo5];simp;omega
    have hpr5:BK M5 N.mh VX 1 ((List.range N.po.length).map fun j=>BL (pb2 j)):=by have h:BK M5 N5.mh VX 1 ((List.range N5.po.length).map fun j=>BL (pb2 j)):=hR5.rs.1 .m;rw [hl5,hmh5] at h;exact h
    obtain ⟨rb,rc,hre⟩:=T8 hpr5 (j:=j) (by rw [ωf];exact hj1);have hrow:=Qk hpr5 hre
    obtain ⟨y,hy⟩:∃y,N5.po[j]? =some y:=⟨_,ω (by omega)⟩
    obtain ⟨hyb,hyq⟩:=hR5.pp j y hy;have hqz:=TW hyq;refine AE (J (Up hre (j) Z Z Z hj1 Tryz.underlying177 Ym Z) (J (Zcp (f:=40) (e:=j) (off:=0) Z (by omega) Z (hrow) ((by rw [η,ψv hj1];rfl)) Z E8 Z) ?_));refine AB Z Z (AD (AE (goMv Z Z ?_)));refine goMv Z Z (J (DQ Z Z) (J (CS Z Gr Z Z Z) (J (EX (f:=40) Z Z (hyb) Z GG Z) (J (Ut hqz Z Tryz.underlying175 Z) (J (DQ Z Z) (J (CS Z Jp Z Z Z) (V (O2 (f:=40) Z Z Z Z (hyb) ((by show _<10;omega)) Z BD) (AD ?_))))))));have hR6:=hR5.setPo (y':=Kv y) hy Z Z;refine AE (J (Ay Z Z (Υ _ (by omega)) Z) (goMv Z Z (AD ?_)));exact ⟨(j+1,{N5 with po:=N5.po.set j (Kv y)},_),⟨by show j+1≤_;omega,hR6,hnd5,hmh5,bL hj1 hpo5 hy⟩,by show N.po.length - (j+1)<N.po.length - j;omega,A1 hF [40,50,51] Z (Z) ⟨Z,Z,Z,Z,trivial⟩⟩
   ·refine BF (AC ?_);have hje:j=N.po.length:=by have h:=h129;omega
    subst hje;rw [ωt,List.drop_length,ωk] at hpo5;have hids5:BS N5=its.map AK.id:=by unfold BS at hids⊢;rw [hnd5];exact hids
    refine AE (goMv Z Z (AB Z Z (AB Z Z (AD (A8 ?_)))));exact ⟨_,[40,50,51],_,A7 Z,Z,Z,wb,mv,nb,pb2,N5,M5,some (List.range (Fd nb (its.map AK.id)).length,(Fd nb (its.map AK.id)).length),Z,by rw [hids5];rfl,hR5,by rw [net_fin hits hros];exact aH hT hnd5 hpo5⟩
end Go.Proofs.YteifpcnphnhaoaaGreat
namespace Go.Proofs.YteifpcnphnhaoaaGreat
open Go.RowKit
def GZ (ds:List (List (AP×Int))) (on:Nat ->Bool) (r:AP):Int:=((List.range ds.length).map fun i=>if on i=true then C7 (ds.getD i []) r else 0).sum
def miS (on:Nat ->Bool) (q:List Nat):Nat:=q.findIdx fun i=>!on i
def poS (ds:List (List (AP×Int))) (on:Nat ->Bool) (x:A2):Po:=⟨x.r,x.n,GZ ds on x.r,none,negQ ds x.r,miS on (negQ ds x.r)⟩
def Qi (rs:List AP) (its:List AK) (on:Nat ->Bool) (i:Nat):Nd:={aL rs ((its.map AR).take i) (its.getD i AY) (AR (its.getD i AY)) with on:=on i}
def netS (ros:List A2) (its:List AK) (on:Nat ->Bool):Net:=⟨(List.range its.length).map (Qi (ros.map A2.r) its on),ros.map (poS (its.map AR) on),none,none⟩
def Ac (on:Nat ->Bool) (i:Nat):Nat ->Bool:=fun j=>if j=i then false else on j
theorem Vs (q:List Nat):miS (fun _=>true) q=q.length:=by
 unfold miS;exact List.findIdx_eq_length.2 fun x _=>rfl
theorem Yq (ds:List (List (AP×Int))) (r:AP):GZ ds (fun _=>true) r=(ds.map fun D=>C7 D r).sum:=by
 unfold GZ
 congr 1
 apply χc (by simp)
 intro i h1 h2;simp only [ωd,ψu,if_true];rw [CI [] (by simpa using h2)]
theorem aI (p:Prb):aJ p=netS (Cp p) (ordP p) fun _=>true:=by
 unfold aJ netS FW H9;dsimp only;rw [ωv]
 congr 1
 refine ωj fun x _=>?_;have ht:((ordP p).map AR).take (ordP p).length=(ordP p).map AR:=Ξ (by simp);show Kv (UD _ x)=_;unfold Kv UD poS;rw [ht,Yq,Vs]
theorem QZ {ros:List A2} {f g:A2 ->Po} {j:Nat} (hj:j<ros.length) {y:Po} (hn:(ros.map A2.r).Nodup) (h1:y=g ros[j]) (h2:∀x∈ros,x.r≠ros[j].r ->f x=g x):(ros.map f).set j y=ros.map g:=by
 refine χr fun i=>?_;rw [χq]
 by_cases e:j=i
 ·subst e;rw [κ Z,κ (by simpa using hj),η,ω hj,h1];rfl
 ·rw [ϑ e,η,η]
  cases hi:ros[i]? with
  | none=>rfl
  | some z=>
   have hil:=χ.1 hi;show some _=some _
   rw [h2 z (ζ hi) fun e2=>e (by
    have h3:(ros.map A2.r)[j]'(by simpa using hj)=(ros.map A2.r)[i]'(by simpa using hil.1):=by
     rw [ωd,ωd,hil.2,e2]
    exact (List.getElem_inj hn).1 h3)]
theorem MJ {ros:List A2} {r:AP} (hm:r∈ros.map A2.r):∃hj:(ros.map A2.r).idxOf r<ros.length,ros[(ros.map A2.r).idxOf r].r=r:=by
 have h:=ψq hm;have h1:=φg h;rw [ωd] at h1;exact ⟨by simpa using h,h1⟩
theorem Ys {ros:List A2} (hn:(ros.map A2.r).Nodup) (f:A2 ->Po):∀(D:List (AP×Int)),(D.map Prod.fst).Nodup ->(U7 (ros.map A2.r) D).foldl Ld (ros.map f)=ros.map fun x=>{f x with sum:=(f x).sum - C7 D x.r}:=by
 intro D
 induction D using YR with
 | h0=>
  intro _;show ros.map f=_;refine ωj fun x _=>?_;show f x={f x with sum:=(f x).sum - 0}
  rw [Int.sub_zero]
 | h1 D d ih=>
  intro hD;rw [ωc,χp] at hD;have hdn:d.1∉D.map Prod.fst:=fun h=>hD.2.2 _ h _ (List.mem_singleton_self _) rfl;have ih:=ih hD.1
  by_cases hm:d.1∈ros.map A2.r
  ·rw [U6 hm,List.foldl_append,ih];obtain ⟨hj,hr⟩:=MJ hm;show Ld _ ((ros.map A2.r).idxOf d.1,d.2)=_;rw [VO (y:=(fun x=>{f x with sum:=(f x).sum - C7 D x.r}) ros[(ros.map A2.r).idxOf d.1]) (by rw [η,ω hj];rfl)];refine QZ hj hn ?_ fun x hx hne=>?_
   ·dsimp only;have h1:C7 (D++ [d]) ros[(ros.map A2.r).idxOf d.1].r=d.2:=by rw [hr];exact D1 hdn
    have h2:C7 D ros[(ros.map A2.r).idxOf d.1].r=0:=by rw [hr];exact GJ hdn
    rw [h1,h2,Int.sub_zero]
   ·rw [hr] at hne;have:C7 (D++ [d]) x.r=C7 D x.r:=DI hne;rw [this]
  ·rw [Q1 hm,ih];refine ωj fun x hx=>?_;have:C7 (D++ [d]) x.r=C7 D x.r:=DI fun e=>hm (e▸ϖ.2 ⟨x,hx,Z⟩);rw [this]
theorem aT {ros:List A2} (hn:(ros.map A2.r).Nodup) (f:A2 ->Po) (ds:List (List (AP×Int))):∀(D:List (AP×Int)),(D.map Prod.fst).Nodup ->(XN (ros.map A2.r) ds D).foldl OR (ros.map f)=ros.map fun x=>{f x with mi:=if C7 D x.r<0 then min (f x).mi (negQ ds x.r).length else (f x).mi}:=by
 intro D
 induction D using YR with
 | h0=>
  intro _;show ros.map f=_;refine ωj fun x _=>?_;have h0:C7 [] x.r=0:=rfl;rw [h0,ϑ (by omega)]
 | h1 D d ih=>
  intro hD;rw [ωc,χp] at hD;have hdn:d.1∉D.map Prod.fst:=fun h=>hD.2.2 _ h _ (List.mem_singleton_self _) rfl;have ih:=ih hD.1
  by_cases hm:d.1∈ros.map A2.r∧d.2<0
  ·rw [Zf hm.1 hm.2,List.foldl_append,ih];obtain ⟨hj,hr⟩:=MJ hm.1;show OR _ ((ros.map A2.r).idxOf d.1,(negQ ds d.1).length)=_;rw [Vr (y:=(fun x=>{f x with mi:=if C7 D x.r<0 then min (f x).mi (negQ ds x.r).length else (f x).mi}) ros[(ros.map A2.r).idxOf d.1]) (by rw [η,ω hj];rfl)];refine QZ hj hn ?_ fun x hx hne=>?_
   ·dsimp only;have h1:C7 (D++ [d]) ros[(ros.map A2.r).idxOf d.1].r=d.2:=by rw [hr];exact D1 hdn
    have h2:C7 D ros[(ros.map A2.r).idxOf d.1].r=0:=by rw [hr];exact GJ hdn
    rw [h1,h2,ϑ (by omega),κ hm.2,hr]
   ·rw [hr] at hne;have:C7 (D++ [d]) x.r=C7 D x.r:=DI hne;rw [this]
  ·rw [QA hm,ih];refine ωj fun x hx=>?_
   by_cases e:x.r=d.1
   ·have hin:d.1∈ros.map A2.r:=e▸ϖ.2 ⟨x,hx,Z⟩;have h1:C7 (D++ [d]) x.r=d.2:=by rw [e];exact D1 hdn
    have h2:C7 D x.r=0:=by rw [e];exact GJ hdn
    rw [h1,h2,ϑ (by omega),ϑ (fun h=>hm ⟨hin,h⟩)]
   ·have:C7 (D++ [d]) x.r=C7 D x.r:=DI e;rw [this]
theorem Zcr {on:Nat ->Bool} {i j:Nat} (h:j≠i):Ac on i j=on j:=ϑ h
theorem GA {on:Nat ->Bool} {i:Nat}:Ac on i i=false:=κ rfl
theorem Jk {α:Type} (p:α ->Bool) (l m:List α):(l++m).findIdx p=if l.findIdx p<l.length then l.findIdx p else m.findIdx p+l.length:=List.findIdx_append
theorem JF {α:Type} {p q:α ->Bool}:∀{l:List α},(∀x∈l,p x=q x) ->l.findIdx p=l.findIdx q
 | [],_=>rfl
 | a::l,h=>by
  rw [List.findIdx_cons,List.findIdx_cons,h a (ωo ..),JF fun x hx=>h x (ωn _ hx)]
theorem IN {n i:Nat} (h:i<n):∃B:List Nat,List.range n=List.range i++i::B∧∀j∈B,i<j:=by
 refine ⟨List.range' (i+1) (n - i - 1),?_,fun j hj=>?_⟩
 ·rw [List.range_eq_range',List.range_eq_range'];have h1:n=i+(1+(n - i - 1)):=by omega
  conv=>lhs;rw [h1]
  rw [←List.range'_append_1,ψs,Nat.add_comm 1 (n - i - 1),List.range'_succ]
 ·rw [List.mem_range'_1] at hj;omega
theorem Rw {ds:List (List (AP×Int))} {i:Nat} (h:i<ds.length) (r:AP):∃B:List Nat,negQ ds r=negQ (ds.take i) r++((if C7 (ds.getD i []) r<0 then [i] else [])++B)∧(∀j∈negQ (ds.take i) r,j<i)∧∀j∈B,i<j:=by
 obtain ⟨B,h1,h2⟩:=IN h;refine ⟨B.filter fun i=>decide (C7 (ds.getD i []) r<0),?_,fun j hj=>?_,fun j hj=>h2 j (ωa.1 hj).1⟩
 ·unfold negQ;rw [h1,ωz,φj,show (ds.take i).length=i by rw [Ω];omega]
  congr 1
  ·refine χx fun j hj=>?_;have hj':=ς.1 hj;rw [ϱ,ϱ,ψf hj']
  ·by_cases h0:C7 (ds.getD i []) r<0
   ·rw [κ (ωi h0),κ h0];rfl
   ·rw [ϑ (by simpa using h0),ϑ h0];rfl
 ·unfold negQ at hj;have:=ς.1 (ωa.1 hj).1;rw [Ω] at this;omega
theorem miS_off {ds:List (List (AP×Int))} {i:Nat} (h:i<ds.length) (on:Nat ->Bool) (r:AP):miS (Ac on i) (negQ ds r)=if C7 (ds.getD i []) r<0 then min (miS on (negQ ds r)) (negQ (ds.take i) r).length else miS on (negQ ds r):=by
 obtain ⟨B,h1,h2,h3⟩:=Rw h r;rw [h1]
 generalize negQ (ds.take i) r=A at h2⊢
 have hA:A.findIdx (fun j=>!Ac on i j)=A.findIdx fun j=>!on j:=JF fun j hj=>by
  rw [Zcr (by have:=h2 j hj;omega)]
 have hB:B.findIdx (fun j=>!Ac on i j)=B.findIdx fun j=>!on j:=JF fun j hj=>by
  rw [Zcr (by have:=h3 j hj;omega)]
 unfold miS
 by_cases h0:C7 (ds.getD i []) r<0
 ·rw [κ h0,κ h0,Jk (fun j=>!Ac on i j) A,Jk (fun j=>!on j) A,hA]
  split
  ·omega
  ·have:(([i]:List Nat)++B).findIdx (fun j=>!Ac on i j)=0:=by
    rw [List.singleton_append,List.findIdx_cons];rw [GA];rfl
   rw [this];omega
 ·rw [ϑ h0,ϑ h0,List.nil_append,Jk (fun j=>!Ac on i j) A,Jk (fun j=>!on j) A,hA,hB]
theorem Yp {ds:List (List (AP×Int))} {i:Nat} (h:i<ds.length) {on:Nat ->Bool} (ho:on i=true) (r:AP):GZ ds (Ac on i) r=GZ ds on r - C7 (ds.getD i []) r:=by
 obtain ⟨B,h1,h3⟩:=IN h;unfold GZ;rw [h1,ωc,ωc,ωm,ωm,ψr,ψr,φe,φe]
 have e1:(List.range i).map (fun j=>if Ac on i j=true then C7 (ds.getD j []) r else 0)=(List.range i).map fun j=>if on j=true then C7 (ds.getD j []) r else 0:=ωj fun j hj=>by
  rw [Zcr (by have:=ς.1 hj;omega)]
 have e2:B.map (fun j=>if Ac on i j=true then C7 (ds.getD j []) r else 0)=B.map fun j=>if on j=true then C7 (ds.getD j []) r else 0:=ωj fun j hj=>by
  rw [Zcr (by have:=h3 j hj;omega)]
 have e3:(if Ac on i i=true then C7 (ds.getD i []) r else 0)=0:=by rw [GA];rfl
 rw [e1,e2,e3,κ ho];omega
theorem VN:∀(l:List (Nat×Int)) (po:List Po),(l.foldl Ld po).map CQ=l.foldl Ld (po.map CQ)
 | [],_=>rfl
 | e::l,po=>by
  rw [List.foldl_cons,List.foldl_cons,VN l]
  congr 1
  unfold Ld;rw [η]
  cases po[e.1]? with
  | none=>rfl
  | some y=>show (po.set e.1 _).map CQ=_;rw [List.map_set];rfl
theorem Vq:∀(l:List (Nat×Nat)) (po:List Po),(l.foldl OR po).map CQ=l.foldl OR (po.map CQ)
 | [],_=>rfl
 | e::l,po=>by
  rw [List.foldl_cons,List.foldl_cons,Vq l]
  congr 1
  unfold OR;rw [η]
  cases po[e.1]? with
  | none=>rfl
  | some y=>show (po.set e.1 _).map CQ=_;rw [List.map_set];rfl
theorem rm_S {ros:List A2} {its:List AK} (hn:(ros.map A2.r).Nodup) {on:Nat ->Bool} {N:Net} (h:Au N=netS ros its on) {i:Nat} (hi:i<its.length) (ho:on i=true) {x:Nd} (hx:N.nd[i]? =some x):Au (rmN N i x)=netS ros its (Ac on i):=by
 have hnd:N.nd.map EG=(List.range its.length).map (Qi (ros.map A2.r) its on):=Δ Net.nd h;have hpo:N.po.map CQ=ros.map (poS (its.map AR) on):=Δ Net.po h
 have hxe:EG x=Qi (ros.map A2.r) its on i:=by
  have h1:(N.nd.map EG)[i]? =some (EG x):=by rw [η,hx];rfl
  rw [hnd,η,ψv hi] at h1;exact (Option.some.inj h1).symm
 have hef:x.ef=U7 (ros.map A2.r) (AR (its.getD i AY)):=Δ Nd.ef hxe;have hpl:x.pl=XN (ros.map A2.r) ((its.map AR).take i) (AR (its.getD i AY)):=Δ Nd.pl hxe;have hdi:i<(its.map AR).length:=by simpa using hi
 have hgi:(its.map AR).getD i []=AR (its.getD i AY):=by rw [CI [] hdi,CI AY hi,ωd]
 unfold Au rmN netS;dsimp only
 congr 1
 ·rw [List.map_set,hnd]
  have:EG (ER x)=Qi (ros.map A2.r) its (Ac on i) i:=by
   have h1:EG (ER x)=ER (EG x):=rfl;rw [h1,hxe];unfold Qi ER Ac;rw [κ rfl]
  rw [this];refine χr fun j=>?_;rw [χq]
  by_cases e:i=j
  ·subst e;rw [κ Z,κ (by simpa using hi),η,ψv hi];rfl
  ·rw [ϑ e,η,η]
   cases hj:(List.range its.length)[j]? with
   | none=>rfl
   | some z=>
    have hz:=χ.1 hj;have:z=j:=by have:=hz.2;simp at this;exact this.symm
    subst this;show some _=some _;unfold Qi Ac;rw [ϑ (fun h=>e h.symm)]
 ·rw [Vq,VN,hpo,hef,hpl,Ys hn _ _ (DC _),aT hn _ _ _ (DC _)];refine ωj fun z _=>?_;unfold poS;dsimp only;rw [Yp hdi ho,miS_off hdi,hgi]
theorem FM (N:Net) (i:Nat):(Au N).nd.getD i Bl=EG (N.nd.getD i Bl):=by
 show (N.nd.map EG).getD i Bl=_;rw [ϱ,ϱ,η]
 cases N.nd[i]?<;>rfl
theorem Hr (N:Net) (j:Nat):(Au N).po.getD j CV=CQ (N.po.getD j CV):=by
 show (N.po.map CQ).getD j CV=_;rw [ϱ,ϱ,η]
 cases N.po[j]?<;>rfl
theorem Gt (N:Net):BS (Au N)=BS N:=by
 unfold BS Au;rw [ωv];rfl
theorem Xi (N:Net) (x:Nd):HB (Au N) (EG x)=HB N x:=by
 have h1:badP (Au N)=badP N:=funext fun e=>by unfold badP;rw [Hr];rfl
 have h2:∀e,U4 (Au N) (EG x) e=U4 N x e:=fun e=>by unfold U4;rw [Hr,FM];rfl
 have h3:Cq (Au N)=Cq N:=funext fun e=>by unfold Cq;rw [FM,Gt];rfl
 unfold HB;rw [h1,h3];show (match x.pl.find? (badP N) with | some e=>_ | none=>match x.it.af.find? (Cq N) with | some id=>_ | none=>_)=_
 cases x.pl.find? (badP N) with
 | some e=>show some (U4 (Au N) (EG x) e)=some (U4 N x e);rw [h2]
 | none=>rfl
theorem Rv (N:Net):FK (Au N)=FK N:=by
 have h1:(Au N).nd.findSome? (T5 (Au N))=N.nd.findSome? (T5 N):=by
  show (N.nd.map EG).findSome? _=_;rw [List.findSome?_map]
  congr 1
  funext x
  show T5 (Au N) (EG x)=T5 N x;unfold T5;rw [Xi];rfl
 have h2:(Au N).po.findSome? (XM (Au N))=N.po.findSome? (XM N):=by
  show (N.po.map CQ).findSome? _=_;rw [List.findSome?_map]
  congr 1
  funext y
  show XM (Au N) (CQ y)=XM N y;have h3:onN (Au N)=onN N:=funext fun i=>by unfold onN;rw [FM];rfl
  have h4:∀i,((Au N).nd.getD i Bl).it.id=(N.nd.getD i Bl).it.id:=fun i=>by rw [FM];rfl
  unfold XM;rw [h3];show (if QC y y.sum=true then (y.q.reverse.find? (onN N)).map fun i=>(⟨((Au N).nd.getD i Bl).it.id,0,y.r,-1⟩:OC) else none)=_;rw [show (fun i=>(⟨((Au N).nd.getD i Bl).it.id,0,y.r,-1⟩:OC))=fun i=>⟨(N.nd.getD i Bl).it.id,0,y.r,-1⟩ from funext fun i=>by rw [h4]]
 unfold FK;rw [h1,h2]
theorem bB {N:Net} {x:Nd} {e:OC} (h:HB N x=some e):e.id=x.it.id:=by
 unfold HB at h
 split at h
 ·injection h with h;subst h;rfl
 ·split at h
  ·injection h with h;subst h;rfl
  ·cases h
theorem Vm {N:Net} {e:OC} (h:FK N=some e):∃(i:Nat) (x:Nd),N.nd[i]? =some x∧x.on=true∧e.id=x.it.id:=by
 unfold FK at h
 split at h
 ·rename_i e' h1
  injection h with h;subst h
  obtain ⟨x,hx,h2⟩:=List.exists_of_findSome?_eq_some h1;obtain ⟨i,hi,e1⟩:=ωu hx;unfold T5 at h2
  split at h2
  ·rename_i ho
   exact ⟨i,x,by rw [ω hi,e1],ho,bB h2⟩
  ·cases h2
 ·obtain ⟨y,hy,h2⟩:=List.exists_of_findSome?_eq_some h;unfold XM at h2
  split at h2
  ·cases hf:y.q.reverse.find? (onN N) with
   | none=>rw [hf] at h2;cases h2
   | some i=>
    rw [hf] at h2;injection h2 with h2;subst h2
    have ho:=List.find?_some hf;unfold onN at ho
    by_cases hi:i<N.nd.length
    ·rw [CI Bl hi] at ho;exact ⟨i,N.nd[i],ω hi,ho,by show (N.nd.getD i Bl).it.id=_;rw [CI Bl hi]⟩
    ·rw [ϱ,ωx (by omega)] at ho
     cases ho
  ·cases h2
structure SmO (ros:List A2) (its:List AK):Prop where
 l:its.length≤30
 x:∀x∈its,cm x
 i:(its.map AK.id).Nodup
 a:∀x∈its,∀id∈x.af,id∈its.map AK.id
 r:(ros.map A2.r).Nodup
 n:∀x∈ros,-4000000000000000≤x.n∧x.n≤4000000000000000
 o:ros.length≤100
theorem S_nd {ros:List A2} {its:List AK} {on:Nat ->Bool} {x:Nd} (h:x∈(netS ros its on).nd):∃i,i<its.length∧x=Qi (ros.map A2.r) its on i:=by
 obtain ⟨i,hi,e⟩:=ϖ.1 h;exact ⟨i,ς.1 hi,e.symm⟩
theorem TX (ros:List A2) (its:List AK) (on:Nat ->Bool):BS (netS ros its on)=its.map AK.id:=by
 unfold BS netS;rw [ωv]
 apply χc (by simp)
 intro i a b;simp only [ωd,ψu,Function.comp];show (its.getD i AY).id=_;rw [CI AY (by simpa using b)]
theorem efK_mem {rs:List AP} {D:List (AP×Int)} {e:Nat×Int} (h:e∈U7 rs D):∃d∈D,e.2=d.2:=by
 obtain ⟨d,hd,rfl⟩:=ϖ.1 h;exact ⟨d,(ωa.1 hd).1,Z⟩
theorem plK_mem {rs:List AP} {ds:List (List (AP×Int))} {D:List (AP×Int)} {e:Nat×Nat} (h:e∈XN rs ds D):∃d∈D,d.1∈rs∧d.2<0∧e=(rs.idxOf d.1,(negQ ds d.1).length):=by
 obtain ⟨d,hd,rfl⟩:=ϖ.1 h;have h1:=ωa.1 hd;have h2:=h1.2;simp only [ωb,ψe] at h2;exact ⟨d,h1.1,h2.1,h2.2,Z⟩
theorem S_sum {ros:List A2} {its:List AK} (h:SmO ros its) (on:Nat ->Bool) (r:AP): -30000000000000000≤GZ (its.map AR) on r∧GZ (its.map AR) on r≤30000000000000000:=by
 have key:∀l:List Nat,-(l.length*1000000000000000)≤(l.map fun i=>if on i=true then C7 ((its.map AR).getD i []) r else 0).sum∧(l.map fun i=>if on i=true then C7 ((its.map AR).getD i []) r else 0).sum≤l.length*1000000000000000:=by
  intro l
  induction l with
  | nil=>simp
  | cons i l ih=>
   simp only [ωm,φe,ψo]
   have hb:Qm ((its.map AR).getD i []):=by
    rcases getD_mem (l:=its.map AR) (d:=[]) i with hm | hm
    ·obtain ⟨x,_,e⟩:=ϖ.1 hm;rw [←e];exact KC x
    ·rw [hm];intro x hx;cases hx
   have h1:=WV hb r
   split<;>omega
 have h1:=key (List.range (its.map AR).length);have h2:=h.l;unfold GZ;rw [ωf,ψ] at h1;rw [ψ] at*;omega
theorem S_w {ros:List A2} {its:List AK} (h:SmO ros its) (on:Nat ->Bool):NetW (netS ros its on):=by
 have hl:=h.l
 have hmi:∀y∈(netS ros its on).po,y.q.length≤30∧y.mi≤30∧∃x∈ros,y=poS (its.map AR) on x:=fun y hy=>by
  obtain ⟨x,hx,e⟩:=ϖ.1 hy;subst e;have h1:=J8 (its.map AR) x.r;rw [ψ] at h1;have h2:miS on (negQ (its.map AR) x.r)≤(negQ (its.map AR) x.r).length:=List.findIdx_le_length;exact ⟨by show (negQ _ _).length≤_;omega,by show miS _ _≤_;omega,x,hx,Z⟩
 refine ⟨by rw [TX];exact h.i,fun x hx id hid=>?_,fun x hx=>?_,fun x hx e he=>?_,fun x hx e he=>?_,fun y hy=>?_,fun y hy=>?_,?_,fun y hy=>?_⟩
 ·obtain ⟨i,hi,rfl⟩:=S_nd hx;rw [TX];refine h.a (its.getD i AY) (by rw [CI AY hi];exact θ hi) id hid
 ·obtain ⟨i,hi,rfl⟩:=S_nd hx;have hm:its.getD i AY∈its:=by rw [CI AY hi];exact θ hi
  have h1:=MO (h.x _ hm);have h2:=WK (ros.map A2.r) (AR (its.getD i AY));have h3:=V1 (ros.map A2.r) ((its.map AR).take i) (AR (its.getD i AY));have h4:=(h.x _ hm).2.2;exact ⟨by show (U7 _ _).length≤_;omega,by show (XN _ _ _).length≤_;omega,by show (its.getD i AY).af.length≤_;omega⟩
 ·obtain ⟨i,hi,rfl⟩:=S_nd hx;obtain ⟨d,hd,e1⟩:=efK_mem he;have:=KC _ d hd;rw [e1];omega
 ·obtain ⟨i,hi,rfl⟩:=S_nd hx;obtain ⟨d,hd,hm,hneg,rfl⟩:=plK_mem he;obtain ⟨hj,hr⟩:=MJ hm;have hdi:i<(its.map AR).length:=by simpa using hi
  have hgi:(its.map AR).getD i []=AR (its.getD i AY):=by rw [CI [] hdi,CI AY hi,ωd]
  have hamt:C7 ((its.map AR).getD i []) d.1=d.2:=by rw [hgi];exact DJ (DC _) hd
  obtain ⟨B,c1,c2,c3⟩:=Rw hdi d.1
  have hq:((netS ros its on).po.getD ((ros.map A2.r).idxOf d.1) CV).q=negQ (its.map AR) d.1:=by
   show ((ros.map _).getD _ CV).q=_;rw [CI CV (by simpa using hj),ωd];show negQ _ (ros[(ros.map A2.r).idxOf d.1]).r=_;rw [hr]
  rw [hq];dsimp only;have hlen:=Δ List.length c1;rw [κ (by rw [hamt];exact hneg),Θ,Θ,Ψ] at hlen;have h1:=J8 ((its.map AR).take i) d.1;rw [Ω,ψ] at h1;omega
 ·have:=hmi y hy;omega
 ·obtain ⟨_,_,x,hx,rfl⟩:=hmi y hy;have:=h.n x hx;show -1000000000000000000≤x.n∧x.n≤1000000000000000000;omega
 ·have h1:(netS ros its on).nd.length=its.length:=by unfold netS;simp
  have h2:(netS ros its on).po.length=ros.length:=by unfold netS;simp
  have:=h.o;omega
 ·have:=hmi y hy;omega
theorem W_ers {N:Net} (h:NetW (Au N)):NetW N:=by
 have hn:∀x∈N.nd,EG x∈(Au N).nd:=fun x hx=>ϖ.2 ⟨x,hx,Z⟩;have hp:∀y∈N.po,CQ y∈(Au N).po:=fun y hy=>ϖ.2 ⟨y,hy,Z⟩;refine ⟨by rw [←Gt];exact h.i,fun x hx id hid=>by rw [←Gt];exact h.a _ (hn x hx) id hid,fun x hx=>h.l (EG x) (hn x hx),fun x hx=>h.e (EG x) (hn x hx),fun x hx e he=>?_,fun y hy=>h.m (CQ y) (hp y hy),fun y hy=>h.rm (CQ y) (hp y hy),?_,fun y hy=>h.ql (CQ y) (hp y hy)⟩
 ·have:=h.p _ (hn x hx) e he;rw [Hr] at this;exact this
 ·have:=h.n;have h1:(Au N).nd.length=N.nd.length:=by unfold Au;simp
  have h2:(Au N).po.length=N.po.length:=by unfold Au;simp
  omega
theorem S_sumB {N:Net} {ros:List A2} {its:List AK} (h:SmO ros its) {on:Nat ->Bool} (hN:Au N=netS ros its on):RC N.po 1000000000000000000:=fun y hy=>by
 have h1:CQ y∈(Au N).po:=ϖ.2 ⟨y,hy,Z⟩;rw [hN] at h1;obtain ⟨x,hx,e⟩:=ϖ.1 h1;have h2:=S_sum h on x.r;have h3:y.sum=GZ (its.map AR) on x.r:=Δ Po.sum e.symm;rw [h3];omega
def FV (ros:List A2) (its:List AK):Nat ->(Nat ->Bool) ->List OC×(Nat ->Bool)
 | 0,on=>([],on)
 | f+1,on=>match FK (netS ros its on) with
  | none=>([],on)
  | some e=>(e::(FV ros its f (Ac on ((its.map AK.id).idxOf e.id))).1,(FV ros its f (Ac on ((its.map AK.id).idxOf e.id))).2)
def EV (n:Nat) (on:Nat ->Bool):Nat:=((List.range n).filter on).length
def L0 (p:Prb):List OC×(Nat ->Bool):=FV (Cp p) (ordP p) (ordP p).length fun _=>true
def EQ (its:List AK) (on:Nat ->Bool) (k:Nat):List Int:=((List.range k).filter on).map fun i=>(its.getD i AY).id
theorem LE {n i:Nat} (hi:i<n) {on:Nat ->Bool} (ho:on i=true):EV n (Ac on i)+1=EV n on:=by
 obtain ⟨B,h1,h3⟩:=IN hi;unfold EV;rw [h1,ωz,ωz,Θ,Θ,φj,φj,GA,ho];have e1:(List.range i).filter (Ac on i)=(List.range i).filter on:=χx fun j hj=>Zcr (by have:=ς.1 hj;omega);have e2:B.filter (Ac on i)=B.filter on:=χx fun j hj=>Zcr (by have:=h3 j hj;omega);rw [e1,e2]
 simp
 omega
theorem PW {α:Type} [BEq α] [LawfulBEq α] {l:List α} (hn:l.Nodup) {i:Nat} (hi:i<l.length):l.idxOf l[i]=i:=by
 have h1:l.idxOf l[i]<l.length:=ψq (θ hi);have h2:=φg h1;exact (List.getElem_inj hn).1 h2
theorem RX {ros:List A2} {its:List AK} {f:Nat} {on:Nat ->Bool} (h:FK (netS ros its on)=none):FV ros its f on=([],on):=by
 cases f with
 | zero=>rfl
 | succ f=>unfold FV;rw [h]
theorem RW {ros:List A2} {its:List AK} {f:Nat} {on:Nat ->Bool} {e:OC} (h:FK (netS ros its on)=some e):FV ros its (f+1) on=(e::(FV ros its f (Ac on ((its.map AK.id).idxOf e.id))).1,(FV ros its f (Ac on ((its.map AK.id).idxOf e.id))).2):=by
 show (match FK (netS ros its on) with | none=>_ | some e=>_)=_;rw [h]
theorem Qf {ros:List A2} {its:List AK} {on:Nat ->Bool} {N:Net} (h:Au N=netS ros its on) {i:Nat} {x:Nd} (hx:N.nd[i]? =some x):i<its.length∧x.on=on i∧x.it=its.getD i AY:=by
 have h1:(N.nd.map EG)[i]? =some (EG x):=by rw [η,hx];rfl
 rw [show N.nd.map EG=(List.range its.length).map (Qi (ros.map A2.r) its on) from Δ Net.nd h] at h1;have hi:i<its.length:=by have:=(χ.1 h1).1;simpa using this
 rw [η,ψv hi] at h1;have h2:EG x=Qi (ros.map A2.r) its on i:=(Option.some.inj h1).symm;exact ⟨hi,Δ Nd.on h2,Δ Nd.it h2⟩
theorem Ms (its:List AK) (on:Nat ->Bool) (k:Nat):EQ its on (k+1)=EQ its on k++if on k=true then [(its.getD k AY).id] else []:=by
 unfold EQ;rw [ψj,ωz,ωc,P4]
 split<;>rfl
theorem XT (its:List AK) (on:Nat ->Bool) (k:Nat):(EQ its on k).length≤k:=by
 unfold EQ;rw [ψ];exact ωe (ωh _ _) (by simp)
theorem S_len {ros:List A2} {its:List AK} {on:Nat ->Bool} {N:Net} (h:Au N=netS ros its on):N.nd.length=its.length:=by
 have h1:=Δ (fun N=>N.nd.length) h;have h2:(N.nd.map EG).length=((List.range its.length).map _).length:=h1
 rwa [ψ,ψ,ωf] at h2
theorem sml_P {p:Prb} (hf:GV p) (hE:Az p=0):SmO (Cp p) (ordP p):=by
 refine ⟨ωe (DY p) hf.i,fun x hx=>hf.x x (H7 hx),Ee hE,fun x hx id hid=>?_,Mj hE,fun x hx=>?_,?_⟩
 ·have h1:ordP p=BJ p.it:=κ hE;have h2:U2 (p.it.map AK.id) x=0:=GN (O3 hE).2.2 _ (ϖ.2 ⟨x,H7 hx,Z⟩)
  have h3:id∈p.it.map AK.id:=by
   unfold U2 at h2
   split at h2
   ·cases h2
   ·rename_i h4
    by_cases h5:id∈p.it.map AK.id
    ·exact h5
    ·exact absurd (List.any_eq_true.2 ⟨id,hid,by unfold J7;simpa using h5⟩) h4
  rw [h1];exact ((W5 p.it).map AK.id).mem_iff.2 h3
 ·have h1:x∈p.ro:=by
   obtain ⟨i,hi,rfl⟩:=ϖ.1 hx;have hi':=ς.1 ((YM (p.ro.map A2.r)).mem_iff.1 hi);rw [CI DN (by simpa using hi')];exact θ _
  exact K4 (O3 hE).1 x h1
 ·unfold Cp;rw [ψ,(YM _).length_eq,ωf,ψ];exact hf.r
set_option maxRecDepth 100000 in
set_option maxHeartbeats 1000000 in
theorem U3 (p:Prb) (hf:GV p) (hE:Az p=0):AO Tryz.prog 95 [.d (CB p)] (.tup [.sl none ((EQ (ordP p) (L0 p).2 (ordP p).length).map AF),.sl none ((L0 p).1.map bS),AF 0]):=by
 have hbu:=TD p hf hE;have hsm:=sml_P hf hE;unfold L0;rw [aI] at hbu
 obtain ⟨its,hits⟩:∃its,ordP p=its:=⟨_,Z⟩
 obtain ⟨ros,hros⟩:∃ros,Cp p=ros:=⟨_,Z⟩
 rw [hits,hros] at hbu hsm⊢;have hl:=hsm.l;refine BB Tryz.func95 Z Z Tryz.ntmps95 Z Z Z fun F hF=>(AC (AE ?_));refine V (CE 1 Z Z Z Z Z Z Z) (AB Z Z (AB Z Z (AB Z Z (AD (a_scope (AC (AE (J (BO Z Z B8 Z Z Z) ?_))))))));refine Ch (W2 hbu Z [40,50,51] ⟨Z,Z,Z,trivial⟩ Z Z Z Z (fun r H' ⟨_,_,_,_,_,_,_,e1,e2,_⟩=>by subst e1 e2;exact ⟨Z,Z,Z⟩) Z) Z ?_;rintro _ ⟨r,H',⟨wb,mv,nb,pb,N,M,bs,rfl,rfl,hR,hN⟩,rfl⟩;refine goMv Z Z (J (D8 Z Z Z) (J (D8 Z Z Z) (AB Z Z (AB Z Z (AD ?_)))));refine AC (AC (AE (goMv Z Z (J (EA Z Z Z) (AD (Db Z (Z) (A3 (AC ?_))))))));have hids:BS N=its.map AK.id:=by rw [←Gt,hN,TX]
 rw [hids];refine AE (AB Z Z (AD (AC (a_label (AC (A5 (O4 7 900 ZK Z Z Z Z (B6 (α:=(Nat ->Bool)×Net×MF×List OC×Nat) (fun q=>⟨64,[(5,(.d (pD wb 0))),(7,(.own 900 0 q.2.2.2.1.length))],(900,[.rowD 245 9 (q.2.2.2.1.map bS)])::HW mv bs (Fd nb (its.map AK.id)) q.2.2.1⟩) (fun q=>CA wb mv nb pb q.2.1 q.2.2.1∧Au q.2.1=netS ros its q.1∧EV its.length q.1≤q.2.2.2.2∧q.2.2.2.1.length+q.2.2.2.2≤its.length∧q.2.2.2.1++(FV ros its q.2.2.2.2 q.1).1=(FV ros its its.length fun _=>true).1∧(FV ros its q.2.2.2.2 q.1).2=(FV ros its its.length fun _=>true).2) (fun q=>q.2.2.2.2) ((fun _=>true,N,M,[],its.length)) (⟨hR,hN,by show ((List.range its.length).filter _).length≤_;exact ωe (ωh _ _) (by simp),by simp,Z,Z⟩) (A1 hF [900,40,50,51] Z Z ⟨Z,Z,trivial⟩) ?_))))))));rintro ⟨on,N,M,acc,f⟩ ⟨hR,hN,hc,hal,hr1,hr2⟩;dsimp only at hR hN hc hal hr1 hr2⊢;refine A5 (AC ?_);have hw:=W_ers (N:=N) (by rw [hN];exact S_w hsm on);have hsb:=S_sumB hsm hN;have hids:BS N=its.map AK.id:=by rw [←Gt,hN,TX]
 have hnx:=next_c bs hR hw hsb;rw [hids] at hnx;refine AE (goMv Z Z (V (Eu hnx Z [40,50,51] ⟨Z,Z,Z,trivial⟩ Z Z Z Z Z Z Z Z Z) (goMv Z Z ?_)))
 cases hne:FK N
 ·refine J (D8 Z Z Z) (J (D8 Z Z Z) (V (CO 2 If Z Z Z Z) (V (Bi Z Z Z Z Z Z Z JQ) (AB Z Z (AD ?_)))));refine AC (AC (AE (goMv Z Z (J (L7 Z Z) (AD (D9 Z (Z) (BF (AC ?_))))))));have hro:FV ros its f on=([],on):=RX (by rw [←hN,Rv,hne]);rw [hro] at hr1 hr2;rw [ωk] at hr1;dsimp only at hr2;have hwb:=hR.w;have hnr:BK M N.nh Zc 1 ((List.range N.nd.length).map fun i=>BL (nb i)):=hR.rs.1 .n;have hnz:=TW hnr;rw [ωf] at hnz;have hNl:=S_len hN;refine AE (AB Z Z (AD (AC (AC (AE (goMv Z Z ?_))))));refine J (DQ Z Z) (J (CS Z IY Z Z Z) (J (EX (f:=40) Z Z (hwb) Z GG Z) (J (Ut hnz Z Tryz.underlying175 Z) (goMv Z Z (AD (A5 (O4 10 901 B4 Z Z Z Z (B6 (α:=Nat×List Int) (fun q=>⟨64,[(7,(.own 900 0 acc.length)),(10,(.own 901 0 q.2.length)),(43,(.d (hdr N.nh N.nd.length))),(44,(.d (AF (N.nd.length:Int)))),(45,(.d (AF (q.1:Int))))],(901,[.rowD 3 1 (q.2.map AF)])::(900,[.rowD 245 9 (acc.map bS)])::HW mv bs (Fd nb (its.map AK.id)) M⟩) (fun q=>q.1≤N.nd.length∧q.2=EQ its on q.1) (fun q=>N.nd.length - q.1) ((0,[])) (⟨Γ _,Z⟩) (A1 hF [901,900,40,50,51] Z Z ⟨Z,Z,Z,Z,Z,trivial⟩) ?_))))))));rintro ⟨k,ids⟩ ⟨hk0,hI⟩;dsimp only at hk0 hI⊢;refine AC (AE (J (BT Z Z Z) (AD (AC (Ah Z (fun h46=>?_) (fun h46=>?_))))))
  ·have hk1:k<N.nd.length:=Bf h46;refine A3 (AC (A5 (AC ?_)))
   obtain ⟨x,hx⟩:∃x,N.nd[k]? =some x:=⟨_,ω hk1⟩
   obtain ⟨hiN,hoi,hit⟩:=Qf hN hx;have hxb:=hR.n k x hx;obtain ⟨rb,rc,hre⟩:=T8 hnr (j:=k) (by rw [ωf];exact hk1);have hrow:=Qk hnr hre;have hidl:ids.length≤k:=by rw [hI];exact XT its on k
   refine AE (J (Up hre (k) Z Z Z hk1 Tryz.underlying175 LM Z) (J (Zcp (f:=40) (e:=k) (off:=0) Z (by omega) Z (hrow) ((by rw [η,ψv hk1];rfl)) Z Mu Z) ?_));refine AB Z Z ?_;refine AD (AC (AE (goMv Z Z (J (DQ Z Z) (J (CS Z Eg Z Z Z) (J (EX (f:=40) Z Z (hxb) Z on4 Z) (AD (KP Z (fun h52=>?_) (fun h52=>?_)))))))))
   ·refine AE (goMv Z Z (goMv Z Z (J (DQ Z Z) (J (CS Z F9 Z Z Z) (J (CS Z MV Z Z Z) ?_)))));refine J (EX (f:=40) Z Z (hxb) Z Aq Z) (V (Dz 3 B4 Z Z Z Z Z Z Z Z) (V (I8 (ids) ([x.it.id]) Z Z Z Z Z Z Z Z B4 (by simp only [Ψ];omega) Z Z Z Z) (AB Z Z (AD (AE (J (Ay Z Z (AT (k+1) (by omega)) Z) (goMv Z Z (AD ?_))))))));exact ⟨(k+1,_),⟨by show k+1≤_;omega,by show _=EQ its on (k+1);rw [Ms,κ (by rw [←hoi];simpa using h52),←hI,←hit]⟩,by show N.nd.length - (k+1)<N.nd.length - k;omega,A1 hF [901,900,40,50,51] Z (Z) ⟨Z,Z,Z,Z,Z,trivial⟩⟩
   ·refine A3 (AE (J (Ay Z Z (AT (k+1) (by omega)) Z) (goMv Z Z (AD ?_))));exact ⟨(k+1,_),⟨by show k+1≤_;omega,by show _=EQ its on (k+1);rw [Ms,ϑ (by rw [←hoi];simpa using h52),ωk,←hI]⟩,by show N.nd.length - (k+1)<N.nd.length - k;omega,A1 hF [901,900,40,50,51] Z (Z) ⟨Z,Z,Z,Z,Z,trivial⟩⟩
  ·refine BF (AC ?_);have hke:k=its.length:=by have h:=h46;omega
   refine Lo (emb:=bS) 7 900 acc Z Z Z Z Z Z Z ?_;refine Lo (emb:=AF) 10 901 ids Z Z Z Z Z Z Z (AE (goMv Z Z (goMv Z Z (AB Z Z (AB Z Z (AB Z Z (AD (A8 ?_))))))));exact ⟨_,[],[],A7 Z,Z,Z,by rw [←hr2,←hr1,hI,hke],Z⟩
 ·refine J (D8 Z Z Z) (J (D8 Z Z Z) (V (CO 4 If Z Z Z Z) (V (Bi Z Z Z Z Z Z Z JQ) (AB Z Z (AD ?_)))));refine AC (AC (AE (goMv Z Z (J (L7 Z Z) (AD (Db Z (Z) (A3 (AC ?_))))))))
  rename_i e
  obtain ⟨i,x,hx,hon,hid⟩:=Vm hne;obtain ⟨hiN,hoi,hit⟩:=Qf hN hx;rw [hon] at hoi;have hoi:=hoi.symm;have hil:i<(its.map AK.id).length:=by rw [ψ];exact hiN
  have hei:(its.map AK.id)[i]=e.id:=by rw [hid,hit,ωd,CI AY hiN]
  have hby:=Qa (nb:=nb) hsm.i hil;rw [hei] at hby;have hcn:=LE hiN hoi
  obtain ⟨f2,rfl⟩:∃f2,f=f2+1:=⟨f - 1,by omega⟩
  have hrs:FV ros its (f2+1) on=(e::(FV ros its f2 (Ac on i)).1,(FV ros its f2 (Ac on i)).2):=by rw [RW (by rw [←hN,Rv,hne]),←hei,PW hsm.i hil]
  have hxm:=ζ hx;have hrm:=Z6 hR hx hsb (hw.e x hxm) (hw.l x hxm).1 (hw.l x hxm).2.1 (fun e he=>(hw.p x hxm e he).2) hw.m;refine Cc [[],[0],[0,1],[0,1,2],[],[4],[0,1,2,3,4,5],[0,1,2,3,4,5,6]] mixed Z (Cj (AI [5] [] Z Z (fun _=>AG (Ai Z Z)) (AI [28] [] Z Z (fun _=>AG (DQ Z Z)) ?_)));refine AI [29] [] Z Z (fun _=>AG (CS Z ML Z Z Z)) (AI [30] [40] Z Z (fun _=>AG (EX (f:=40) Z Z (hR.w) Z Va Z)) (AI [8] [] Z Z (fun _=>AG (A4 Z fi245_0 Z Z Z)) (AI [32] [4] Z Z (fun _=>AG (A9 Z Z Z Aq Z)) (C1 6 Z Z Z (Ae 7 Z Z (D0 31 51 0 Z Z (J (HQ (Fd nb (its.map AK.id)) e.id (.pointer none) (pV (nb i) 0) Z Z Z Vo HP Uw hby Z) (AD ⟨Z,?_⟩))))))));refine Ae 8 Z Z ?_;refine Ch (W2 hrm Z [40] ⟨Z,trivial⟩ Z Z Z Z (fun r H' ⟨e1,M',e2,_⟩=>by subst e1 e2;exact ⟨Z,Z,Z⟩) Z) Z ?_;rintro _ ⟨r,H',⟨rfl,M2,rfl,hR2⟩,rfl⟩;refine AD ⟨Z,?_⟩;refine C6 (AE (goMv Z Z (J (BO Z Z rw245 Z Z Z) (V (Dz 5 ZK Z Z Z Z Z Z Z Z) (V (I8 (acc) ([e]) Z Z Z Z Z Z Z Z ZK (by simp only [Ψ];omega) Z Z Z Z) (AB Z Z (AD ?_)))))));exact ⟨(Ac on i,rmN N i x,M2,acc++ [e],f2),⟨hR2,rm_S hsm.r hN hiN hoi hx,by show EV its.length (Ac on i)≤f2;omega,by show (acc++ [e]).length+f2≤_;rw [Θ];simp;omega,by show (acc++ [e])++(FV ros its f2 (Ac on i)).1=_;rw [ψm,←hr1,hrs];rfl,by show (FV ros its f2 (Ac on i)).2=_;rw [←hr2,hrs]⟩,by show f2<f2+1;omega,A1 hF [900,40,50,51] Z (Z) ⟨Z,Z,trivial⟩⟩
end Go.Proofs.YteifpcnphnhaoaaGreat
