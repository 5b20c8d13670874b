import Derived.Test.YteifpcnphnhaoaaGreatMg24
namespace Go.Proofs.YteifpcnphnhaoaaGreat
open Go.RowKit Go.Shelf
open Go.Sort (putRow Holds PermIn SortedIn SWO mapBlock onCells putCells)
variable {P:Program}
section
variable {ρr:Ren} {τ:Type}
theorem ZD (L:SlLaysF.n6 P ρr) {E:TypeId} {g g6:FuncId} {fn:Func} (hfn:P.funcs[g]? =some fn) (hnm:(fn.name== "runtime.NumGoroutine")=false) {c:Code} (hbody:fn.body=some c)
  {emb:τ ->D} (hag:∀x,(emb x).cells=[emb x]) (cf:τ ->τ ->Int) (hO:SWO (ltOf cf)) (xs ys0:List τ) (jk:List D) (hsz:xs.length<4611686018427387904) (hc:∀x∈xs,∀y∈xs,AO P g [.d (emb x),.d (emb y)] (.raw (.int .i64 (cf x y))))
  (hu:∀ys:List τ,ys.Perm xs ->ys.Pairwise (fun a b=>¬cf b a<0) ->ys=ys0)
  {F:Fr} {s:AS} {d:Nat} {x y:Operand} {ty:TypeId} {pos:String} {aft:Array Edge} {gd:Option (Nat×Bool)} {at_:Array TypeId} {f n:Nat} {fa:AV} {row:List D} {hp':Hp}
  (hg:ρr.f 6=g6) (hx:s.ev x=some (.own f 0 n)) (hy:s.ev y=some fa) (hfa:∀w O ρ v,AW w O ρ fa v ->v= .func (.func g) #[] #[]) (ho:hget s.hp f 0=some (.rowD E 1 row)) (hrow:row=xs.map emb++jk) (hn:n=xs.length) (hh:BN s.hp f 0 (.rowD E 1 (ys0.map emb++jk))=some hp') (hd:Nat.blt d s.n=true):
  AI P F ⟨some d,.call {callee:= .value (.func g6),args:= #[x,y],argTypes:=at_},ty,pos,aft,gd⟩ s ⟨s.n,(d,.d (.tup []))::s.env,hp'⟩ (fun _ _=>true):=by
 subst hg hrow hn;intro ρ act w hs
 obtain ⟨fn6,hf1,hf2,hf3⟩:∃fn,P.funcs[ρr.f 6]? =some fn∧(fn.name== "runtime.NumGoroutine")=false∧fn.body.isSome=true:=by
  obtain ⟨nm,hn,hf⟩:=L.f6;exact ⟨_,hf,hn,Z⟩
 unfold Oper.wp;rw [show (#[x,y]:Array Operand)=[x,y].toArray from rfl,DV hf1 hf2 hf3,Oper.upon_enter]
 suffices key:Calls P (ρr.f 6) ([x,y].map act.eval).toArray w fun e w'=>e= .returned (.tuple #[])∧SR F ⟨s.n,s.env,hp'⟩ ρ act w' by
  refine key.mono fun e w' ⟨e1,hsr⟩=>?_;subst e1;exact ⟨ρ,hsr.put (IB hd) (.d (.tup Z fun i c v hc=>by cases hc)),fun _ _ _=>rfl⟩
 have r0:=hs.ev hx;have r1:=hfa _ _ _ _ (hs.ev hy);have hg0:=ho;have h3:=hs.heap;have hset:=Am hh;obtain ⟨us,q1,q2,q3⟩:=h3.sim f 0 _ hg0;show Calls P (ρr.f 6) #[act.eval x,act.eval y] w _;rw [r1]
 generalize act.eval x=V0 at r0
 cases r0 with
 | own hρ hle=>
  rename_i N cap a
  by_cases hx:xs=[]
  ·subst hx;refine (AnyF.slices_SortFunc_none {L with} a cap _ w).mono fun e w' ⟨e1,e2⟩=>?_;subst e1 e2;refine ⟨Z,hs.writeG f 0 _ _ ho hset Z Z Z (ν _) (ν _) (fun _ _ _=>rfl) (fun _ _ e=>by cases e) fun hrep=>?_⟩;rw [←hu [] (List.Perm.refl _) List.Pairwise.nil]
   have hO2:∀b',F.O ρ hp' b' ->F.O ρ s.hp b':=fun b' h=>h.imp id fun ⟨g,i,o,h1,h2⟩=>by
    rw [hset] at h1
    split at h1
    ·rename_i e;obtain ⟨rfl,rfl⟩:=e;exact ⟨g,0,_,hg0,h2⟩
    ·exact ⟨g,i,o,h1,h2⟩
   exact ⟨us,q1,⟨q2.1,q2.2.1,fun i x hx j c hc=>by
    obtain ⟨u,h1,h2,h4⟩:=q2.2.2 i x hx j c hc
    exact ⟨u,h1,h2,h4.mono (ν _) (fun _ _ _=>rfl) fun b' _=>hO2 b'⟩⟩,q3⟩
  ·have hn:0<xs.length:=χg.2 hx;have hul:us.length=xs.length+jk.length:=by have:=q2.1;rwa [Δ,ψ,χu] at this
   have hblkeq:∃b cur,a=some ⟨b,0,none⟩∧w.heap[b]? =some (.cells cur E (0,0))∧cur.size=cap∧xs.length+jk.length≤cap∧cap≤maxLen∧cur.toList.take (xs.length+jk.length)=us∧N=xs.length+jk.length:=by
    rcases q1.2 with ⟨_,h⟩ | ⟨b,cap',cur,e1,_,e2,e3,e4,e5,e6⟩
    ·rw [Δ,ψ] at h;omega
    ·rw [hρ] at e1;injection e1 with e1 e7 e8
     subst e1 e8;rw [Δ,ψ] at e3 e6 e7;exact ⟨b,cur,Z,e2,by omega,e3,e4,by rwa [χu] at e6,e7⟩
   obtain ⟨b,cur,rfl,p1,p2,p3,p3',p4,rfl⟩:=hblkeq;have hb:B9 (ρ f 0)=some b:=by rw [hρ];rfl
   have hOb:F.O ρ s.hp b:= .inr ⟨f,0,_,hg0,hb⟩;have hlt:b<w.heap.size:=(ωr.1 p1).1;have hOl:∀b',F.O ρ s.hp b' ->b'<w.heap.size:=fun b' h=>h3.ltO h
   have hus:∀i,i<xs.length+jk.length ->us[i]? =cur[i]?:=fun i hi=>by
    have h:=Γ (·[i]?) p4
    change (cur.toList.take (xs.length+jk.length))[i]? =us[i]? at h
    rw [ψf hi,ψm] at h;exact h.symm
   let x0:τ:=xs[0]
   let ix:Nat ->Nat:=fun i=>if i<xs.length then i else 0
   have hix:∀i,ix i<xs.length:=fun i=>by show (if _ then _ else _)<_;split<;>omega
   let el:Nat ->τ:=fun i=>(xs[ix i]?).getD x0
   have hel:∀i,el i∈xs:=fun i=>by
    show (xs[ix i]?).getD x0∈xs;rw [ω (hix i)];exact κ (hix i)
   have heli:∀i (hi:i<xs.length),el i=xs[i]:=fun i hi=>by
    show (xs[ix i]?).getD x0=_;rw [show ix i=i from θ hi,ω hi];rfl
   let enc:Nat ->Value:=fun i=>(us[ix i]?).getD undef
   have henc:∀i,us[ix i]? =some (enc i):=fun i=>by
    have h:ix i<us.length:=by have:=hix i;omega
    show us[ix i]? =some ((us[ix i]?).getD undef);rw [ω h];rfl
   let cf':Nat ->Nat ->Int:=fun i j=>cf (el i) (el j)
   have hO':SWO (ltOf cf'):=⟨fun x=>hO.irrefl (el x),fun x y z=>hO.trans (el x) (el y) (el z),fun x y z=>hO.ntrans (el x) (el y) (el z)⟩
   have hrow:∀i,((xs.map emb++jk)[ix i]?)=some (emb (el i)):=fun i=>by
    rw [ψb (by rw [ψ];exact hix i),η,ω (hix i)];show some (emb _)=some (emb ((xs[ix i]?).getD x0));rw [ω (hix i)];rfl
   have hrep0:∀i,(enc i).oneCell'=true∧AQ w (F.O ρ s.hp) (emb (el i)) (enc i):=fun i=>by
    obtain ⟨u,h1,h2,h4⟩:=q2.2.2 _ _ (hrow i) 0 (emb (el i)) (by rw [hag];rfl);rw [χu,χm,henc] at h1;injection h1 with h1;subst h1
    exact ⟨h2,h4⟩
   have henc1:OneCell enc:=fun i=>(hrep0 i).1;have hd0:∀i,i<xs.length ->(Array.range xs.length)[i]! =i:=fun i hi=>by rw [getElem!_pos _ i (by simpa using hi)];simp
   have hcu:∀i,i<xs.length ->cur[i]? =some (enc i):=fun i hi=>by
    rw [←hus i (by omega)];have:=henc i
    rwa [show ix i=i from θ hi] at this
   have hH:Holds enc w b 0 (Array.range xs.length):=by
    intro j hj;simp only [χz] at hj;rw [hd0 _ hj];refine ⟨?_,?_⟩
    ·simp only [World.cell?,p1,ψq];rw [hcu j hj];rfl
    ·simp only [World.frozen?,p1]
     simp
   have hcmp:CmpLays1 P g #[] enc cf' b 0 (Array.range xs.length).size w:=by
    intro m os dk _ x y;have hWs:w.heap.size≤(sortWorld enc w b 0 m dk os).heap.size:=G1;have hW:∀b',b'<w.heap.size ->¬F.O ρ s.hp b' ->(sortWorld enc w b 0 m dk os).heap[b']? =w.heap[b']?:=fun b' hl hno=>Zb3 (fun e=>hno (e▸hOb)) hl;have ra:=(hrep0 x).2.mono hWs hW (fun _ _ h=>h);have rb:=(hrep0 y).2.mono hWs hW (fun _ _ h=>h)
    refine (Pv (hc (el x) (hel x) (el y) (hel y)) (w:=sortWorld enc w b 0 m dk os) (fun b' h=>ψr (hOl b' h) hWs) (vs:=[enc x,enc y]) Z (fun i a v ha hv=>?_)).mono fun e w' ⟨v,e1,e2,e3,e4,e5⟩=>⟨?_,NN e3 e4 e5⟩
    ·match i,ha,hv with
     | 0,ha,hv=>injection ha with ha;injection hv with hv;subst ha hv;exact .d ra
     | 1,ha,hv=>injection ha with ha;injection hv with hv;subst ha hv;exact .d rb
    ·cases e2 with
     | raw _=>exact e1
   have eg:∀args w,(callFunc g args).run P w= .ok (.enter g args) w:=enters_of hfn hnm hbody;have key:=Any.slices_SortFunc L enc henc1 cf' hO' g #[] b 0 cap (Array.range xs.length) w eg hcmp hH hlt (by simpa using hsz);rw [χz] at key;refine key.mono fun e w' ⟨e1,d',n,os,hp,hsort,hw⟩=>?_;subst e1 hw;obtain ⟨s1,_,s3⟩:=hp;rw [χz] at s1
   have hperm:d'.toList.Perm (List.range xs.length):=by
    have e1:d'.extract 0 xs.length=d':=by rw [←s1];exact Array.extract_size
    have e2:(Array.range xs.length).extract 0 xs.length=Array.range xs.length:=by
     conv=>lhs;arg 3;rw [←χz (n:=xs.length)]
     exact Array.extract_size
    rw [e1,e2] at s3
    simpa using s3
   refine ⟨Z,?_⟩
   have hys:d'.toList.map el=ys0:=by
    apply hu
    ·refine (hperm.map el).trans (List.Perm.of_eq ?_)
     apply χc (by simp)
     intro i h5 h6;simp only [ωd,ψs];exact heli i h6
    ·rw [ωv];intro i j hi hj hij;simp only [ψ,χh] at hi hj;have:=hsort i j (ς _) hij (by omega);rw [getElem!_pos _ j hj,getElem!_pos _ i hi] at this;simp only [ltOf,decide_eq_false_iff_not] at this
     simpa using this
   have hlen':ys0.length=xs.length:=by rw [←hys];simp [s1]
   have hWs:w.heap.size≤(sortWorld enc w b 0 n d' os).heap.size:=G1;have hW:∀b',b'<w.heap.size ->¬F.O ρ s.hp b' ->(sortWorld enc w b 0 n d' os).heap[b']? =w.heap[b']?:=fun b' hl hno=>Zb3 (fun e=>hno (e▸hOb)) hl
   have hheap:(sortWorld enc w b 0 n d' os).heap[b]? =some (.cells (putCells enc 0 d' cur) E (0,0)):=by
    unfold sortWorld;rw [Go.Sort.heap_grow_old _ _ (by rw [Go.Sort.size_putRow];exact hlt)];show (w.heap.modify b _)[b]? =_;rw [ψv,θ Z,p1];rfl
   have hcs:(putCells enc 0 d' cur).size=cap:=by simp only [putCells,Array.size_mapIdx];omega
   have hO2:∀b',F.O ρ hp' b' ->F.O ρ s.hp b':=fun b' h=>h.imp id fun ⟨g,i,o,h1,h2⟩=>by
    rw [hset] at h1
    split at h1
    ·rename_i e;obtain ⟨rfl,rfl⟩:=e;exact ⟨g,0,_,hg0,h2⟩
    ·exact ⟨g,i,o,h1,h2⟩
   have hget:∀i,i<xs.length+jk.length ->(putCells enc 0 d' cur).toList[i]? =if h:i<xs.length then some (enc (d'[i]'(by omega))) else us[i]?:=fun i hi=>by
    rw [ψm,ωl (by omega)];simp only [putCells,Array.getElem_mapIdx]
    by_cases h:i<xs.length
    ·rw [θ ⟨ς _,by omega⟩,dif_pos h];simp only [Nat.sub_zero];rw [getElem!_pos _ i (by omega)]
    ·rw [ϑ (fun h2=>h (by omega)),dif_neg h,hus i hi,ωl (by omega)]
   refine hs.writeG f 0 _ _ ho hset Z Z Z hWs (Nat.le_add_right _ _) (fun b' hl hno=>Zb3 (fun e=>hno (by rw [e];exact hb)) hl) (fun _ _ e=>by cases e) fun hrep=>?_;have hlr:(ys0.map emb++jk).length=xs.length+jk.length:=by rw [Δ,ψ,hlen']
   have hlu:((putCells enc 0 d' cur).toList.take (xs.length+jk.length)).length=(ys0.map emb++jk).length*1:=by
    have e2:(putCells enc 0 d' cur).toList.length=cap:=hcs;rw [hlr,χu,Υ,e2];exact Nat.min_eq_left p3
   refine ⟨(putCells enc 0 d' cur).toList.take (xs.length+jk.length),⟨hlu,.inr ⟨b,cap,_,by rw [hρ,hlr],ς _,hheap,by rw [hlr];exact p3,p3',by omega,by rw [hlr,χu]⟩⟩,⟨hlu,fun x hx2=>?_,fun i x hx2 j c hc2=>?_⟩,fun x hx2 c hc2=>?_⟩
   ·rcases υ.1 hx2 with h | h
    ·obtain ⟨y,_,rfl⟩:=ϱ.1 h;rw [hag];rfl
    ·exact q2.2.1 _ (υ.2 (.inr h))
   ·have hi:i<xs.length+jk.length:=by rw [←hlr];exact (χ.1 hx2).1
    by_cases h:i<xs.length
    ·rw [ψb (by rw [ψ];omega),η,←hys,η,ψm,ωl (by omega)] at hx2;injection hx2 with hx2;subst hx2
     rw [hag] at hc2
     match j,hc2 with
     | 0,hc2=>
      injection hc2 with hc2;subst hc2
      exact ⟨_,by rw [χu,χm,ψf hi,hget i hi,dif_pos h],(hrep0 _).1,(hrep0 _).2.mono hWs hW fun b' _=>hO2 b'⟩
    ·rw [ωq (by rw [ψ];omega),ψ,hlen'] at hx2;obtain ⟨u,h1,h2,h4⟩:=q2.2.2 i x (by rw [ωq (by rw [ψ];omega),ψ];exact hx2) j c hc2
     have hj:j=0:=by
      have h1:x.cells.length=1:=q2.2.1 x (υ.2 (.inr (ζ hx2)));have:=(χ.1 hc2).1;omega
     subst hj;rw [χu,χm] at h1;exact ⟨u,by rw [χu,χm,ψf hi,hget i hi,dif_neg h];exact h1,h2,h4.mono hWs hW fun b' _=>hO2 b'⟩
   ·rcases υ.1 hx2 with h | h
    ·obtain ⟨y,_,rfl⟩:=ϱ.1 h;rw [hag] at hc2
     obtain ⟨k,hk⟩:∃k,el k=y∨y∉xs:=by
      by_cases hy:y∈xs
      ·obtain ⟨k,hk,e⟩:=χb.1 hy;exact ⟨k,.inl ((heli k hk).trans e)⟩
      ·exact ⟨0,.inr hy⟩
     have hyx:y∈xs:=by
      rename_i hy
      rw [←hys] at hy;obtain ⟨q,_,rfl⟩:=ϱ.1 hy;exact hel q
     exact q3 (emb y) (υ.2 (.inl (ϱ.2 ⟨y,hyx,Z⟩))) c (by rw [hag];exact hc2)
    ·exact q3 x (υ.2 (.inr h)) c hc2
end
end Go.Proofs.YteifpcnphnhaoaaGreat
namespace Go.Proofs.YteifpcnphnhaoaaGreat
open Go.RowKit
set_option maxRecDepth 100000
def Gp (l:List Nat):Bool:=decide (l.length<2)
theorem W2 (l:List Nat) (hl:l.length≤100000):AO Tryz.prog 82 [.d (natsD l)] (Ai (Gp l)):=by
 refine BB Tryz.func82 Z Z Tryz.ntmps82 Z Z Z fun F hF=>(AC (AE (AB Z Z ?_)));refine AD (AC (AE (goMv Z Z (J (CO Z Tryz.underlying28 Z) (J (BR Z Z Z) (AB Z Z (AD (A8 ?_))))))));exact ⟨_,[],_,A6 Z,Z,Z,XL (by omega),Z⟩
def hdi (l:List Nat):Int:=((l.getD 0 0:Nat):Int)
theorem circ3_p (a b:List Nat) (ha:0<a.length) (hb:0<b.length) (hba:a.getD 0 0≤100000) (hbb:b.getD 0 0≤100000):AO Tryz.prog 84 [.d (natsD a),.d (natsD b)] (AF (hdi a - hdi b)):=by
 have ea:a.getD 0 0=a[0]:=by rw [ϖ,ω ha];rfl
 have eb:b.getD 0 0=b[0]:=by rw [ϖ,ω hb];rfl
 unfold hdi;rw [ea] at hba⊢;rw [eb] at hbb⊢;refine BB Tryz.func84 Z Z Tryz.ntmps84 Z Z Z fun F hF=>(AC (AE (AB Z Z (AD (AC (Ch [[],[0],[0,1],[],[3],[3,4],[0,1,2,3,4,5],[0,1,2,3,4,5,6]] mixed Z (Cq (AJ [0] [] Z Z (fun _=>AG (Ak Z Z)) ?_))))))));refine AJ [5] [] Z Z (fun _=>AG (Be (0) Z Z (Z) (Ah ha) Tryz.underlying28 Z BE Z)) (AJ [6] [] Z Z (fun _=>AG (Cr Z Z Aq Z)) (AJ [1] [] Z Z (fun _=>AG (Ak Z Z)) (AJ [8] [] Z Z (fun _=>AG (Be (0) Z Z (Z) (Ah hb) Tryz.underlying28 Z BE Z)) (AJ [9] [] Z Z (fun _=>AG (Cr Z Z Aq Z)) (C5 6 Z Z Z (Af 7 Z Z (J (LH Z Z (Ω _ (by omega)) Z) (AD ⟨Z,?_⟩))))))));refine Af 8 Z Z (AB Z Z (AD ⟨Z,?_⟩));refine C9 (A8 ?_);exact ⟨_,[],[],A6 Z,Z,Z,Z,Z⟩
theorem idxC_p (l:List (List Nat)) (hl:l.length≤100000) (hll:∀c∈l,c.length≤100000):AO Tryz.prog 135 [.d (.sl none (l.map natsD)),.d (.fn 82 [] [])] (AF (Nz Gp l)):=by
 refine BB Tryz.func135 Z Z Tryz.ntmps135 Z Z Z fun F hF=>(AC (AE (AB Z Z (AD ?_))));refine AC (AC (AE (goMv Z Z (J (CO Z Tryz.underlying29 Z) (goMv Z Z (AD (A5 (Gu (α:=Nat) (fun k=>⟨19,[(0,.d (.sl none (l.map natsD))),(1,.d (.fn 82 [] [])),(7,(.d (AF (l.length:Int)))),(8,(.d (AF (k:Int))))],[]⟩) (fun k=>k≤l.length∧∀x∈l.take k,Gp x=false) (fun k=>l.length - k) (0) (⟨ς _,by simp⟩) (ci ⟨Z,Z,Z,Z,trivial⟩) ?_))))))));rintro k ⟨hk0,hk⟩;refine AC (AE (J (BR Z Z Z) (AD (AC (Ae Z (fun h9=>?_) (fun h9=>?_))))))
 ·have hk1:k<l.length:=Bf h9;refine A3 (AC (A5 (AC (AE (goMv Z Z (AB Z Z (AD (AC ?_))))))));refine AE (goMv Z Z (goMv Z Z (goMv Z Z (J (Be (k) Z Z (Z) (Ah hk1) Tryz.underlying29 Z CZ Z) (J (Cr Z Z BH Z) (J (KY (W2 l[k] (hll _ (κ hk1))) Z Z) (AD (Ae Z (fun h16=>?_) (fun h16=>?_)))))))))
  ·refine AC (AE (goMv Z Z (AB Z Z (AD (A8 ?_)))));exact ⟨_,[],[],A6 Z,Z,Z,Ag (by unfold Nz;rw [Gl hk1 hk (by unfold Gp;simpa using h16)]),Z⟩
  ·refine A3 (AE (J (BA Z Z (AT (k+1) (by omega)) Z) (goMv Z Z (AD ?_))));exact ⟨k+1,⟨by show k+1≤_;omega,by rw [φ hk1];intro x hx;rcases υ.1 hx with hx | hx;exact hk x hx;rw [ξ.1 hx];unfold Gp;simpa using h16⟩,by show l.length - (k+1)<l.length - k;omega,⟨Z,Z,fun _ _=>Tk.get (l:=[(0,_),(1,_),(7,_),(8,_)]) ⟨Z,Z,Z,Z,trivial⟩⟩⟩
 ·refine BF (AC (AE (AB Z Z (AD (A8 ?_)))));exact ⟨_,[],[],A6 Z,Z,Z,Ag (by unfold Nz;rw [IW (fun x hx=>hk x (by rw [Θ (by have h:=h9;omega)];exact hx))]),Z⟩
def lgs (l:List (List Nat)):List (List Nat):=l.filter fun x=>!Gp x
theorem WE {l:List (List Nat)} (h:∀x∈l,Gp x=false):lgs l=l:=List.filter_eq_self.2 fun x hx=>by rw [h x hx];rfl
theorem lgs_in {l:List (List Nat)} {k:Nat} (hk:k<l.length) (h:Gp l[k]=false):lgs (l.take (k+1))=lgs (l.take k)++ [l[k]]:=by
 unfold lgs;rw [GN hk,θ (by rw [h];rfl)]
theorem WD {l:List (List Nat)} {k:Nat} (hk:k<l.length) (h:Gp l[k]=true):lgs (l.take (k+1))=lgs (l.take k):=by
 unfold lgs;rw [GN hk,ϑ (by rw [h];simp),ωk]
theorem ak (l:List (List Nat)):(lgs l).length≤l.length:=ωh _ _
def eO:Option (List Nat) ->D
 | some l=>natsD l
 | none=> .raw (.slice none 0 0)
theorem bm (l:List (List Nat)):l.map natsD=(l.map some).map eO:=by rw [ωu];rfl
theorem delC_c (l:List (List Nat)) (hl:l.length≤100000) (hll:∀c∈l,c.length≤100000):AM Tryz.prog 81 [.own 10 0 l.length,.d (.fn 82 [] [])] [(10,[.rowD 28 1 (l.map natsD)])] fun r H'=>r= .own 10 0 (lgs l).length∧H'=[(10,[.rowD 28 1 ((lgs l).map natsD++(List.replicate (l.length - (lgs l).length) none).map eO)])]:=by
 have hix:=idxC_p l hl hll
 cases hfi:l.findIdx? Gp with
 | none=>
  have hall:∀x∈l,Gp x=false:=fun x hx=>by have:=List.findIdx?_eq_none_iff.1 hfi x hx;simpa using this
  have hix2:Nz Gp l= -1:=by unfold Nz;rw [hfi]
  rw [hix2] at hix;have hkp:=WE hall;refine BB Tryz.func81 Z Z Tryz.ntmps81 Z Z Z fun F hF=>(AC (AE (AB Z Z (AD (AC (AE ?_))))));refine goMv Z Z (goMv Z Z (J (II [10] hix (by exact ⟨.inr ⟨_,_,Z,.own Z Z (by simp) (Θ (by simp)),Z⟩,.inl Z,trivial⟩) Z Z) (AB Z Z (AD (AC (AC (AE (goMv Z Z ?_))))))));refine J (JL Z Z Z) (AD (DP Z (Z) (AC (AE (goMv Z Z (AB Z Z (AD (A8 ?_))))))));exact ⟨_,[10],_,A6 Z,Z,Z,by rw [hkp],by rw [hkp];simp⟩
 | some k0=>
  obtain ⟨hk0,hk0p,hk0n⟩:=List.findIdx?_eq_some_iff_getElem.1 hfi;have hix2:Nz Gp l=(k0:Int):=by unfold Nz;rw [hfi]
  rw [hix2] at hix
  have hpre:∀x∈l.take k0,Gp x=false:=fun x hx=>by
   obtain ⟨j,hj,rfl⟩:=χr.1 hx;have:=hk0n j (by omega)
   simpa using this
  rw [bm l] at hix⊢;have hst:lgs (l.take (k0+1))=l.take k0:=by rw [WD hk0 hk0p,WE hpre]
  refine BB Tryz.func81 Z Z Tryz.ntmps81 Z Z Z fun F hF=>(AC ?_);refine AE (AB Z Z (AD (AC (AE (goMv Z Z (goMv Z Z (J (II [10] hix (by exact ⟨.inr ⟨_,_,Z,.own Z Z (by simp) (Θ (by simp)),Z⟩,.inl Z,trivial⟩) Z Z) (AB Z Z ?_))))))));refine AD (AC (AC (AE (goMv Z Z (J (JL Z Z Z) (AD (D9 Z ((ωp (by omega))) (A3 ?_))))))));refine AC (AC (AE (goMv Z Z (J (BA Z Z (AT (k0+1) (by omega)) Z) (AB Z Z (AD (A5 (B7 (α:=Nat×Nat×List (Option (List Nat))) (fun q=>⟨42,[(0,(.own 10 0 l.length)),(1,(.d (.fn 82 [] []))),(5,(.d (AF (q.1:Int)))),(6,(.d (AF (q.2.1:Int))))],[(10,[.rowD 28 1 (q.2.2.map eO)])]⟩) (fun q=>q.2.1≤l.length∧q.1<q.2.1∧q.2.2.length=l.length∧q.2.2.take q.1=(lgs (l.take q.2.1)).map some∧q.2.2.drop q.2.1=(l.drop q.2.1).map some) (fun q=>l.length - q.2.1) ((k0,k0+1,l.map some)) (⟨by show k0+1≤_;omega,χk _,by show (l.map some).length=_;simp,by show (l.map some).take k0=_;rw [hst,List.map_take],by show (l.map some).drop (k0+1)=_;rw [List.map_drop]⟩) (A1 hF [10] Z Z ⟨Z,Z,Z,Z,trivial⟩) ?_))))))));rintro ⟨i,j,c⟩ ⟨hj0,hij,hcl,hct,hcd⟩;dsimp only at hj0 hij hcl hct hcd⊢;refine AC (AC (AE (goMv Z Z (goMv Z Z (J (KO Z Tryz.underlying29 Z) (J (BR Z Z Z) (AD (Ae Z (fun h19=>?_) (fun h19=>?_)))))))))
  ·have hj1:j<l.length:=Bf h19;refine A3 (AC (A5 (AC (AE ?_))));have hjc:j<c.length:=by omega
   have hcj:c[j]=some l[j]:=by have h1:(c.drop j)[0]? =((l.drop j).map some)[0]?:=by {rw [hcd]};rw [χd,η,χd,χm,ω hjc,ω hj1] at h1;injection h1
   refine goMv Z Z (goMv Z Z (J (Bu (j) Z Z (Z) (hj1) Z Tryz.underlying29 CZ Z) (J (CA Z Z ((show (c.map eO)[j]? =some (natsD l[j]) from by rw [η,ω hjc,hcj];rfl)) Z BH Z) ?_)));refine AB Z Z ?_;refine AD (AC (AE (goMv Z Z (goMv Z Z (J (KY (W2 l[j] (hll _ (κ hj1))) Z Z) (J (Nu Z Z) (AD (Ae Z (fun h29=>?_) (fun h29=>?_)))))))))
   ·have hkj:Gp l[j]=false:=by unfold Gp;simpa using h29
    refine AC (AE (goMv Z Z (goMv Z Z (goMv Z Z (J (Bu (i) Z Z (Z) ((by omega)) Z Tryz.underlying29 CZ Z) (V (Fx (c) (some l[j]) Z Z Z Z Z Z (by omega) Z CZ) (AD (AE ?_))))))));refine goMv Z Z (J (BA Z Z (AT (i+1) (by omega)) Z) (AB Z Z (AD (AE (goMv Z Z (J (BA Z Z (AT (j+1) (by omega)) Z) (AB Z Z (AD ?_))))))));exact ⟨(i+1,j+1,_),⟨by show j+1≤_;omega,by show i+1<j+1;omega,by show (c.set i (some l[j])).length=_;rw [ψd];exact hcl,by show (c.set i (some l[j])).take (i+1)=(lgs (l.take (j+1))).map some;rw [lgs_in hj1 hkj,ωc,←hct,φ (by rw [ψd];omega),List.getElem_set_self,List.take_set_of_le (ν i)];rfl,by show (c.set i (some l[j])).drop (j+1)=(l.drop (j+1)).map some;rw [List.drop_set_of_lt (by omega),←List.tail_drop,←List.tail_drop,hcd,List.map_tail]⟩,by show l.length - (j+1)<l.length - j;omega,A1 hF [10] Z (Z) ⟨Z,Z,Z,Z,trivial⟩⟩
   ·have hkj:Gp l[j]=true:=by unfold Gp;simpa using h29
    refine A3 (AE (goMv Z Z (J (BA Z Z (AT (j+1) (by omega)) Z) (AB Z Z (AD ?_)))));exact ⟨(i,j+1,c),⟨by show j+1≤_;omega,by show i<j+1;omega,hcl,by show c.take i=(lgs (l.take (j+1))).map some;rw [WD hj1 hkj,hct],by show c.drop (j+1)=(l.drop (j+1)).map some;rw [←List.tail_drop,←List.tail_drop,hcd,List.map_tail]⟩,by show l.length - (j+1)<l.length - j;omega,A1 hF [10] Z (Z) ⟨Z,Z,Z,Z,trivial⟩⟩
  ·refine BF (AC ?_);have hje:j=l.length:=by have h:=h19;omega
   have hfin:c.take i=(lgs l).map some:=by rw [hct,hje,ωs]
   have hil:i=(lgs l).length:=by have h:=Γ List.length hfin;rw [Υ,ψ] at h;omega
   refine AE (goMv Z Z (goMv Z Z (Rt (emb:=eO) (zd:=none) c i Z Z Z Z hcl.symm Z (by omega) Tryz.underlying29 CZ Tryz.zeroValue28 Z Z Z Z Z Z ?_)));refine AD (AC (AE (goMv Z Z (goMv Z Z (J (DG (i) Z Z Z (by simp only [ψ,Δ,Υ,List.length_replicate];omega) Z Tryz.underlying29 CZ Z) (AB Z Z (AD (A8 ?_))))))));exact ⟨_,[10],_,A6 Z,Z,Z,by rw [←hil],by rw [hfin,hcl,hil,ωc,←bm]⟩
end Go.Proofs.YteifpcnphnhaoaaGreat
namespace Go.Proofs.YteifpcnphnhaoaaGreat
end Go.Proofs.YteifpcnphnhaoaaGreat
namespace Go.Proofs.YteifpcnphnhaoaaGreat
open Go.RowKit
def Melt (M:MF) (x y:D):Prop:=x=y∨∃h T zs,x=hdr h zs.length∧BJ M h T 1 zs∧(∀z∈zs,z.one=true)∧y= .sl none zs
theorem AQ.melt {F:Fr} {s:AS} {ρ:Nat ->Nat ->Value} {act:Act} {w:World} (hs:SR F s ρ act w) {f:Nat} {M:MF} {hp':Hp} (hM:hfam s.hp f=some [.multi M]) (hO1:∀b,F.O ρ hp' b ->F.O ρ s.hp b)
  (hO2:∀i o b,hget s.hp f i=some o ->B9 (ρ f i)=some b ->¬F.O ρ hp' b) {x y:D} {v:Value} (hm:Melt M x y) (hr:AQ w (F.O ρ hp') x v):AQ w (F.O ρ hp') y v:=by
 rcases hm with rfl | ⟨h,T,zs,rfl,hra,hz1,rfl⟩
 ·exact hr
 ·match h,hra with
  | none,hra=>
   have hra:zs=[]:=hra;subst hra
   cases hr with
   | raw _=>exact .sl 0 (fun b hb=>by cases hb) (fun _=>rfl) Z (ν _) (ς _) (fun x hx=>by cases hx) (fun h=>absurd Z h) (fun b o hb=>by cases hb)
  | some (b,c),hra=>
   obtain ⟨hle,hb⟩:=hra
   cases hr with
   | raw _=>
    obtain ⟨hρ,us,g1,g2,g3⟩:=hs.rowN hM hb;obtain ⟨a,cap,e,q1,q2,q3,q4⟩:=G6 g1;injection e with e1 e2 e3
    subst e1 e3
    have hc1:∀z∈zs,z.cells=[z]:=fun z hz=>by
     have h1:=hz1 z hz;have h2:=g2.2.1 z hz
     cases z with
     | agg cs=>simp [D.one] at h1
     | _=>rfl
    refine .sl 1 (fun b hb=>by cases hb) (fun h=>by cases h) Z q1 q2 (fun z hz=>by rw [hc1 z hz];rfl) (fun _=>⟨b,0,Z⟩) (fun b' o hb' i z hi=>?_);injection hb' with hb'
    injection hb' with hb1 hb2
    subst hb1 hb2;have hil:i<zs.length:=(χ.1 hi).1;obtain ⟨b2,cur,r1,r2,r3,r4⟩:=q4 (by omega);injection r1 with r1
    injection r1 with r1
    subst r1;have hlt:b<w.heap.size:=(ωr.1 r2).1
    have hex:∀(q:Nat) c,z.cells[q]? =some c ->∃u,w.cell? ⟨b,0+i*1+q,none⟩=some u∧AQ w (F.O ρ hp') c u:=fun q c' hc=>by
     obtain ⟨u,d1,d2,d3⟩:=g2.2.2 i z hi q c' hc;exact ⟨u,by rw [ψq];exact DW r2 r4 d1,d3.mono (ν _) (fun _ _ _=>rfl) fun b _=>hO1 b⟩
    refine .ptr (fun q=>(w.cell? ⟨b,0+i*1+q,none⟩).getD undef) hlt (hO2 b _ b (by rw [Ft hM,hb];rfl) (by rw [hρ];rfl)) (g3 z (ζ hi)) (fun q c' hc=>?_) (fun q c' hc=>?_)
    ·obtain ⟨u,d1,_⟩:=hex q c' hc;rw [d1];rfl
    ·obtain ⟨u,d1,d2⟩:=hex q c' hc;rw [d1];exact d2
theorem SR.melt {F:Fr} {s:AS} {ρ:Nat ->Nat ->Value} {act:Act} {w:World} (hs:SR F s ρ act w) (g i f:Nat) {M:MF} {T:TypeId} {xs ys:List D} {env':List (Nat×AV)} {hp1 hp2 hp':Hp} (hM:hfam s.hp f=some [.multi M])
  (hE:AZ f s.env=some env') (hH:AX f s.hp=some hp1) (hh:CD f hp1=some hp2) (ho:hget hp2 g i=some (.rowD T 1 xs)) (hlen:ys.length=xs.length)
  (hxy:∀(j:Nat) x y,xs[j]? =some x ->ys[j]? =some y ->Melt M x y) (h1:(∀x∈xs,x.one=true)∧∀y∈ys,y.one=true) (hset:BN hp2 g i (.rowD T 1 ys)=some hp'):SR F ⟨s.n,env',hp'⟩ ρ act w:=by
 obtain ⟨h2,hO1,hO2⟩:=hs.forget f hE hH hh (fun j t cs e=>by
  rw [Ft hM] at e
  cases hm:M j with
  | none=>rw [hm] at e;cases e
  | some m=>rw [hm] at e;injection e with e;exact Ad.notBlk e)
 have hone:∀z:D,z.one=true ->z.cells=[z]:=fun z hz=>by
  cases z with
  | agg cs=>simp [D.one] at hz
  | _=>rfl
 refine h2.write g i (.rowD T 1 xs) (.rowD T 1 ys) ho (Am hset) Z Z Z Z (fun _ _=>rfl) (fun _ _ e=>by cases e) fun hrep=>?_;obtain ⟨us,k1,k2,k3⟩:=h2.heap.sim g i _ ho;refine ⟨us,by rw [hlen];exact k1,⟨by rw [hlen];exact k2.1,fun y hy=>by rw [hone y (h1.2 y hy)];rfl,fun j y hj q c hc=>?_⟩,fun y hy c hc=>by rw [hone y (h1.2 y hy),ξ] at hc;rw [hc];exact h1.2 y hy⟩;have hjl:j<xs.length:=by rw [←hlen];exact (χ.1 hj).1
 have hx:xs[j]? =some xs[j]:=ω hjl;rw [hone y (h1.2 y (ζ hj))] at hc
 cases q with
 | succ q=>cases hc
 | zero=>
  injection hc with hc
  subst hc;obtain ⟨u,d1,d2,d3⟩:=k2.2.2 j _ hx 0 _ (by rw [hone _ (h1.1 _ (κ hjl))];rfl);refine ⟨u,d1,d2,?_⟩;have h3:=AQ.melt hs hM hO1 hO2 (hxy j _ _ hx hj) d3;have h4:=hrep (.d y) u (.d h3)
  cases h4 with | d h4=>exact h4
section
variable {P:Program} {F:Fr} {Q:Exit ->AS ->Prop} {c:Code} {n:Nat} {env env':List (Nat×AV)} {hp hp1 hp2 hp':Hp}
theorem c7 (g i f:Nat) {M:MF} {T:TypeId} {xs:List D} (ys:List D) (hM:hfam hp f=some [.multi M])
  (hE:AZ f env=some env') (hH:AX f hp=some hp1) (hh:CD f hp1=some hp2) (ho:hget hp2 g i=some (.rowD T 1 xs)) (hlen:ys.length=xs.length)
  (hxy:∀(j:Nat) x y,xs[j]? =some x ->ys[j]? =some y ->Melt M x y) (h1:(∀x∈xs,x.one=true)∧∀y∈ys,y.one=true) (hset:BN hp2 g i (.rowD T 1 ys)=some hp') (h:Bq P F c Q ⟨n,env',hp'⟩):Bq P F c Q ⟨n,env,hp⟩:=
 fun ρ act w hs=>h ρ act w (hs.melt g i f hM hE hH hh ho hlen hxy h1 hset)
end
theorem SR.weakRow {F:Fr} {s:AS} {ρ:Nat ->Nat ->Value} {act:Act} {w:World} (hs:SR F s ρ act w) (g i:Nat) {T:TypeId} {xs ys:List D} {hp':Hp} (ho:hget s.hp g i=some (.rowD T 1 xs)) (hlen:ys.length=xs.length)
  (hxy:∀(j:Nat) x y,xs[j]? =some x ->ys[j]? =some y ->∀w O v,AQ w O x v ->AQ w O y v) (h1:(∀x∈xs,x.one=true)∧∀y∈ys,y.one=true) (hset:BN s.hp g i (.rowD T 1 ys)=some hp'):SR F ⟨s.n,s.env,hp'⟩ ρ act w:=by
 have hone:∀z:D,z.one=true ->z.cells=[z]:=fun z hz=>by
  cases z with
  | agg cs=>simp [D.one] at hz
  | _=>rfl
 refine hs.write g i (.rowD T 1 xs) (.rowD T 1 ys) ho (Am hset) Z Z Z Z (fun _ _=>rfl) (fun _ _ e=>by cases e) fun hrep=>?_;obtain ⟨us,k1,k2,k3⟩:=hs.heap.sim g i _ ho;refine ⟨us,by rw [hlen];exact k1,⟨by rw [hlen];exact k2.1,fun y hy=>by rw [hone y (h1.2 y hy)];rfl,fun j y hj q c hc=>?_⟩,fun y hy c hc=>by rw [hone y (h1.2 y hy),ξ] at hc;rw [hc];exact h1.2 y hy⟩;have hjl:j<xs.length:=by rw [←hlen];exact (χ.1 hj).1
 have hx:xs[j]? =some xs[j]:=ω hjl;rw [hone y (h1.2 y (ζ hj))] at hc
 cases q with
 | succ q=>cases hc
 | zero=>
  injection hc with hc
  subst hc;obtain ⟨u,d1,d2,d3⟩:=k2.2.2 j _ hx 0 _ (by rw [hone _ (h1.1 _ (κ hjl))];rfl);refine ⟨u,d1,d2,?_⟩;have h4:=hrep (.d y) u (.d (hxy j _ _ hx hj _ _ _ d3))
  cases h4 with | d h4=>exact h4
section
variable {P:Program} {F:Fr} {Q:Exit ->AS ->Prop} {c:Code} {n:Nat} {env:List (Nat×AV)} {hp hp':Hp}
theorem P9 (g i:Nat) {T:TypeId} {xs:List D} (ys:List D) (ho:hget hp g i=some (.rowD T 1 xs)) (hlen:ys.length=xs.length)
  (hxy:∀(j:Nat) x y,xs[j]? =some x ->ys[j]? =some y ->∀w O v,AQ w O x v ->AQ w O y v) (h1:(∀x∈xs,x.one=true)∧∀y∈ys,y.one=true) (hset:BN hp g i (.rowD T 1 ys)=some hp') (h:Bq P F c Q ⟨n,env,hp'⟩):Bq P F c Q ⟨n,env,hp⟩:=
 fun ρ act w hs=>h ρ act w (hs.weakRow g i ho hlen hxy h1 hset)
end
structure Lk (M:MF) (n:Nat) (hs:Nat ->Hd) (ls:Nat ->List Nat):Prop where
 at_:∀j,j<n ->BJ M (hs j) 3 1 ((ls j).map AN)
 inj:∀j k b c c',j<n ->k<n ->hs j=some (b,c) ->hs k=some (b,c') ->j=k
abbrev rowH (n:Nat) (hs:Nat ->Hd) (ls:Nat ->List Nat):List D:=(List.range n).map fun j=>hdr (hs j) (ls j).length
theorem JU {n j:Nat} {hs:Nat ->Hd} {ls:Nat ->List Nat} (h:j<n):(rowH n hs ls)[j]? =some (hdr (hs j) (ls j).length):=by simp [h]
theorem Ex (n:Nat) (hs:Nat ->Hd) (ls:Nat ->List Nat):(rowH n hs ls).length=n:=by simp
theorem R0 {n j:Nat} {hs:Nat ->Hd} {ls:Nat ->List Nat} {h:Hd} {l:List Nat}:(rowH n hs ls).set j (hdr h l.length)=rowH n (At hs j h) (At ls j l):=
 Lp (fun i _ hne=>by rw [GS hne,GS hne]) (by rw [KK,KK])
theorem Lk.zero (n:Nat):Lk (fun _=>none) n (fun _=>none) (fun _=> []):=⟨fun _ _=>rfl,fun _ _ _ _ _ _ _ h=>by cases h⟩
theorem Lk.app {M:MF} {n j:Nat} {hs:Nat ->Hd} {ls:Nat ->List Nat} (h:Lk M n hs ls) (hj:j<n) {l:List Nat} {b c:Nat} (hb:B6 M (hs j) b=none) (hc:(l.map AN).length≤c):
  Lk (BQ (B6 M (hs j)) b (.row 3 1 c (l.map AN))) n (At hs j (some (b,c))) (At ls j l):=by
 have hne:∀k,k<n ->k≠j ->∀b' c',hs k=some (b',c') ->b'≠b∧BQ (B6 M (hs j)) b (.row 3 1 c (l.map AN)) b'=M b':=by
  intro k hk hkj b' c' e;have h1:=h.at_ k hk;rw [e] at h1;have h2:∀c'',hs j≠some (b',c''):=fun c'' e2=>hkj (h.inj k j b' c' c'' hk hj e e2);refine ⟨fun e3=>?_,?_⟩
  ·subst e3;have:=It h1.2 h2;rw [hb] at this;cases this
  ·rw [keepM hb h1.2 h2,h1.2]
 refine ⟨fun k hk=>?_,fun k k' b1 c1 c2 hk hk' e1 e2=>?_⟩
 ·by_cases e:k=j
  ·subst e;rw [KK,KK];exact ⟨hc,E2 _ _ _⟩
  ·rw [GS e,GS e];have h1:=h.at_ k hk
   match hh:hs k,h1 with
   | none,h1=>exact h1
   | some (b',c'),h1=>exact ⟨h1.1,by rw [(hne k hk e b' c' hh).2];exact h1.2⟩
 ·by_cases ek:k=j<;>by_cases ek':k'=j
  ·rw [ek,ek']
  ·subst ek;rw [KK] at e1;rw [GS ek'] at e2;injection e1 with e1;injection e1 with e1 _;subst e1
   exact ((hne k' hk' ek' _ _ e2).1 Z).elim
  ·subst ek';rw [KK] at e2;rw [GS ek] at e1;injection e2 with e2;injection e2 with e2 _;subst e2
   exact ((hne k hk ek _ _ e1).1 Z).elim
  ·rw [GS ek] at e1;rw [GS ek'] at e2;exact h.inj k k' b1 c1 c2 hk hk' e1 e2
def bT (n:Nat) (ls:Nat ->List Nat):List (List Nat):=(List.range n).map ls
theorem T7 (n:Nat) (ls:Nat ->List Nat):(bT n ls).length=n:=by simp [bT]
theorem S9 {n i:Nat} {ls:Nat ->List Nat} (h:i<n):sucs (bT n ls) i=ls i:=by
 rw [DT (by rw [T7];exact h)];simp [bT]
theorem Lk.melt {M:MF} {n:Nat} {hs:Nat ->Hd} {ls:Nat ->List Nat} (h:Lk M n hs ls):∀(j:Nat) x y,(rowH n hs ls)[j]? =some x ->((bT n ls).map natsD)[j]? =some y ->Melt M x y:=by
 intro j x y hx hy;have hj:j<n:=by have:=(χ.1 hx).1;rwa [Ex] at this
 rw [JU hj] at hx;injection hx with hx
 rw [Sb (by rw [T7];exact hj),S9 hj] at hy;injection hy with hy
 subst hx hy;exact .inr ⟨hs j,3,(ls j).map AN,by rw [ψ],h.at_ j hj,fun z hz=>by obtain ⟨a,_,rfl⟩:=ϱ.1 hz;rfl,Z⟩
theorem J3 (n:Nat) (hs:Nat ->Hd) (ls:Nat ->List Nat):∀x∈rowH n hs ls,x.one=true:=fun x hx=>by
 obtain ⟨a,_,rfl⟩:=ϱ.1 hx;rfl
theorem Zz (g:List (List Nat)):∀x∈g.map natsD,x.one=true:=fun x hx=>by
 obtain ⟨a,_,rfl⟩:=ϱ.1 hx;rfl
theorem Ry (n:Nat):∀(j:Nat) x y,(List.replicate n (D.sl (some true) []))[j]? =some x ->(rowH n (fun _=>none) (fun _=> []))[j]? =some y ->∀w O v,AQ w O x v ->AQ w O y v:=by
 intro j x y hx hy w O v hr;have hj:j<n:=by have:=(χ.1 hx).1;rwa [List.length_replicate] at this
 rw [JU hj] at hy;injection hy with hy
 have hx':x=D.sl (some true) []:=by rw [List.getElem?_replicate,θ hj] at hx;injection hx with hx;exact hx.symm
 subst hx' hy;exact hr.nrm1
theorem Ve (n:Nat):∀x∈List.replicate n (D.sl (some true) []),x.one=true:=fun x hx=>by rw [(List.mem_replicate.1 hx).2];rfl
theorem grd_ex (g:List (List Nat)) (K:Nat ->Nat):∃out,Ql g K out∧∀y,¬Cd g out y:=by
 have key:∀(m:Nat) (l:List Nat),Ql g K l ->g.length - l.length≤m ->∃out,Ql g K out∧∀y,¬Cd g out y:=by
  intro m
  induction m with
  | zero=>
   intro l hl hm;refine ⟨l,hl,fun y hy=>?_⟩;obtain ⟨h1,h2⟩:=IT hl;have:=cb (φc.2 ⟨hy.2.1,h1⟩) (m:=List.range g.length) fun x hx=>Ξ.2 ((Ψ.1 hx).elim (fun e=>e▸hy.1) (h2 x));rw [ψo,ωg] at this;omega
  | succ m ih=>
   intro l hl hm
   by_cases he:∃y,Cd g l y
   ·have hmin:∀(b:Nat) y,Cd g l y ->K y≤b ->∃x,Cd g l x∧∀z,Cd g l z ->K x≤K z:=by
     intro b
     induction b with
     | zero=>intro y hy hb;exact ⟨y,hy,fun z _=>by omega⟩
     | succ b ihb=>
      intro y hy hb
      by_cases h2:∃z,Cd g l z∧K z≤b
      ·obtain ⟨z,hz,hzb⟩:=h2;exact ihb z hz hzb
      ·exact ⟨y,hy,fun z hz=>by
        have:¬K z≤b:=fun h=>h2 ⟨z,hz,h⟩
        omega⟩
    obtain ⟨y,hy⟩:=he;obtain ⟨x,hx,hxm⟩:=hmin (K y) y hy (ν _);refine ih (l++ [x]) (S8 hl hx hxm) ?_;rw [Δ,Φ];omega
   ·exact ⟨l,hl,fun y hy=>he ⟨y,hy⟩⟩
 exact key _ [] (fun i hi=>by simp at hi) (ν _)
theorem Kb (g:List (List Nat)) (K:Nat ->Nat):Ql g K (ordG g K)∧∀y,¬Cd g (ordG g K) y:=Classical.epsilon_spec (p:=fun out=>Ql g K out∧∀y,¬Cd g out y) (grd_ex g K)
theorem ordG_lt {g:List (List Nat)} {K:Nat ->Nat} {k:Nat} (h:k<(ordG g K).length):nth (ordG g K) k<g.length:=(IT (Kb g K).1).2 _ (Cs h)
theorem Zx (g:List (List Nat)) (K:Nat ->Nat):(ordG g K).length≤g.length:=by
 obtain ⟨h1,h2⟩:=IT (Kb g K).1;have:=cb h1 (m:=List.range g.length) fun x hx=>Ξ.2 (h2 x hx)
 rwa [ωg] at this
def lfT (of:Nat ->Nat) (n:Nat):Nat ->Nat ->Nat
 | 0=>fun _=>0
 | d+1=>At (lfT of n d) (of (n - 1 - d)) (n - 1 - d)
theorem Hi (of:Nat ->Nat) (n:Nat):∀d,d≤n ->∀c,(∃v,n - d≤v∧v<n∧of v=c) ->of (lfT of n d c)=c∧lfT of n d c<n∧∀v,n - d≤v ->v<n ->of v=c ->lfT of n d c≤v
 | 0,_,c,⟨v,h1,h2,_⟩=>by omega
 | d+1,hd,c,⟨v,h1,h2,h3⟩=>by
  unfold lfT
  by_cases e:c=of (n - 1 - d)
  ·subst e;rw [KK];exact ⟨Z,by omega,fun v hv _ _=>by omega⟩
  ·rw [GS e];have hv:v≠n - 1 - d:=fun e2=>e (by rw [←h3,e2]);obtain ⟨q1,q2,q3⟩:=Hi of n d (by omega) c ⟨v,by omega,h2,h3⟩;refine ⟨q1,q2,fun u hu hun hc=>q3 u ?_ hun hc⟩;have:u≠n - 1 - d:=fun e2=>e (by rw [←hc,e2]);omega
def Th (of:Nat ->Nat) (n cnt:Nat):List Nat:=(List.range cnt).map (lfT of n n)
theorem MA {of:Nat ->Nat} {n cnt c:Nat} (h:c<cnt):nth (Th of n cnt) c=lfT of n n c:=by
 unfold Th;rw [Nt (by simpa using h)];simp
theorem lfL_len (of:Nat ->Nat) (n cnt:Nat):(Th of n cnt).length=cnt:=by simp [Th]
theorem Z2 (n:Nat) (f:Nat ->Nat):rowN n f=((List.range n).map f).map AN:=by rw [ωu];rfl
theorem lf_inj {n cnt:Nat} {suc:Nat ->List Nat} {of:Nat ->Nat} (h:SccOf n suc of cnt):∀a b,a<cnt ->b<cnt ->nth (Th of n cnt) a=nth (Th of n cnt) b ->a=b:=by
 intro a b ha hb e;rw [MA ha,MA hb] at e;obtain ⟨v,hv,hv2⟩:=h.use a ha;obtain ⟨u,hu,hu2⟩:=h.use b hb;have h1:=(Hi of n n (ν _) a ⟨v,by omega,hv,hv2⟩).1;have h2:=(Hi of n n (ν _) b ⟨u,by omega,hu,hu2⟩).1;rw [←h1,e,h2]
def WV (of:Nat ->Nat) (a:Nat) (l:List Nat):List Nat:=(l.filter fun x=>decide (of a≠of x)).map of
def Lh (g:List (List Nat)) (of:Nat ->Nat) (i k c:Nat):List Nat:=((List.range i).flatMap fun a=>if of a=c then WV of a (sucs g a) else [])++if of i=c then WV of i ((sucs g i).take k) else []
theorem bi (g:List (List Nat)) (of:Nat ->Nat):Lh g of 0 0=fun _=> []:=by funext c;simp [Lh,WV]
theorem WS (g:List (List Nat)) (of:Nat ->Nat) (i:Nat):Lh g of i (sucs g i).length=Lh g of (i+1) 0:=by
 funext c
 unfold Lh;rw [ωs,ψj,List.flatMap_append]
 simp [WV]
theorem Sq {of:Nat ->Nat} {a k:Nat} {l:List Nat} (hk:k<l.length):WV of a (l.take (k+1))=WV of a (l.take k)++if of a≠of (nth l k) then [of (nth l k)] else []:=by
 unfold WV;rw [φ hk,ψa,ωc,Nt hk]
 congr 1
 by_cases h:of a≠of l[k]
 ·rw [θ h,List.filter_cons_of_pos (by simpa using h)];rfl
 ·rw [ϑ h,List.filter_cons_of_neg (by simpa using h)];rfl
theorem bj {g:List (List Nat)} {of:Nat ->Nat} {i k:Nat} (hk:k<(sucs g i).length) (h:of i≠of (nth (sucs g i) k)):At (Lh g of i k) (of i) (Lh g of i k (of i)++ [of (nth (sucs g i) k)])=Lh g of i (k+1):=by
 funext c
 by_cases e:c=of i
 ·subst e;rw [KK];unfold Lh;rw [θ Z,θ Z,Sq hk,θ h,ψl]
 ·rw [GS e];unfold Lh;rw [ϑ fun h=>e h.symm,ϑ fun h=>e h.symm]
theorem bk {g:List (List Nat)} {of:Nat ->Nat} {i k:Nat} (hk:k<(sucs g i).length) (h:¬of i≠of (nth (sucs g i) k)):Lh g of i k=Lh g of i (k+1):=by
 funext c
 unfold Lh;rw [Sq hk,ϑ h,ωk]
def HT (g:List (List Nat)) (i:Nat):Nat:=((List.range i).map fun a=>(sucs g a).length).sum
theorem WU (of:Nat ->Nat) (a:Nat) (l:List Nat):(WV of a l).length≤l.length:=by unfold WV;rw [ψ];exact ωh _ _
theorem WT (g:List (List Nat)) (of:Nat ->Nat) (i k c:Nat):(Lh g of i k c).length≤HT g i+((sucs g i).take k).length:=by
 have key:∀m,((List.range m).flatMap fun a=>if of a=c then WV of a (sucs g a) else []).length≤HT g m:=by
  intro m
  induction m with
  | zero=>exact ς _
  | succ m ih=>
   unfold HT at ih⊢;rw [ψj,List.flatMap_append,Δ,ωc,χa,List.flatMap_singleton,φd,List.sum_singleton];refine Nat.add_le_add ih ?_
   split
   ·exact WU _ _ _
   ·exact ς _
 unfold Lh;rw [Δ];refine Nat.add_le_add (key i) ?_
 split
 ·exact WU _ _ _
 ·exact ς _
theorem O2 (g:List (List Nat)) {i j:Nat} (h:i≤j):HT g i≤HT g j:=by
 induction j with
 | zero=>
  have:i=0:=by omega
  subst this;exact ν _
 | succ j ih=>
  by_cases e:i=j+1
  ·subst e;exact ν _
  ·have:=ih (by omega);have h2:HT g (j+1)=HT g j+(sucs g j).length:=by unfold HT;rw [ψj,ωc,χa];simp
   omega
structure GT (g:List (List Nat)):Prop where
 gb:GB g
 tot:HT g g.length≤1048576
def KA (g:List (List Nat)) (of:Nat ->Nat) (cnt:Nat):List (List Nat):=bT cnt (Lh g of g.length 0)
theorem edG_gb {g:List (List Nat)} {of:Nat ->Nat} {cnt:Nat} (hg:GT g) (h:SccOf g.length (sucs g) of cnt):GB (KA g of cnt):=by
 have hn:=hg.gb.n;have hle:=h.le;refine ⟨by rw [KA,T7];omega,fun l hl=>?_,fun l hl x hx=>?_⟩
 ·obtain ⟨c,_,rfl⟩:=ϱ.1 hl;have:=WT g of g.length 0 c;have:=hg.tot
  simp at*;omega
 ·obtain ⟨c,_,rfl⟩:=ϱ.1 hl;rw [KA,T7]
  have key:∀a l,a<g.length ->(∀x∈l,x<g.length) ->x∈WV of a l ->x<cnt:=fun a l _ hl hx=>by
   unfold WV at hx;obtain ⟨y,hy,rfl⟩:=ϱ.1 hx;exact h.lt y (hl y (ωb.1 hy).1)
  unfold Lh at hx;rcases υ.1 hx with hx | hx
  ·obtain ⟨a,ha,hx⟩:=χs.1 hx
   split at hx
   ·exact key a _ (Ξ.1 ha) (fun y hy=>hg.gb.suc (Ξ.1 ha) hy) hx
   ·cases hx
  ·rw [List.take_zero] at hx
   split at hx
   ·simp [WV] at hx
   ·cases hx
def DM (seq:List Nat):Nat ->Nat ->Nat
 | 0=>fun _=>0
 | k+1=>At (DM seq k) (nth seq k) k
theorem Vs (seq:List Nat) {cnt:Nat} (h0:0<cnt) (hs:seq.length≤cnt):∀k,k≤seq.length ->∀c,DM seq k c<cnt
 | 0,_,c=>h0
 | k+1,hk,c=>by
  unfold DM
  by_cases e:c=nth seq k
  ·subst e;rw [KK];omega
  ·rw [GS e];exact Vs seq h0 hs k (by omega) c
noncomputable def conS (g:List (List Nat)) (of:Nat ->Nat) (cnt:Nat):List Nat:=ordG (KA g of cnt) (nth (Th of g.length cnt))
noncomputable def conM (g:List (List Nat)) (of:Nat ->Nat) (cnt:Nat):Nat ->Nat:=DM (conS g of cnt) (conS g of cnt).length
def FA (no:Nat ->Nat) (i c:Nat):List Nat:=(List.range i).filter fun v=>decide (no v=c)
def ofT (of no:Nat ->Nat) (i v:Nat):Nat:=if v<i then no v else of v
theorem XU (no:Nat ->Nat) (i:Nat):At (FA no i) (no i) (FA no i (no i)++ [i])=FA no (i+1):=by
 funext c
 by_cases e:c=no i
 ·subst e;rw [KK];unfold FA;rw [ψj,ψa,List.filter_cons_of_pos (by simp)];rfl
 ·rw [GS e];unfold FA;rw [ψj,ψa,List.filter_cons_of_neg (by simpa using fun h=>e h.symm)];simp
theorem Zv (no:Nat ->Nat) (i c:Nat):(FA no i c).length≤i:=by
 unfold FA;exact ωe (ωh _ _) (by simp)
theorem aF (of no:Nat ->Nat) (i:Nat):At (ofT of no i) i (no i)=ofT of no (i+1):=by
 funext v
 by_cases e:v=i
 ·subst e;rw [KK,ofT,θ (by omega)]
 ·rw [GS e];unfold ofT
  by_cases h:v<i
  ·rw [θ h,θ (by omega)]
  ·rw [ϑ h,ϑ (by omega)]
structure CN (n:Nat) (suc:Nat ->List Nat) (no:Nat ->Nat) (cnt:Nat):Prop where
 lt:∀v,v<n ->no v<cnt
 scc:∀i j,i<n ->j<n ->(no i=no j↔Rh suc i j∧Rh suc j i)
 use:∀c,c<cnt ->∃v,v<n∧no v=c
 top:∀u v,u<n ->v<n ->v∈suc u ->no u≤no v
 mn:∀c,c<cnt ->∀i,i<n ->c≤no i ->(∀k,k<n ->c≤no k ->Rh suc k i ->Rh suc i k) ->∃j,j<n∧no j=c∧j≤i
theorem CN.rh {n:Nat} {suc:Nat ->List Nat} {no:Nat ->Nat} {cnt:Nat} (h:CN n suc no cnt) (hs:∀v,v<n ->∀y∈suc v,y<n) {u v:Nat} (hu:u<n) (hr:Rh suc u v):v<n∧no u≤no v:=by
 induction hr with
 | refl=>exact ⟨hu,ν _⟩
 | step _ e ih=>
  have h2:=hs _ ih.1 _ e;exact ⟨h2,ωe ih.2 (h.top _ _ ih.1 h2 e)⟩
theorem CN.crit {n:Nat} {suc:Nat ->List Nat} {no:Nat ->Nat} {cnt:Nat} (h:CN n suc no cnt) (hs:∀v,v<n ->∀y∈suc v,y<n) {c i:Nat} (hi:i<n) (hc:no i=c):∀k,k<n ->c≤no k ->Rh suc k i ->Rh suc i k:=fun k hk hck hr=>by
 have:=(h.rh hs hk hr).2;exact ((h.scc i k hi hk).1 (by omega)).1
theorem exmin (p:Nat ->Prop):∀(m x:Nat),p x ->x≤m ->∃y,p y∧∀z,p z ->y≤z:=by
 intro m
 induction m with
 | zero=>intro x hx hm;exact ⟨x,hx,fun z _=>by omega⟩
 | succ m ih=>
  intro x hx hm
  by_cases h:∃y,p y∧y≤m
  ·obtain ⟨y,hy,hym⟩:=h;exact ih y hy hym
  ·exact ⟨x,hx,fun z hz=>by
    have:¬z≤m:=fun h2=>h ⟨z,hz,h2⟩
    omega⟩
theorem Nf {n:Nat} {suc:Nat ->List Nat} {no no':Nat ->Nat} {cnt cnt':Nat} (h:CN n suc no cnt) (h':CN n suc no' cnt') (hs:∀v,v<n ->∀y∈suc v,y<n):
  ∀c,c≤cnt ->c≤cnt' ->∀v,v<n ->∀d,d<c ->(no v=d↔no' v=d)
 | 0,_,_,v,_,d,hd=>by omega
 | c+1,h1,h2,v,hv,d,hd=>by
  have ih:=Nf h h' hs c (by omega) (by omega)
  by_cases e:d<c
  ·exact ih v hv d e
  ·have e:d=c:=by omega
   subst e
   have hge:∀v,v<n ->(d≤no v↔d≤no' v):=fun v hv=>by
    constructor
    ·intro h3;rcases χl (no' v) d with h4 | h4
     ·have:=(ih v hv _ h4).2 rfl;omega
     ·exact h4
    ·intro h3;rcases χl (no v) d with h4 | h4
     ·have:=(ih v hv _ h4).1 rfl;omega
     ·exact h4
   obtain ⟨x,hx,hxd⟩:=h.use d (by omega);obtain ⟨i,⟨hi,hid⟩,him⟩:=exmin (fun y=>y<n∧no y=d) x x ⟨hx,hxd⟩ (ν _);obtain ⟨j,hj,hjd,hji⟩:=h'.mn d (by omega) i hi ((hge i hi).1 (by omega)) fun k hk hck hr=>h.crit hs hi hid k hk ((hge k hk).2 hck) hr;obtain ⟨i2,hi2,hi2d,hi2j⟩:=h.mn d (by omega) j hj ((hge j hj).2 (by omega)) fun k hk hck hr=>h'.crit hs hj hjd k hk ((hge k hk).1 hck) hr;have:=him i2 ⟨hi2,hi2d⟩;have hij:i=j:=by omega
   subst hij;rw [←hid,h.scc v i hv hi,hid,←hjd,h'.scc v i hv hi]
theorem cn_uniq {n:Nat} {suc:Nat ->List Nat} {no no':Nat ->Nat} {cnt cnt':Nat} (h:CN n suc no cnt) (h':CN n suc no' cnt') (hs:∀v,v<n ->∀y∈suc v,y<n):cnt=cnt'∧∀v,v<n ->no v=no' v:=by
 have key:∀{no no':Nat ->Nat} {cnt cnt':Nat},CN n suc no cnt ->CN n suc no' cnt' ->cnt≤cnt':=by
  intro no no' cnt cnt' h h';rcases χl cnt' cnt with hlt | hge
  ·obtain ⟨v,hv,hvc⟩:=h.use cnt' hlt;have h1:=h'.lt v hv;have:=(Nf h h' hs cnt' (by omega) (ν _) v hv (no' v) h1).2 rfl;omega
  ·exact hge
 have e:cnt=cnt':=Nat.le_antisymm (key h h') (key h' h);subst e;exact ⟨Z,fun v hv=>((Nf h h' hs cnt (ν _) (ν _) v hv (no' v) (h'.lt v hv)).2 Z)⟩
theorem QZ {g:List (List Nat)} {of:Nat ->Nat} {cnt c x:Nat} (hc:c<cnt):x∈sucs (KA g of cnt) c↔∃a,a<g.length∧of a=c∧∃y∈sucs g a,of a≠of y∧of y=x:=by
 rw [KA,S9 hc];unfold Lh WV;rw [List.take_zero];simp only [List.filter_nil,List.map_nil,ite_self,ωk,χs,Ξ]
 constructor
 ·rintro ⟨a,ha,hx⟩
  split at hx
  ·rename_i e
   obtain ⟨y,hy,rfl⟩:=ϱ.1 hx;obtain ⟨hy1,hy2⟩:=ωb.1 hy;exact ⟨a,ha,e,y,hy1,ψk hy2,Z⟩
  ·cases hx
 ·rintro ⟨a,ha,e,y,hy,hne,rfl⟩;refine ⟨a,ha,?_⟩;rw [θ e];exact ϱ.2 ⟨y,ωb.2 ⟨hy,ωi hne⟩,Z⟩
theorem Vt {seq:List Nat} (hn:seq.Nodup):∀m,m≤seq.length ->∀k,k<m ->DM seq m (nth seq k)=k
 | 0,_,k,hk=>by omega
 | m+1,hm,k,hk=>by
  unfold DM
  by_cases e:k=m
  ·subst e;rw [KK]
  ·rw [GS,Vt hn m (by omega) k (by omega)];rw [Nt (by omega),Nt (by omega)];intro e2;exact e ((List.getElem_inj hn).1 e2)
theorem con_all {g:List (List Nat)} (hg:GB g) {of:Nat ->Nat} {cnt:Nat} (h:SccOf g.length (sucs g) of cnt) {K:Nat ->Nat} {seq:List Nat} (hm:∀y,¬Cd (KA g of cnt) seq y):∀c,c<cnt ->c∈seq:=by
 let Rc:Nat ->Nat ->Prop:=fun d c=>∃u v,u<g.length∧v<g.length∧of u=d∧of v=c∧Rh (sucs g) u v
 have dec:∀c,DecidablePred fun d=>Rc d c:=fun c d=>Classical.propDecidable _
 let f:Nat ->Nat:=fun c=>((List.range cnt).filter fun d=> @decide (Rc d c) (dec c d)).length
 have hstep:∀k c,k<cnt ->c∈sucs (KA g of cnt) k ->f k<f c:=by
  intro k c hk hc;obtain ⟨a,ha,rfl,y,hy,hne,rfl⟩:=(QZ hk).1 hc;have hyl:=hg.suc ha hy
  have:=cb (l:=of y::(List.range cnt).filter fun d=> @decide (Rc d (of a)) (dec (of a) d)) (m:=(List.range cnt).filter fun d=> @decide (Rc d (of y)) (dec (of y) d)) (φc.2 ⟨fun hm=>by
   obtain ⟨_,h2⟩:=ωb.1 hm;obtain ⟨u,v,hu,hv,e1,e2,hr⟩:= @of_decide_eq_true _ (dec _ _) h2;have h3:=(h.scc u y hu hyl).1 e1;have h4:=(h.scc v a hv ha).1 e2
   exact hne ((h.scc a y ha hyl).2 ⟨Rh.one hy,h3.2.trans (hr.trans h4.1)⟩),List.nodup_range.filter _⟩) (fun x hx=>by
   rcases Ψ.1 hx with rfl | hx
   ·exact ωb.2 ⟨Ξ.2 (h.lt y hyl), @decide_eq_true _ (dec _ _) ⟨y,y,hyl,hyl,Z,Z,.refl y⟩⟩
   ·obtain ⟨h1,h2⟩:=ωb.1 hx;obtain ⟨u,v,hu,hv,e1,e2,hr⟩:= @of_decide_eq_true _ (dec _ _) h2;have h4:=(h.scc v a hv ha).1 e2
    exact ωb.2 ⟨h1, @decide_eq_true _ (dec _ _) ⟨u,y,hu,hyl,e1,Z,hr.trans (h4.1.trans (Rh.one hy))⟩⟩)
  rw [ψo] at this;exact this
 have key:∀(m c:Nat),f c≤m ->c<cnt ->c∈seq:=by
  intro m
  induction m with
  | zero=>
   intro c hf hc;refine Classical.byContradiction fun hn=>hm c ⟨by rw [KA,T7];exact hc,hn,fun k hk _ hin=>?_⟩;rw [KA,T7] at hk;have:=hstep k c hk hin;omega
  | succ m ih=>
   intro c hf hc;refine Classical.byContradiction fun hn=>hm c ⟨by rw [KA,T7];exact hc,hn,fun k hk hkn hin=>?_⟩;rw [KA,T7] at hk;exact hkn (ih k (by have:=hstep k c hk hin;omega) hk)
 exact fun c hc=>key (f c) c (ν _) hc
theorem Um {g:List (List Nat)} (hg:GT g) {of:Nat ->Nat} {cnt:Nat} (h:SccOf g.length (sucs g) of cnt):CN g.length (sucs g) (fun v=>conM g of cnt (of v)) cnt:=by
 obtain ⟨h1,h2⟩:=Kb (KA g of cnt) (nth (Th of g.length cnt));have hsq:ordG (KA g of cnt) (nth (Th of g.length cnt))=conS g of cnt:=rfl;rw [hsq] at h1 h2;have hM:∀c,conM g of cnt c=DM (conS g of cnt) (conS g of cnt).length c:=fun _=>rfl;have hall:=con_all hg.gb h (K:=nth (Th of g.length cnt)) h2;obtain ⟨hnd,hlt⟩:=IT h1;have hEl:(KA g of cnt).length=cnt:=by rw [KA,T7]
 rw [hEl] at hlt
 obtain ⟨seq,hseq⟩:∃seq,conS g of cnt=seq:=⟨_,Z⟩
 rw [hseq] at h1 h2 hall hnd hlt;simp only [hseq] at hM
 have hlen:seq.length=cnt:=Nat.le_antisymm (by have:=cb hnd (m:=List.range cnt) fun x hx=>Ξ.2 (hlt x hx);rwa [ωg] at this)
  (by have:=cb (List.nodup_range (n:=cnt)) (m:=seq) fun x hx=>hall x (Ξ.1 hx);rwa [ωg] at this)
 have hat:∀k,k<cnt ->conM g of cnt (nth seq k)=k:=fun k hk=>by rw [hM];exact Vt hnd _ (ν _) k (by omega)
 have hpos:∀c,c<cnt ->∃k,k<cnt∧nth seq k=c∧conM g of cnt c=k:=fun c hc=>by
  obtain ⟨k,hk,rfl⟩:=χb.1 (hall c hc);exact ⟨k,by omega,Nt hk,by rw [←Nt hk];exact hat k (by omega)⟩
 have hnin:∀c d,c<cnt ->c≤conM g of cnt d ->d<cnt ->d∉seq.take c:=fun c d hc hcd hd hm=>by
  obtain ⟨k,hk,e⟩:=χb.1 hm;rw [Υ] at hk;rw [List.getElem_take,←Nt (by omega)] at e;rw [←e,hat k (by omega)] at hcd;omega
 refine ⟨fun v hv=>?_,fun i j hi hj=>?_,fun c hc=>?_,fun u v hu hv he=>?_,fun c hc i hi hci hcr=>?_⟩
 ·obtain ⟨k,hk,_,e⟩:=hpos (of v) (h.lt v hv);show conM g of cnt (of v)<cnt;omega
 ·rw [←h.scc i j hi hj]
  constructor
  ·intro e;obtain ⟨k,_,e1,e2⟩:=hpos (of i) (h.lt i hi);obtain ⟨m,_,e3,e4⟩:=hpos (of j) (h.lt j hj);have e:conM g of cnt (of i)=conM g of cnt (of j):=e;rw [←e1,←e3,show k=m by omega]
  ·intro e;show conM g of cnt (of i)=conM g of cnt (of j);rw [e]
 ·obtain ⟨v,hv,e⟩:=h.use (nth seq c) (hlt _ (Cs (by omega)));exact ⟨v,hv,by show conM g of cnt (of v)=c;rw [e];exact hat c hc⟩
 ·show conM g of cnt (of u)≤conM g of cnt (of v)
  by_cases e:of u=of v
  ·rw [e];exact ν _
  ·obtain ⟨p,hp,e1,e2⟩:=hpos (of v) (h.lt v hv);have hav:=(h1 p (by omega)).1;rw [e1] at hav;have hin:of u∈seq.take p:=Classical.byContradiction fun hn=>hav.2.2 (of u) (by rw [hEl];exact h.lt u hu) hn ((QZ (h.lt u hu)).2 ⟨u,hu,Z,v,he,e,Z⟩);obtain ⟨k,hk,e3⟩:=χb.1 hin;rw [Υ] at hk;rw [List.getElem_take,←Nt (by omega)] at e3;rw [←e3,hat k (by omega),e2];omega
 ·have hci:c≤conM g of cnt (of i):=hci
  have hav:Cd (KA g of cnt) (seq.take c) (of i):=by
   refine ⟨by rw [hEl];exact h.lt i hi,hnin c _ hc hci (h.lt i hi),fun k hk hkn hin=>?_⟩;rw [hEl] at hk;obtain ⟨a,ha,rfl,y,hy,hne,hyi⟩:=(QZ hk).1 hin;have hyl:=hg.gb.suc ha hy
   have hca:c≤conM g of cnt (of a):=by
    rcases χl (conM g of cnt (of a)) c with hl | hl
    ·obtain ⟨m,hm,e1,e2⟩:=hpos (of a) (h.lt a ha);exact (hkn (χb.2 ⟨m,by rw [Υ];omega,by rw [List.getElem_take,←Nt (by omega)];exact e1⟩)).elim
    ·exact hl
   have hyi2:=(h.scc y i hyl hi).1 hyi;have hai:Rh (sucs g) a i:=(Rh.one hy).trans hyi2.1;have:=(h.scc a i ha hi).2 ⟨hai,hcr a ha hca hai⟩;exact hne (by rw [this,hyi])
  have hK:=(h1 c (by omega)).2 _ hav;have hcc:nth seq c<cnt:=hlt _ (Cs (by omega));rw [MA hcc,MA (h.lt i hi)] at hK;obtain ⟨v,hv,hvc⟩:=h.use _ hcc;obtain ⟨q1,q2,_⟩:=Hi of g.length g.length (ν _) (nth seq c) ⟨v,by omega,hv,hvc⟩;obtain ⟨_,_,q3⟩:=Hi of g.length g.length (ν _) (of i) ⟨i,by omega,hi,Z⟩;exact ⟨_,q2,by show conM g of cnt (of _)=c;rw [q1];exact hat c hc,ωe hK (q3 i (by omega) hi Z)⟩
abbrev SX (l:List Int):D:= .sl none (l.map AF)
abbrev grI (g:List (List Int)):D:= .sl none (g.map SX)
def KV (g:List (List Int)) (i:Nat):Nat:=((g.take i).map List.length).sum
def YH (n:Nat) (l:List Int):Prop:=∃x∈l,¬(0≤x∧x<(n:Int))
instance (n:Nat) (l:List Int):Decidable (YH n l):=inferInstanceAs (Decidable (∃x∈l,¬(0≤x∧x<(n:Int))))
def TN (g:List (List Int)):Int:=if 65536<g.length∨1048576<KV g g.length then 8 else if ∃l∈g,YH g.length l then 2 else 0
theorem KU {g:List (List Int)} {i:Nat} (h:i<g.length):KV g (i+1)=KV g i+g[i].length:=by
 unfold KV;rw [φ h,ωc,χa];simp
theorem VJ {g:List (List Int)} (h:∀l∈g,l.length≤2000000):∀i,i≤g.length ->KV g i≤i*2000000
 | 0,_=>by simp [KV]
 | i+1,hi=>by
  have:=VJ h i (by omega);have:=h g[i] (κ (by omega));rw [KU (by omega)];omega
theorem getI {l:List Int} {k:Nat} (h:k<l.length):(l.map AF)[k]? =some (AF l[k]):=Ah h
theorem getgI {g:List (List Int)} {i:Nat} (h:i<g.length):(g.map SX)[i]? =some (SX g[i]):=Ah h
theorem chk8 {g:List (List Int)} (h:65536<g.length∨1048576<KV g g.length):(8:Int)=TN g:=by unfold TN;rw [θ h]
theorem chk2 {g:List (List Int)} (h1:¬65536<g.length) (h2:¬1048576<KV g g.length) (h:∃l∈g,YH g.length l):(2:Int)=TN g:=by
 unfold TN;rw [ϑ (fun h=>h.elim h1 h2),θ h]
theorem chk0 {g:List (List Int)} (h1:¬65536<g.length) (h2:¬1048576<KV g g.length) (h:¬∃l∈g,YH g.length l):(0:Int)=TN g:=by
 unfold TN;rw [ϑ (fun h=>h.elim h1 h2),ϑ h]
set_option maxRecDepth 100000 in
theorem cN (g:List (List Int)) (hn:g.length≤1000000) (hl:∀l∈g,l.length≤2000000):AO Tryz.prog 133 [.d (grI g)] (AF (TN g)):=by
 refine BB Tryz.func133 Z Z Tryz.ntmps133 Z Z Z fun F hF=>(AC (AE (AB Z Z (AD (AC (AE (AB Z Z (AD ?_))))))));refine AC (AC (AE (goMv Z Z (J (I5 Z (ψ ..) Tryz.underlying147 Z) (goMv Z Z (AD (A5 (Gu (α:=Nat) (fun k=>⟨50,[(0,.d (grI g)),(3,(.d (AN (KV g k)))),(10,(.d (grI g))),(11,(.d (AN g.length))),(12,(.d (AN k)))],[]⟩) (fun k=>k≤g.length) (fun k=>g.length - k) (0) (ς _) (ci ⟨Z,Z,Z,Z,Z,trivial⟩) ?_))))))));intro k hk;refine AC (AE (J (BR Z Z Z) (AD (AC (Ae Z (fun h13=>?_) (fun h13=>?_))))))
 ·refine A3 (AC (A5 (AC ?_)));have hkl:k<g.length:=Bf h13;have htl:=VJ hl k (by omega);have hll:=hl _ (κ hkl);have hts:=KU hkl;refine AE (J (Be (k) Z Z (Z) (getgI hkl) Tryz.underlying147 Z CZ Z) (J (Cr Z Z BH Z) (AB Z Z (AD (AE (goMv Z Z (goMv Z Z ?_)))))));refine J (I5 Z (ψ ..) Tryz.underlying28 Z) (J (BA Z Z (Ω _ (by omega)) Z) (Ir 19 (.d (AN (KV g (k+1)))) Z (eqv (Γ AF (by omega))) (AB Z Z (AD (AE (J (BA Z Z (Ω _ (by omega)) Z) (goMv Z Z (AD ?_))))))));exact ⟨k+1,by omega,by omega,⟨Z,Z,fun _ _=>Tk.get (l:=[(0,_),(3,_),(10,_),(11,_),(12,_)]) ⟨Z,Z,Z,Z,Z,trivial⟩⟩⟩
 ·refine BF (AC (AC ?_));have hke:k=g.length:=by have:=h13;omega
  subst hke;refine AE (goMv Z Z (J (I5 Z (ψ ..) Tryz.underlying147 Z) (J (MO Z Z Z) (goMv Z Z (Ia 24 Z (fun h24=>?_) (fun h24=>?_))))))
  ·refine Aa Z Z Z Z ?_;refine Aa Z Z Z Z (J (FO Z Z Z Z) (AD (DP Z Z (AC (AE (AB Z Z (AD (A8 ?_))))))));exact ⟨_,[],[],A6 Z,Z,Z,eqv (Γ AF (chk8 (by omega))),Z⟩
  ·refine Aj Z Z Z (goMv Z Z (Aj Z Z Z (J (MO Z Z Z) (J (Da Z Z Z Z) (AD (Ae Z (fun h27=>?_) (fun h27=>?_)))))))
   ·refine AC (AE (AB Z Z (AD (A8 ?_))));exact ⟨_,[],[],A6 Z,Z,Z,eqv (Γ AF (chk8 (by omega))),Z⟩
   ·refine A3 (AC (AC ?_));have hc1:¬65536<g.length:=by omega
    have hc2:¬1048576<KV g g.length:=by omega
    refine AE (goMv Z Z (J (I5 Z (ψ ..) Tryz.underlying147 Z) (goMv Z Z (AD (A5 (Gu (α:=Nat) (fun i=>⟨50,[(0,.d (grI g)),(28,(.d (grI g))),(29,(.d (AN g.length))),(30,(.d (AN i)))],[]⟩) (fun i=>i≤g.length∧∀l∈g.take i,¬YH g.length l) (fun i=>g.length - i) (0) (⟨ς _,fun l hl=>by simp at hl⟩) (ci ⟨Z,Z,Z,Z,trivial⟩) ?_))))));rintro i ⟨hi,hb⟩;refine AC (AE (J (BR Z Z Z) (AD (AC (Ae Z (fun h31=>?_) (fun h31=>?_))))))
    ·refine A3 (AC (A5 (AC ?_)));have hil:i<g.length:=Bf h31;have hll:=hl _ (κ hil);refine AE (J (Be (i) Z Z (Z) (getgI hil) Tryz.underlying147 Z CZ Z) (J (Cr Z Z BH Z) (AB Z Z ?_)));refine AD (AC (AE (goMv Z Z (J (I5 Z (ψ ..) Tryz.underlying28 Z) (goMv Z Z (AD (A5 (Gu (α:=Nat) (fun j=>⟨50,[(0,.d (grI g)),(28,(.d (grI g))),(29,(.d (AN g.length))),(30,(.d (AN i))),(34,(.d (SX g[i]))),(35,(.d (AN g[i].length))),(36,(.d (AN j)))],[]⟩) (fun j=>j≤g[i].length∧∀x∈g[i].take j,0≤x∧x<(g.length:Int)) (fun j=>g[i].length - j) (0) (⟨ς _,fun x hx=>by simp at hx⟩) (ci ⟨Z,Z,Z,Z,Z,Z,Z,trivial⟩) ?_))))))));rintro j ⟨hj,hx⟩;refine AC (AE (J (BR Z Z Z) (AD (AC (Ae Z (fun h37=>?_) (fun h37=>?_))))))
     ·refine A3 (AC (A5 (AC ?_)));have hjl:j<g[i].length:=Bf h37;refine AE (J (Be (j) Z Z (Z) (getI hjl) Tryz.underlying28 Z BE Z) ?_);refine J (Cr Z Z Aq Z) (AB Z Z (AD (AC (AE (goMv Z Z (J (BR Z Z Z) (goMv Z Z (Ia 42 Z (fun h42=>?_) (fun h42=>?_)))))))))
      ·refine Aa Z Z Z Z (Aa Z Z Z Z (Aa Z Z Z Z ?_));refine Aa Z Z Z Z (J (FO Z Z Z Z) (AD (DP Z Z (AC (AE (AB Z Z (AD (A8 ?_))))))));exact ⟨_,[],[],A6 Z,Z,Z,eqv (Γ AF (chk2 hc1 hc2 ⟨g[i],κ hil,g[i][j],κ hjl,by omega⟩)),Z⟩
      ·refine Aj Z Z Z (goMv Z Z ?_);refine Aj Z Z Z (goMv Z Z (Aj Z Z Z (J (I5 Z (ψ ..) Tryz.underlying147 Z) (Aj Z Z Z (J (ES Z Z Z) (J (Da Z Z Z Z) (AD (Ae Z (fun h47=>?_) (fun h47=>?_)))))))))
       ·refine AC (AE (AB Z Z (AD (A8 ?_))));exact ⟨_,[],[],A6 Z,Z,Z,eqv (Γ AF (chk2 hc1 hc2 ⟨g[i],κ hil,g[i][j],κ hjl,by omega⟩)),Z⟩
       ·refine A3 (AE (J (BA Z Z (Ω _ (by omega)) Z) (goMv Z Z (AD ?_))));exact ⟨j+1,⟨by omega,fun x hxm=>by rw [φ hjl] at hxm;exact (υ.1 hxm).elim (hx x) fun e=>by rw [ξ.1 e];exact ⟨by omega,by omega⟩⟩,by omega,⟨Z,Z,fun _ _=>Tk.get (l:=[(0,_),(28,_),(29,_),(30,_),(34,_),(35,_),(36,_)]) ⟨Z,Z,Z,Z,Z,Z,Z,trivial⟩⟩⟩
     ·refine BF ?_;have hje:j=g[i].length:=by have:=h37;omega
      have hrow:¬YH g.length g[i]:=fun ⟨x,hx1,hx2⟩=>hx2 (hx x (by rw [hje,ωs];exact hx1));refine AE (J (BA Z Z (Ω _ (by omega)) Z) (goMv Z Z (AD ?_)));exact ⟨i+1,⟨by omega,fun l hlm=>by rw [φ hil] at hlm;exact (υ.1 hlm).elim (hb l) fun e=>by rw [ξ.1 e];exact hrow⟩,by omega,⟨Z,Z,fun _ _=>Tk.get (l:=[(0,_),(28,_),(29,_),(30,_)]) ⟨Z,Z,Z,Z,trivial⟩⟩⟩
    ·refine BF (AC (AE (AB Z Z (AD (A8 ?_)))));have hie:i=g.length:=by have:=h31;omega
     exact ⟨_,[],[],A6 Z,Z,Z,eqv (Γ AF (chk0 hc1 hc2 (fun ⟨l,hl1,hl2⟩=>hb l (by rw [hie,ωs];exact hl1) hl2))),Z⟩
theorem VM {n:Nat} {suc:Nat ->List Nat} {r:Nat} {S:TS} {cs0:List (Nat×Nat)} {v k:Nat} (h:TB n suc r S cs0 v k) (hk:k=(suc v).length) (hl:S.low v≠S.idx v):
  ∃cs1 u ku,cs0=cs1++ [(u,ku)]∧TH n suc r {S with low:=At S.low u (min (S.low u) (S.low v)),cs:=cs0} none:=by
 subst hk;have hv:=Ij h;have hle:=(h.ti.lw v hv.2.1).1;obtain ⟨cs1,u,ku,e,ht⟩:=ti_pop1 h.ti h.hcs (by omega);exact ⟨cs1,u,ku,e,ht,h.k1,h.old,.inl h.rt⟩
theorem VL {n:Nat} {suc:Nat ->List Nat} {r:Nat} {S:TS} {cs0:List (Nat×Nat)} {v k:Nat} {st1 st2:List Nat} (h:TB n suc r S cs0 v k) (hk:k=(suc v).length) (hl:S.low v=S.idx v) (hst:S.st=st1++v::st2):
  TH n suc r {S with of:=fun x=>if x∈v::st2 then (S.cnt:Int) else S.of x,st:=st1,cs:=cs0,cnt:=S.cnt+1} none∧∀cs1 u ku,cs0=cs1++ [(u,ku)] ->At S.low u (min (S.low u) (S.low v))=S.low:=by
 subst hk;obtain ⟨h1,h2⟩:=ti_pop2 h.ti h.hcs hl hst;refine ⟨⟨h2,h.k1,h.old,.inl h.rt⟩,fun cs1 u ku e=>funext fun x=>?_⟩
 by_cases ex:x=u
 ·subst ex;have:=h1 (x,ku) (by rw [e];exact ψh _ (ξ.2 Z));rw [KK];dsimp only at this;omega
 ·rw [GS ex]
theorem Yo {n:Nat} {suc:Nat ->List Nat} {r:Nat} {S:TS} {cs1:List (Nat×Nat)} {v k u ku:Nat} (h:TB n suc r S (cs1++ [(u,ku)]) v k):u<n∧v≠u:=by
 have hm:(u,ku)∈S.cs:=by rw [h.hcs];exact ψn _ (ψh _ (ξ.2 Z))
 refine ⟨h.ti.lt u ((h.ti.st u).1 (h.ti.csm _ hm)).1,fun e=>?_⟩;have hp:=h.ti.css;rw [h.hcs] at hp;have:=(H5 hp).2 (u,ku) (ψh _ (ξ.2 Z));rw [e] at this;exact χx _ this
theorem JN {n:Nat} {suc:Nat ->List Nat} {S:TS} {p:Option Nat} {v:Nat} {st1 st2:List Nat} (h:TI n suc S p) (hst:S.st=st1++v::st2):v∉st2:=by
 have hp:=h.srt;rw [hst,List.pairwise_append] at hp;intro hm;exact χx _ ((ψy.1 hp.2.1).1 v hm)
theorem getF2 {l m j:List (Nat×Nat)} {x:Nat×Nat} {k:Nat} (h:k=l.length):((l++ [x]++m++j).map Sd)[k]? =some (Sd x):=by
 subst h;simp
theorem getW {a c j:List Nat} {w k:Nat} (h:k=(a++c).length):((a++(c++ [w])++j).map AN)[k]? =some (AN w):=by
 subst h;rw [show a++(c++ [w])++j=(a++c)++(w::j) by simp,ωc,ωq (by simp)]
 simp
theorem Vm {n w:Nat} {f:Nat ->Int} {c:Nat} {dn:List Nat}:(Df n (fun x=>if x∈dn then (c:Int) else f x)).set w (AN c)=Df n (fun x=>if x∈w::dn then (c:Int) else f x):=by
 refine Lp (fun j _ hne=>?_) ?_
 ·dsimp only
  by_cases e:j∈dn
  ·rw [θ e,θ (ωn _ e)]
  ·rw [ϑ e,ϑ fun h=>(Ψ.1 h).elim hne e]
 ·dsimp only;rw [θ (ωo ..)]
theorem JZ {v w:Nat} {c0 dn st2:List Nat} (h:c0++ [w]++dn=v::st2) (hw:w≠v):c0++w::dn=v::st2∧c0≠ []:=by
 refine ⟨by simpa using h,fun e=>?_⟩;subst e
 simp at h
 exact hw h.1
theorem Lr {v w:Nat} {c0 dn st2:List Nat} (h:c0++ [w]++dn=v::st2) (hw:w=v) (hv:v∉st2):c0=[]∧dn=st2:=by
 subst hw
 cases c0 with
 | nil=>simp at h;exact ⟨Z,h⟩
 | cons a c=>
  simp at h
  exact (hv (by rw [←h.2];simp)).elim
theorem Ej {α:Type} {l:List α} (h:l≠ []):∃a b,l=a++ [b]:=by
 rcases List.eq_nil_or_concat l with e | ⟨a,b,e⟩
 ·exact (h e).elim
 ·exact ⟨a,b,by rw [e,List.concat_eq_append]⟩
end Go.Proofs.YteifpcnphnhaoaaGreat
