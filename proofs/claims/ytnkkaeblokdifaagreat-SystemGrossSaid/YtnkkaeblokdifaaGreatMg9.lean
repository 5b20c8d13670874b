/- Typed rows: append; loops that let families go. No program in sight. -/
import Derived.Test.YtnkkaeblokdifaaGreatMg8
import Derived.Lib.Strings
namespace Go.Proofs.YtnkkaeblokdifaaGreat
open Go.RowKit
def AS.LeP (F:Fr) (s s':AS):Prop:=s'.n=s.n∧(∃nm l,F.pn=l∧IY l nm=true∧An s.hp nm=some s'.hp)∧∀t a,get s'.env t=some a ->get s.env t=some a
theorem SR.leP {F:Fr} {s s':AS} {ρ:Nat ->Nat ->Value} {act:Act} {w:World} (h:SR F s ρ act w) (hl:s.LeP F s'):SR F s' ρ act w:=by
 obtain ⟨h1,⟨nm,l,h2,h3,h4⟩,h5⟩:=hl;have h6:=h.only nm h2 h3 h4;refine ⟨h1▸h6.size,h6.defs,fun t a ha=>h6.env t a (h5 t a ha),h6.heap⟩
section
variable {P:Program} {F:Fr} {Q:Exit ->AS ->Prop} {s:AS} {c:Code}
theorem Bt.leP {s':AS} (h:Bt P F c Q s') (hl:s.LeP F s'):Bt P F c Q s:=fun ρ act w hs=>h ρ act w (hs.leP hl)
theorem BA {n:Nat} {env l:List (Nat×AV)} {hp hp':Hp} {pn:List Nat} (hF:F.pn=pn) (nm:List Nat) (h1:IY pn nm=true) (h2:An hp nm=some hp') (h:N2 env l):AS.LeP F ⟨n,env,hp⟩ ⟨n,l,hp'⟩:=⟨rfl,⟨nm,pn,hF,h1,h2⟩,fun _ _=>h.get⟩
theorem DG {α:Type} (σ:α ->AS) (I:α ->Prop) (μ:α ->Nat) (a0:α) (h0:I a0) (hs:s.LeP F (σ a0))
  (round:∀a,I a ->Bt P F c (Then (fun s'=>∃a',I a'∧μ a'<μ a∧s'.LeP F (σ a')) Q) (σ a)):Bt P F (.loop c) Q s:=by
 refine Bt.leP ?_ hs
 let R:AS ->Prop:=fun s'=>∃a,I a∧s'=σ a
 refine fun ρ act w hsr=>?_
 have key:∀n a,μ a=n ->I a ->∀ρ act w,SR F (σ a) ρ act w ->(Code.loop c).wpIn (Oi F.rnd) 0 P (RJ F Q) act w:=by
  intro n a _ hI ρ act w hsr;refine wpIn_loop (fun act w=>∃a ρ,I a∧SR F (σ a) ρ act w) (fun act w=>Classical.epsilon fun m=>∃a ρ,I a∧SR F (σ a) ρ act w∧μ a=m∧∀a' ρ',I a' ->SR F (σ a') ρ' act w ->m≤μ a') ⟨a,ρ,hI,hsr⟩ ?_;intro act w hI
  have hmin:∀act w,(∃a ρ,I a∧SR F (σ a) ρ act w) ->∃m,∃a ρ,I a∧SR F (σ a) ρ act w∧μ a=m∧∀a' ρ',I a' ->SR F (σ a') ρ' act w ->m≤μ a':=fun act w ⟨a,ρ,h1,h2⟩=>by
   have hw:∀n a ρ,μ a=n ->I a ->SR F (σ a) ρ act w ->∃m,∃a ρ,I a∧SR F (σ a) ρ act w∧μ a=m∧∀a' ρ',I a' ->SR F (σ a') ρ' act w ->m≤μ a':=by
    intro n
    induction n using Nat.strongRecOn with
    | _ n ih=>
     intro a ρ hn h1 h2
     by_cases hex:∃a' ρ',I a'∧SR F (σ a') ρ' act w∧μ a'<n
     ·obtain ⟨a',ρ',h3,h4,h5⟩:=hex;exact ih _ h5 a' ρ' rfl h3 h4
     ·refine ⟨n,a,ρ,h1,h2,hn,fun a' ρ' h3 h4=>?_⟩;rcases Nat.lt_or_ge (μ a') n with h5 | h5
      ·exact absurd ⟨a',ρ',h3,h4,h5⟩ hex
      ·exact h5
   exact hw _ a ρ rfl h1 h2
  obtain ⟨a,ρ,h1,h2,h3,h4⟩:=Classical.epsilon_spec (hmin act w hI);refine Go.wpIn_mono (round a h1 ρ act w h2) fun e act' w' ⟨s',ρ',h5,h6⟩=>?_
  cases e with
  | normal=>
   obtain ⟨a',h7,h8,h9⟩:=h5
   have hex:∃a ρ,I a∧SR F (σ a) ρ act' w':=⟨a',ρ',h7,h6.leP h9⟩
   refine ⟨hex,?_⟩;obtain ⟨_,_,_,_,_,h13⟩:=Classical.epsilon_spec (hmin act' w' hex);have h14:=h13 a' ρ' h7 (h6.leP h9);exact Nat.lt_of_le_of_lt h14 (by rw [←h3];exact h8)
  | _=>exact ⟨s',ρ',h5,h6⟩
 exact key _ a0 rfl h0 ρ act w hsr
end
section
variable {P:Program} {F:Fr} {s:AS} {d:Nat} {ty T T2 E:TypeId} {pos:String} {aft:Array Edge} {g:Option (Nat×Bool)} {x y:Operand} {α:Type} {emb:α ->D}
theorem If (l l2:List α) {f j n kk by_ f2 j2 m:Nat} {xs ys:List D} {env':List (Nat×AV)} {hp1 hp':List (Nat×List AQ)} (hx:s.ev x=some (.own f j n)) (ho:hget s.hp f j=some (.rowD E kk xs)) (hl:xs=l.map emb) (hn:n=l.length)
  (hy:s.ev y=some (.own f2 j2 m)) (ho2:hget s.hp f2 j2=some (.rowD E kk ys)) (hl2:ys=l2.map emb) (hm:m=l2.length)
  (S:SlTy P T E kk by_) (hb:(l.length+l2.length)*by_≤140737488355328) (hE:Ad f s.env=some env') (hH:A7 f s.hp=some hp1) (hh:Bn hp1 f j (.rowD E kk ((l++l2).map emb))=some hp') (hd:Nat.blt d s.n=true):
  AR P F ⟨some d,.call {callee:= .builtin .append,args:= #[x,y],argTypes:= #[T,T]},ty,pos,aft,g⟩ s ⟨s.n,(d,.own f j (l++l2).length)::env',hp'⟩ (Bj f):=by
 subst hn hm hl hl2;have h:=S2 (ty:=ty) (pos:=pos) (aft:=aft) (g:=g) (F:=F) (zs:=(l++l2).map emb) hx hy ho (by simp) ho2 rfl (by simp) S hb hE hH (by rw [List.take_of_length_le (by simp),List.take_of_length_le (by simp),List.map_append]) hh hd;rw [←List.length_append] at h;exact h
theorem LD (l l2:List α) {f j n kk by_:Nat} {nil:Option Bool} {xs ys:List D} {env':List (Nat×AV)} {hp1 hp':List (Nat×List AQ)} (hx:s.ev x=some (.own f j n)) (ho:hget s.hp f j=some (.rowD E kk xs)) (hl:xs=l.map emb) (hn:n=l.length)
  (hy:s.ev y=some (.d (.sl nil ys))) (hl2:ys=l2.map emb) (hk:∀a,(emb a).cells.length=kk)
  (S:SlTy P T E kk by_) (hb:(l.length+l2.length)*by_≤140737488355328) (hE:Ad f s.env=some env') (hH:A7 f s.hp=some hp1) (hh:Bn hp1 f j (.rowD E kk ((l++l2).map emb))=some hp') (hd:Nat.blt d s.n=true):
  AR P F ⟨some d,.call {callee:= .builtin .append,args:= #[x,y],argTypes:= #[T,T]},ty,pos,aft,g⟩ s ⟨s.n,(d,.own f j (l++l2).length)::env',hp'⟩ (Bj f):=by
 subst hn hl hl2;have h:=S3 (ty:=ty) (pos:=pos) (aft:=aft) (g:=g) (F:=F) (m:=l2.length) (zs:=(l++l2).map emb) hx hy ho (by simp) S (fun z hz=>by obtain ⟨a,_,rfl⟩:=List.mem_map.1 hz;exact hk a) (by simp) hb hE hH (by rw [List.take_of_length_le (by simp),List.map_append]) hh hd;rw [←List.length_append] at h;exact h
end
section
variable {P:Program} {F:Fr} {s:AS} {d:Nat} {ty T E:TypeId} {pos:String} {aft:Array Edge} {g:Option (Nat×Bool)} {x lo hi:Operand} {α:Type} {emb:α ->D} {nil:Option Bool} {xs:List D} {kk:Nat}
theorem LI (l:List α) (k:Nat) {kl:IntKind} {il:Int} (hx:s.ev x=some (.d (.sl nil xs))) (hxs:xs=l.map emb) (hhi:s.ev hi=some (.d (.raw (.int kl il)))) (hl:il=(k:Int)) (h1:k≤l.length) (hT:P.underlying T=some (.slice E)) (hE:A6 P E kk=true) (hk:∀a,(emb a).cells.length=kk) (hd:Nat.blt d s.n=true):
  AA P F ⟨some d,.slice T x none (some hi) none,ty,pos,aft,g⟩ s d (.d (.sl nil ((l.take k).map emb))):=by
 subst hxs;exact SV k hx hhi hl (by simpa using h1) hT hE (fun e he=>by obtain ⟨a,_,rfl⟩:=List.mem_map.1 he;exact hk a) (by rw [List.map_take]) hd
end
section
variable {P:Program} {F:Fr} {s:AS} {d:Nat} {ty T T':TypeId} {pos:String} {aft:Array Edge} {g:Option (Nat×Bool)} {x y:Operand}
theorem strEq (a b:List UInt8):((⟨a.toArray⟩:ByteArray).toList=(⟨b.toArray⟩:ByteArray).toList)↔a=b:=by
 rw [Lib.toList_data,Lib.toList_data]
theorem Cy {b:List UInt8} (hx:s.ev x=some (.d (Am b))) (hT:P.underlying T=some .string) (hd:Nat.blt d s.n=true):AA P F ⟨some d,.call {callee:= .builtin .len,args:= #[x],argTypes:= #[T]},ty,pos,aft,g⟩ s d (.d (.raw (.int .i64 (b.length:Int)))):=Cw hx hT hd
theorem E9 {a b:List UInt8} (hx:s.ev x=some (.d (Am a))) (hy:s.ev y=some (.d (Am b))) (hd:Nat.blt d s.n=true):AA P F ⟨some d,.binOp .eql T x y T',ty,pos,aft,g⟩ s d (.d (.raw (.bool (decide (a=b))))):=by
 have h:=EV (P:=P) (F:=F) (T:=T) (T':=T') (ty:=ty) (pos:=pos) (aft:=aft) (g:=g) hx hy hd
 rwa [show decide ((⟨a.toArray⟩:ByteArray).toList=(⟨b.toArray⟩:ByteArray).toList)=decide (a=b) by rw [decide_eq_decide];exact strEq a b] at h
theorem F9 {a b:List UInt8} (hx:s.ev x=some (.d (Am a))) (hy:s.ev y=some (.d (Am b))) (hd:Nat.blt d s.n=true):AA P F ⟨some d,.binOp .neq T x y T',ty,pos,aft,g⟩ s d (.d (.raw (.bool (decide (¬a=b))))):=by
 have h:=FM (P:=P) (F:=F) (T:=T) (T':=T') (ty:=ty) (pos:=pos) (aft:=aft) (g:=g) hx hy hd
 rwa [show decide (¬(⟨a.toArray⟩:ByteArray).toList=(⟨b.toArray⟩:ByteArray).toList)=decide (¬a=b) by rw [decide_eq_decide,strEq a b]] at h
end
section
variable {P:Program} {F:Fr} {s:AS} {d:Nat} {ty T E:TypeId} {pos:String} {aft:Array Edge} {g:Option (Nat×Bool)} {x y:Operand} {α:Type} {emb:α ->D}
end
theorem AU.weak {P:Program} {f:FuncId} {args:List AV} {x y:D} (h:AU P f args x) (hw:∀w O v,A1 w O x v ->A1 w O y v):AU P f args y:=
 ⟨h.1,fun F ρ vs h1 h2 h2' h3 h4 h5=>(h.2 F ρ vs h1 h2 h2' h3 h4 h5).mono fun e w' ⟨v,r,H',ρ',e1,⟨e2,e3⟩,hrep,hh⟩=>by
  subst e2 e3
  cases hrep with
  | d hrep=>exact ⟨v,_,[],ρ',e1,⟨rfl,rfl⟩,.d (hw _ _ _ hrep),hh⟩⟩
theorem A1.anyNil {w:World} {O:Nat ->Prop} {n:Option Bool} {xs:List D} {v:Value} (h:A1 w O (.sl n xs) v):A1 w O (.sl none xs) v:=by
 cases h with
 | sl k hn hz hln hc hm hk ha hp=>exact .sl k (fun _ h=>by cases h) hz hln hc hm hk ha hp
theorem A1.aggMono {w:World} {O:Nat ->Prop} {cs cs':List D} {v:Value} (h:A1 w O (.agg cs) v) (hl:cs'.length=cs.length) (h1:∀c∈cs',c.one=true) (hc:∀(i:Nat) c c',cs[i]?=some c ->cs'[i]?=some c' ->∀v,A1 w O c v ->A1 w O c' v):A1 w O (.agg cs') v:=by
 cases h with
 | agg g1 g2 g3=>
  refine .agg (by omega) h1 fun i c' v hi hv=>?_;have hlt:i<cs.length:=by rw [←hl];exact (List.getElem?_eq_some_iff.1 hi).1
  exact hc i _ c' (List.getElem?_eq_getElem hlt) hi v (g3 i _ v (List.getElem?_eq_getElem hlt) hv)
theorem Ss {F:Fr} {s:AS} {ρ:Nat ->Nat ->Value} {act:Act} {w:World} (h:SR F s ρ act w) {f j n kk:Nat} {E:TypeId} {xs ys:List D} {hp':Hp} (ho:hget s.hp f j=some (.rowD E kk xs)) (hn:n≤xs.length) (hys:xs.take n=ys)
  (h2:∀b,F.O ρ hp' b ->F.O ρ s.hp b) (h3:∀b,CO (ρ f j)=some b ->¬F.O ρ hp' b) {O:Nat ->Prop} {v:Value} (hr:A3 w O ρ (.own f j n) v):A1 w (F.O ρ hp') (.sl none ys) v:=by
 obtain ⟨us,a,cap,e1,g1,g2,g3,g4,g5⟩:=h.rowD ho
 cases hr with
 | own hρ hn'=>
  rw [e1] at hρ;injection hρ with e2 e3 e4
  subst e2 e3 e4;refine .sl kk (fun _ h=>by cases h) g4.2.2 (by rw [←hys,List.length_take];omega) (by omega) g4.2.1 (fun y hy=>g2.2.1 y (by rw [←hys] at hy;exact List.mem_of_mem_take hy)) (fun hne=>?_) (fun b o hb i y hy=>?_)
  ·have:0<xs.length:=by
    rcases Nat.eq_zero_or_pos xs.length with h0 | h0
    ·exfalso;apply hne;rw [←hys,List.eq_nil_of_length_eq_zero h0];simp
    ·exact h0
   obtain ⟨b,hb,_⟩:=g5 this;exact ⟨b,0,hb⟩
  ·have hy':xs[i]?=some y:=by
    rw [←hys,List.getElem?_take] at hy
    split at hy
    ·exact hy
    ·cases hy
   have hil:i<xs.length:=(List.getElem?_eq_some_iff.1 hy').1;obtain ⟨b',hb',cur,c1,c2,c3⟩:=g5 (by omega);rw [hb'] at hb;injection hb with hb;injection hb with hb1 hb2;subst hb1 hb2
   subst hb';have hlt:b'<w.heap.size:=(Array.getElem?_eq_some_iff.1 c1).1
   have hex:∀(q:Nat) c,y.cells[q]?=some c ->∃u,w.cell? ⟨b',0+i*kk+q,none⟩=some u∧A1 w (F.O ρ hp') c u:=fun q c hc=>by
    obtain ⟨u,d1,d2,d3⟩:=g2.2.2 i y hy' q c hc;exact ⟨u,by rw [Nat.zero_add];exact EH c1 c3 d1,d3.mono (Nat.le_refl _) (fun _ _ _=>rfl) fun b _=>h2 b⟩
   refine .ptr (fun q=>(w.cell? ⟨b',0+i*kk+q,none⟩).getD undef) hlt (h3 b' (by rw [e1];rfl)) (g3 y (List.mem_of_getElem? hy')) (fun q c hc=>?_) (fun q c hc=>?_)
   ·obtain ⟨u,d1,_⟩:=hex q c hc;rw [d1];rfl
   ·obtain ⟨u,d1,d2⟩:=hex q c hc;rw [d1];exact d2
theorem SR.freezeC {F:Fr} {s:AS} {ρ:Nat ->Nat ->Value} {act:Act} {w:World} (h:SR F s ρ act w) (g i off f:Nat) {n kk:Nat} {t E:TypeId} {xs ys:List D} {cs cs1 cs':List AV} {env':List (Nat×AV)} {hp1 hp2 hp':Hp}
  (ho:hget s.hp g i=some (.blk t cs)) (hc:cs[off]?=some (.own f 0 n)) (hone:hfam s.hp f=some [.rowD E kk xs]) (hn:n≤xs.length) (hys:xs.take n=ys)
  (hE:Ad f s.env=some env') (hH:A7 f s.hp=some hp1) (hh:DJ f hp1=some hp2) (ho1:hget hp2 g i=some (.blk t cs1)) (hs':D2 cs1 off [.d (.sl none ys)]=some cs') (hset:Bn hp2 g i (.blk t cs')=some hp'):SR F ⟨s.n,env',hp'⟩ ρ act w:=by
 have hof:hget s.hp f 0=some (.rowD E kk xs):=by simp [hget,hone,gl,isM]
 obtain ⟨h1,h2,h3⟩:=h.forget f hE hH hh (fun i t cs e=>by
  simp only [hget,hone,Option.bind_some,gl,isM] at e
  cases i<;>simp at e)
 refine h1.write g i (.blk t cs1) (.blk t cs') ho1 (BN hset) Z Z Z Z (fun _ _=>rfl) (fun _ _ _=>⟨_,_,rfl⟩) fun hrep=>?_;obtain ⟨b,us,e1,e2,e3,e4,e5⟩:=h1.heap.sim g i _ ho1;obtain ⟨b',us',f1,f2,f3,f4,f5⟩:=h.heap.sim g i _ ho;rw [e1] at f1;injection f1 with f1;injection f1 with f1;injection f1 with f1;subst f1
 rw [e2] at f2;injection f2 with f2;injection f2 with f2
 have:us=us':=by simpa using congrArg Array.toList f2
 subst this;obtain ⟨s1,s2,s3⟩:=DC _ _ _ _ hs';refine ⟨b,us,e1,e2,by rw [e3,s2],fun j c u hcj hu=>?_,e5⟩;rw [s3] at hcj
 split at hcj
 ·rename_i hj
  have hjo:j=off:=by simp at hj;omega
  subst hjo
  simp at hcj;subst hcj
  have hr:=Ss h (hp':=hp2) hof hn hys h2 (fun b hb=>h3 0 _ b hof hb) (f4 j _ u hc hu);exact hrep _ _ (.d hr)
 ·exact hrep _ _ (e4 j c u hcj hu)
section
variable {P:Program} {F:Fr} {Q:Exit ->AS ->Prop} {s:AS} {c:Code} {ops:Array Oper} {l l':List Oper}
theorem Yu {sn:Nat} {env:List (Nat×AV)} {hp:List (Nat×List AQ)} (g i off f:Nat) {n kk:Nat} {t E:TypeId} {xs ys:List D} {cs cs1 cs':List AV} {env':List (Nat×AV)} {hp1 hp2 hp':Hp}
  (ho:hget hp g i=some (.blk t cs)) (hc:cs[off]?=some (.own f 0 n)) (hone:hfam hp f=some [.rowD E kk xs]) (hn:n≤xs.length) (hys:xs.take n=ys)
  (hE:Ad f env=some env') (hH:A7 f hp=some hp1) (hh:DJ f hp1=some hp2) (ho1:hget hp2 g i=some (.blk t cs1)) (hs':D2 cs1 off [.d (.sl none ys)]=some cs') (hset:Bn hp2 g i (.blk t cs')=some hp') (h:Bt P F c Q ⟨sn,env',hp'⟩):Bt P F c Q ⟨sn,env,hp⟩:=fun _ _ _ hs=>h _ _ _ (hs.freezeC g i off f ho hc hone hn hys hE hH hh ho1 hs' hset)
theorem WK {sn:Nat} {env:List (Nat×AV)} {hp:List (Nat×List AQ)} {α:Type} {emb:α ->D} (t f:Nat) (l:List α) {n kk:Nat} {E:TypeId} {xs:List D} {env':List (Nat×AV)} {hp1 hp':Hp} (ht:get env t=some (.own f 0 n)) (hone:hfam hp f=some [.rowD E kk xs]) (hxs:xs=l.map emb) (hn:n=l.length) (hE:Ad f env=some env') (hH:A7 f hp=some hp1) (hh:DJ f hp1=some hp')
  (h:Bt P F c Q ⟨sn,(t,.d (.sl none (l.map emb)))::env',hp'⟩):Bt P F c Q ⟨sn,env,hp⟩:=by
 subst hxs hn;exact Yp t f ht (by simp [hget,hone,gl,isM]) (by simp) (by rw [List.take_of_length_le (by simp)]) hE hH hh hone h
theorem Zdd {sn:Nat} {env:List (Nat×AV)} {hp:List (Nat×List AQ)} {α:Type} {emb:α ->D} (t f:Nat) (l:List α) {n kk:Nat} {E:TypeId} {xs:List D} {env':List (Nat×AV)} {hp1 hp':Hp} (ht:get env t=some (.own f 0 n)) (hone:hfam hp f=some [.rowD E kk xs]) (hxs:xs=l.map emb) (hn:n=l.length) (hE:Ad f env=some env') (hH:A7 f hp=some hp1) (hh:DJ f hp1=some hp')
  (h:Aq P F ops l' Q ⟨sn,(t,.d (.sl none (l.map emb)))::env',hp'⟩):Aq P F ops l' Q ⟨sn,env,hp⟩:=by
 subst hxs hn;exact X6 t f ht (by simp [hget,hone,gl,isM]) (by simp) (by rw [List.take_of_length_le (by simp)]) hE hH hh hone h
theorem SR.weakD {F:Fr} {s:AS} {ρ:Nat ->Nat ->Value} {act:Act} {w:World} (h:SR F s ρ act w) (t:Nat) {x:D} (y:D) (ht:get s.env t=some (.d x)) (hw:∀w O v,A1 w O x v ->A1 w O y v):SR F ⟨s.n,(t,.d y)::s.env,s.hp⟩ ρ act w:=by
 refine ⟨h.size,h.defs,fun t' a ha=>?_,h.heap⟩;rcases KX ha with ⟨rfl,rfl⟩ | ⟨_,ha⟩
 ·have hr:=h.env t _ ht
  generalize act.tmps.getD t undef=v at hr
  cases hr with
  | d hr=>exact .d (hw _ _ _ hr)
 ·exact h.env t' a ha
theorem UO {sn:Nat} {env:List (Nat×AV)} {hp:List (Nat×List AQ)} (t:Nat) {x:D} (y:D) (ht:get env t=some (.d x)) (hw:∀w O v,A1 w O x v ->A1 w O y v) (h:Aq P F ops l Q ⟨sn,(t,.d y)::env,hp⟩):Aq P F ops l Q ⟨sn,env,hp⟩:=fun _ _ _ hs=>h _ _ _ (hs.weakD t y ht hw)
theorem Ug {sn:Nat} {env:List (Nat×AV)} {hp:List (Nat×List AQ)} (t:Nat) {n:Option Bool} {xs:List D} (ht:get env t=some (.d (.sl n xs))) (h:Aq P F ops l Q ⟨sn,(t,.d (.sl none xs))::env,hp⟩):Aq P F ops l Q ⟨sn,env,hp⟩:=UO t _ ht (fun _ _ _ h=>h.anyNil) h
end
section
variable {P:Program} {F:Fr} {Q:Exit ->AS ->Prop} {c:Code} {ops:Array Oper} {l:List Oper}
end
abbrev CG (l:Nat):Value:= .func (.yield l) #[] #[]
def Yx (P:Program) (l:Nat) (vs:List Value) (w:World) (R:Ending ->World ->Prop):Prop:=
 ∃r:Loop,w.heap[l]?=some (.loop r)∧vs.length=r.params.size∧RoundIn Fence.wide 0 P l r.fn ((r.params.zip vs.toArray).foldl (fun tmps (t,a)=>tmps.setIfInBounds t a) r.tmps) r.assign r.body w R
theorem Yx.mono {P:Program} {l:Nat} {vs:List Value} {w:World} {R R':Ending ->World ->Prop} (h:Yx P l vs w R) (hr:∀e w',R e w' ->R' e w'):Yx P l vs w R':=by
 obtain ⟨r,h1,h2,h3⟩:=h;exact ⟨r,h1,h2,h3.mono hr⟩
def ES (P:Program) (l:Nat) (args:List AV) (H:Hp) (R:AV ->Hp ->Prop):Prop:=
 ∀(F:Fr) (ρ:Nat ->Nat ->Value) (vs:List Value),F.own0=Ar ρ H ->F.pin=Cn ρ H ->F.top H ->B8 F H ρ F.w0 ->vs.length=args.length ->(∀(i:Nat) a v,args[i]?=some a ->vs[i]?=some v ->A3 F.w0 (F.O ρ H) ρ a v)→
  Yx P l vs F.w0 fun e w'=>∃v r H' ρ',e= .returned v∧R r H'∧A3 w' (F.O ρ' H') ρ' r v∧B8 F H' ρ' w'
theorem ES.mono {P:Program} {l:Nat} {args:List AV} {H:Hp} {R R':AV ->Hp ->Prop} (h:ES P l args H R) (hr:∀r H',R r H' ->R' r H'):ES P l args H R':=
 fun F ρ vs h1 h2 h2' h3 h4 h5=>(h F ρ vs h1 h2 h2' h3 h4 h5).mono fun _ _ ⟨v,r,H',ρ',a,b,c⟩=>⟨v,r,H',ρ',a,hr _ _ b,c⟩
section
variable {P:Program} {F:Fr} {s:AS} {Q:Exit ->AS ->Prop}
theorem SN {ρ:Nat ->Nat ->Value} {act:Act} {w:World} (hs:SR F s ρ act w) {l:Nat} {args:List AV} {CH:Hp} {R:AV ->Hp ->Prop} (hc:ES P l args CH R) {vs:List Value} (hlen:vs.length=args.length) (hvs:∀(i:Nat) a v,args[i]?=some a ->vs[i]?=some v ->A3 w (F.O ρ s.hp) ρ a v)
  (nm:List Nat) (hfe:CR s.hp CH nm) (hcn:AZ nm CH=true) {rest0 rest:Hp} {env':List (Nat×AV)} (hr0:Bz nm s.hp=some rest0) (hE:Bq (CA CH nm) s.env=some env') (hH:CI (CA CH nm) rest0=some rest)
  (hR:∀r H',R r H' ->AZ nm H'=true∧DM nm H'=true∧r.ok (H6 nm)=true):
  Yx P l vs w fun e w'=>∃v r H' ρ'',e= .returned v∧R r H'∧A3 w' (F.O ρ'' (H'++rest)) ρ'' r v∧SR F ⟨s.n,env',H'++rest⟩ ρ'' act w'∧∀f i,CA CH nm f i=true ->ρ'' f i=ρ f i:=by
 obtain ⟨hOf,hheap,hO⟩:=GE w.heap.size hs.heap nm hfe hcn;refine (hc (Bf F w.heap.size s.hp CH ρ w hOf) ρ vs Z Z ⟨rfl,rfl,rfl⟩ hheap hlen (fun i a v ha hv=>by rw [hO];exact hvs i a v ha hv)).mono fun e w' ⟨v,r,H',ρ',e1,hRr,hrep,hh'⟩=>?_;obtain ⟨n1,n2,n3⟩:=hR r H' hRr;obtain ⟨ρ'',g1,g2,g3,g4,g5,g6,g7⟩:=Mw hs.heap nm hfe hcn hr0 hH hOf hheap hh' n1 n2;refine ⟨v,r,H',ρ'',e1,hRr,g2 r v (fun f i hf=>Ek.1 (AV.ok_spec n3 hf)) hrep,⟨hs.size,hs.defs.mono g5 g6 g7,fun t a ha=>?_,g1⟩,g4⟩;rcases EN hE ha with rfl | ⟨h1,h2⟩
 ·exact .top
 ·exact g3 _ _ h2 (hs.env t a h1)
theorem S8 {act:Act} {w:World} {xs:List Operand} {x:Operand} {l:Nat} {r:Loop} {d:Option Nat} {at_:Array TypeId} {ty:TypeId} {pos:String} {aft:Array Edge} {g:Option (Nat×Bool)} (hv:act.eval x=CG l) (h:w.heap[l]?=some (.loop r)) (hs:(xs.map act.eval).length=r.params.size):
  (execOp act.eval ⟨d,.call {callee:= .value x,args:=xs.toArray,argTypes:=at_},ty,pos,aft,g⟩).run P w= .ok (.round l r.fn ((r.params.zip (xs.map act.eval).toArray).foldl (fun tmps (t,a)=>tmps.setIfInBounds t a) r.tmps) r.assign r.body) w:=by
 have:=run_yield (P:=P) (args:=(xs.map act.eval).toArray) h (by simpa using hs)
 simp [execOp,resolve,hv,Deferred.ofValue,invoke,callFunc,this]
theorem Qb {r:Option Nat} {n n' l:Nat} {f:FuncId} {tmps:Array Value} {a b:Code} {w:World} {R:Ending ->World ->Prop} (h:RoundIn Fence.wide n P l f tmps a b w R):RoundIn (Oi r) n' P l f tmps a b w R:=by
 cases r with
 | none=>exact ⟨trivial,fun c cs _=>h.2 c cs (room_wide _)⟩
 | some _=>exact ⟨trivial,fun c cs _=>h.2 c cs (room_wide _)⟩
theorem Mg {ops:Array Oper} {rest':List Oper} {l d:Nat} {x:Operand} {xs:List Operand} {args:List AV} {CH:Hp} {R:AV ->Hp ->Prop} {at_:Array TypeId} {ty:TypeId} {pos:String} {aft:Array Edge} (hx:s.ev x=some (.d (.raw (CG l)))) (hargs:Kv s xs=some args) (hc:ES P l args CH R)
  (nm:List Nat) (hfe:CR s.hp CH nm) (hcn:AZ nm CH=true) {rest0 rest:Hp} {env':List (Nat×AV)} (hr0:Bz nm s.hp=some rest0) (hE:Bq (CA CH nm) s.env=some env') (hH:CI (CA CH nm) rest0=some rest)
  (hR:∀r H',R r H' ->AZ nm H'=true∧DM nm H'=true∧r.ok (H6 nm)=true) (hd:Nat.blt d s.n=true)
  (hK:∀r H',R r H' ->Aq P F ops rest' Q ⟨s.n,(d,r)::env',H'++rest⟩):
  Aq P F ops (⟨some d,.call {callee:= .value x,args:=xs.toArray,argTypes:=at_},ty,pos,aft,none⟩::rest') Q s:=fun ρ act w hs=>
 wpListIn_plain rfl fun K hk=>by
  obtain ⟨h4,h5⟩:=Ch hs hargs
  have hv:act.eval x=CG l:=by
   have:=hs.ev hx
   generalize act.eval x=v at this
   cases this with
   | d this=>cases this with | raw _=>rfl
  obtain ⟨r,h6,h7,h8⟩:=SN hs hc h4 h5 nm hfe hcn hr0 hE hH hR;refine ⟨fun _ _=>trivial,?_⟩;rw [OF _ _ _ rfl,S8 hv h6 h7,Oper.uponIn_round];refine ⟨(fun h=>by cases h),Qb (h8.mono fun e w' ⟨v,rr,H',ρ'',e1,hRr,hrep,hsr,_⟩=>?_)⟩;subst e1;exact hk _ _ (hK rr H' hRr ρ'' _ w' (hsr.put (KZ hd) hrep))
end
theorem B8.rnd {F:Fr} {hp:Hp} {ρ:Nat ->Nat ->Value} {w:World} (h:B8 F hp ρ w) (r:Option Nat):B8 {F with rnd:=r} hp ρ w:=
 ⟨h.sim,h.inj,h.mine,h.os,h.tape,h.output,h.size0,h.keep,h.pins,h.drawn⟩
theorem B8.unrnd {F:Fr} {hp:Hp} {ρ:Nat ->Nat ->Value} {w:World} {r:Option Nat} (h:B8 {F with rnd:=r} hp ρ w):B8 F hp ρ w:=
 ⟨h.sim,h.inj,h.mine,h.os,h.tape,h.output,h.size0,h.keep,h.pins,h.drawn⟩
theorem TJ {F:Fr} {s:AS} {ρ ρ0:Nat ->Nat ->Value} {act:Act} {w:World} (hs:SR F s ρ act w) {nm:List Nat} {H H':Hp} (hp:F.pin=Cn ρ0 H) (hpt:An s.hp nm=some H') (hnm:AZ nm H=true):B8 F H' ρ w:=by
 obtain ⟨p1,p2⟩:=Db hpt
 have hsub:∀f i o,hget H' f i=some o ->hget s.hp f i=some o:=fun f i o ho=>by
  simp only [hget] at ho⊢
  cases hf:hfam H' f with
  | none=>rw [hf] at ho;cases ho
  | some x=>rw [(p1 f x hf).2];rw [hf] at ho;exact ho
 have hown:∀b,Ar ρ H' b ->Ar ρ s.hp b:=fun b ⟨f,i,o,a1,a2⟩=>⟨f,i,o,hsub f i o a1,a2⟩
 have hO:∀b,b<w.heap.size ->F.O ρ H' b ->F.O ρ s.hp b:=fun b _ hb=>hb.imp id (hown b);refine ⟨fun f i o ho=>(hs.heap.sim f i o (hsub f i o ho)).mono (Nat.le_refl _) (fun _ _ _=>rfl) hO (fun _ _=>rfl) (fun _ _ _=>rfl),fun f i f' i' o o' b ho ho'=>hs.heap.inj f i f' i' o o' b (hsub f i o ho) (hsub f' i' o' ho'),fun b hb=>hs.heap.mine b (hown b hb),hs.heap.os,hs.heap.tape,hs.heap.output,hs.heap.size0,hs.heap.keep,fun f i b hb=>?_,hs.heap.drawn⟩;obtain ⟨a1,t,cs,a2⟩:=hs.heap.pins f i b hb;refine ⟨a1,t,cs,?_⟩;rw [hp] at hb;obtain ⟨_,t',cs',a3⟩:=Zc9 hb
 have hfn:f∈nm:=by
  simp only [hget] at a3
  cases hf:hfam H f with
  | none=>rw [hf] at a3;cases a3
  | some x=>exact FZ hnm hf
 simp only [hget] at a2⊢;rw [p2 f hfn];exact a2
def Iq (n:Nat):List Tmp ->List AV ->List (Nat×AV) ->Option (List (Nat×AV))
 | [],[],env=>some env
 | t::ts,a::as,env=>match Nat.blt t n with
  | true=>Iq n ts as ((t,a)::env)
  | false=>none
 | _,_,_=>none
theorem LP {w:World} {O:Nat ->Prop} {ρ:Nat ->Nat ->Value} {n:Nat}:∀{ts:List Tmp} {as:List AV} {env env':List (Nat×AV)} {vs:List Value} {tmps:Array Value},Iq n ts as env=some env' ->vs.length=as.length ->(∀(i:Nat) a v,as[i]?=some a ->vs[i]?=some v ->A3 w O ρ a v)→
  tmps.size=n ->(∀t a,get env t=some a ->A3 w O ρ a (tmps.getD t undef))→
  ts.length=as.length∧((ts.zip vs).foldl (fun tmps (t,a)=>tmps.setIfInBounds t a) tmps).size=n∧∀t a,get env' t=some a ->A3 w O ρ a (((ts.zip vs).foldl (fun tmps (t,a)=>tmps.setIfInBounds t a) tmps).getD t undef)
 | [],[],env,env',vs,tmps,h,hl,hv,hs,he=>by
  simp only [Iq,Option.some.injEq] at h;subst h;exact ⟨rfl,by simpa using hs,by simpa using he⟩
 | t::ts,a::as,env,env',v::vs,tmps,h,hl,hv,hs,he=>by
  simp only [Iq] at h
  split at h
  ·rename_i ht
   have ht:=KZ ht
   obtain ⟨h1,h2,h3⟩:=LP (tmps:=tmps.setIfInBounds t v) (vs:=vs) h (by simpa using hl) (fun i a v ha hb=>hv (i+1) a v (by simpa using ha) (by simpa using hb)) (by simpa using hs) (fun t' a' ha=>by
    rcases KX ha with ⟨rfl,rfl⟩ | ⟨hne,ha⟩
    ·have:=hv 0 _ v Z Z;rw [Array.getD_eq_getD_getElem?];simp [hs,ht];exact this
    ·have:=he t' a' ha;rw [Array.getD_eq_getD_getElem?] at this⊢
     rw [Array.getElem?_setIfInBounds_ne hne];exact this)
   exact ⟨by simp [h1],h2,h3⟩
  ·cases h
 | t::ts,a::as,env,env',[],tmps,h,hl,hv,hs,he=>by simp at hl
 | [],a::as,env,env',vs,tmps,h,hl,hv,hs,he=>by simp [Iq] at h
 | t::ts,[],env,env',vs,tmps,h,hl,hv,hs,he=>by simp [Iq] at h
def Ms:Exit ->Option (Option Code)
 | .normal=>some none
 | .ret=>some (some .ret)
 | .exit id=>some (some (.exit id))
 | .goto t=>some (some (.goto t))
 | _=>none
def Gx.fin (L:Gx) (j:Option Code):Gx:={L with st:=if j.isNone then .ready else .done,pend:=j}
def Gx.busy (L:Gx):Gx:={L with st:= .busy}
def Yz (l lf:Nat) (H:Hp) (R:AV ->Hp ->Prop) (e:Exit) (s:AS):Prop:=
 ∃j L hpe nm H',Ms e=some j∧hget s.hp lf 0=some (.loop L)∧L.id=l∧Bn s.hp lf 0 (.loop (L.fin j))=some hpe∧An hpe nm=some H'∧AZ nm H=true∧R (.d (.raw (.bool j.isNone))) H'
theorem SR.setLoop {F:Fr} {s:AS} {ρ:Nat ->Nat ->Value} {act:Act} {w:World} (hs:SR F s ρ act w) {lf:Nat} {L:Gx} {hp':Hp} {st:LoopState} {pd:Option Code} (hL:hget s.hp lf 0=some (.loop L)) (hset:Bn s.hp lf 0 (.loop {L with st:=st,pend:=pd})=some hp'):
  ∃r:Loop,w.heap[L.id]?=some (.loop r)∧r.state=L.st∧r.pending=L.pend∧SR F ⟨s.n,s.env,hp'⟩ ρ act (w.putObj L.id (.loop {r with state:=st,pending:=pd})):=by
 obtain ⟨r,h1,h2,⟨h3,h3',h3''⟩,h4,h5⟩:=hs.heap.sim lf 0 _ hL;have hlt:L.id<w.heap.size:=(Array.getElem?_eq_some_iff.1 h2).1;refine ⟨r,h2,h3,h3',hs.write lf 0 _ (.loop {L with st:=st,pend:=pd}) hL (BN hset) Z Z Z World.putObj_size (fun b hb=>World.putObj_heap_other fun e=>hb (by rw [h1,e];rfl)) (fun t cs e=>by cases e) fun hrep=>?_⟩;exact ⟨{r with state:=st,pending:=pd},h1,World.putObj_heap_same hlt,⟨rfl,rfl,h3''⟩,h4,fun t a ha=>hrep _ _ (h5 t a ha)⟩
theorem J2 {P:Program} {l lf:Nat} {L:Gx} {H:Hp} {args:List AV} {env1:List (Nat×AV)} {R:AV ->Hp ->Prop} (hL:hget H lf 0=some (.loop L)) (hid:L.id=l) (_:L.st= .ready) (hps:Iq L.n L.ps.toList args L.env=some env1)
  (h:∀F:Fr,F.pn=hpN H ->F.rnd=some l ->Bt P F L.asg (fun e s=>e= .normal∧∃L' hpb,hget s.hp lf 0=some (.loop L')∧L'.id=l∧L'.st= .ready∧Bn s.hp lf 0 (.loop L'.busy)=some hpb∧Bt P F L.body (Yz l lf H R) ⟨s.n,s.env,hpb⟩) ⟨L.n,env1,H⟩):ES P l args H R:=by
 intro F ρ vs h1 h2 h2' h3 h4 h5;obtain ⟨r,g1,g2,⟨g3,g4,g5,g6,g7⟩,g8,g9⟩:=h3.sim lf 0 _ hL;subst hid;obtain ⟨k1,k2,k3⟩:=LP (ρ:=ρ) (w:=F.w0) (O:=F.O ρ H) (tmps:=r.tmps) (vs:=vs) hps h4 h5 g8 g9
 have hz:(r.params.zip vs.toArray).foldl (fun tmps (t,a)=>tmps.setIfInBounds t a) r.tmps=(L.ps.toList.zip vs).foldl (fun tmps (t,a)=>tmps.setIfInBounds t a) r.tmps:=by
  rw [g5,←Array.foldl_toList,Array.toList_zip]
 refine ⟨r,g2,?_,?_⟩
 ·rw [g5,h4,←k1];simp
 rw [hz,g6,g7]
 let F':Fr:={F with rnd:=some L.id}
 have hsr:SR F' ⟨L.n,env1,H⟩ ρ {tmps:=(L.ps.toList.zip vs).foldl (fun tmps (t,a)=>tmps.setIfInBounds t a) r.tmps,defers:=[]} F.w0:=⟨k2,.nil,k3,h3.rnd _⟩
 have hw:=h F' h2'.1 rfl ρ _ _ hsr;refine roundIn_of_wpIn trivial (Go.wpIn_mono (F:=Fence.wide.inRound L.id) hw fun e a w hq=>?_);obtain ⟨s,ρ1,⟨rfl,L',hpb,q1,q2,q3,q4,q5⟩,hs⟩:=hq;obtain ⟨r1,p1,p2,p3,hs1⟩:=hs.setLoop q1 (st:= .busy) (pd:=L'.pend) q4;rw [q2] at p1;refine ⟨_,run_beginRound p1 (p2.trans q3),?_⟩;rw [q2,←p3] at hs1;refine Go.wpIn_mono (F:=Fence.wide.inRound L.id) (q5 ρ1 _ _ hs1) fun e a w hq=>?_;obtain ⟨s2,ρ2,⟨j,L2,hpe,nm,H',j1,j2,j2',j3,j4,j5,j6⟩,hs2⟩:=hq;obtain ⟨r2,m1,m2,m3,hs3⟩:=hs2.setLoop j2 (st:=if j.isNone then .ready else .done) (pd:=j) j3;rw [j2'] at m1 hs3;have hh:B8 F H' ρ2 (w.putObj L.id (.loop {r2 with state:=if j.isNone then .ready else .done,pending:=j})):=(TJ hs3 h2 j4 j5).unrnd
 have fin:∃v w',(Instr.endRound L.id j).run P w= .ok v w'∧∃v' rr H' ρ',Ending.returned v= .returned v'∧R rr H'∧A3 w' (F.O ρ' H') ρ' rr v'∧B8 F H' ρ' w':=
  ⟨_,_,run_endRound j m1,_,_,H',ρ2,rfl,j6,.d (.raw rfl),hh⟩
 cases e with
 | normal=>simp only [Ms,Option.some.injEq] at j1;subst j1;exact fin
 | ret=>simp only [Ms,Option.some.injEq] at j1;subst j1;exact fin
 | exit id=>simp only [Ms,Option.some.injEq] at j1;subst j1;exact fin
 | goto t=>simp only [Ms,Option.some.injEq] at j1;subst j1;exact fin
 | panic _=>cases j1
 | outgrown=>cases j1
theorem SR.grow {F:Fr} {s:AS} {ρ:Nat ->Nat ->Value} {act:Act} {w:World} (hs:SR F s ρ act w) (o:Obj):SR F s ρ act (w.alloc o):=by
 have hsz:w.heap.size≤(w.alloc o).heap.size:=by rw [World.size_alloc];omega
 have hb:∀b,b<w.heap.size ->(w.alloc o).heap[b]?=w.heap[b]?:=fun b hlt=>by
  show (w.heap.push o)[b]?=_;rw [Array.getElem?_push_lt hlt,Array.getElem?_eq_getElem hlt]
 exact ⟨hs.size,hs.defs.mono hsz (fun b hlt _=>hb b hlt) (fun _ _ h=>h),fun t a ha=>(hs.env t a ha).mono hsz (fun b hlt _=>hb b hlt) (fun _ _ h=>h) (fun _ _ _=>rfl),hs.heap.stay ⟨rfl,rfl,rfl,hs.heap.drawn⟩ hsz hb⟩
theorem B8.ltO {F:Fr} {hp:Hp} {ρ:Nat ->Nat ->Value} {w:World} (h:B8 F hp ρ w) {b:Nat} (hb:F.O ρ hp b):b<w.heap.size:=by
 rcases hb with hb | hb
 ·exact Nat.lt_of_lt_of_le (F.hOf b hb).1 h.size0
 ·exact (h.mine b hb).1
theorem SR.mark {F:Fr} {s:AS} {ρ:Nat ->Nat ->Value} {act:Act} {w:World} (hs:SR F s ρ act w) (hF:F.lo≤F.w0.heap.size):SR F s ρ {act with defers:=Ix w.heap.size::act.defers} (w.alloc (.deferred (some []))):=by
 have hg:=hs.grow (.deferred (some []));obtain ⟨bs,h1,h2,h3⟩:=hg.defs;obtain ⟨bs',h1',_,h3'⟩:=hs.defs
 have hbs:bs=bs':=by
  exact (List.map_inj_right (fun a b h=>by simpa [Ix] using h)).1 (h1.symm.trans h1')
 subst hbs;refine ⟨hg.size,⟨w.heap.size::bs,by rw [h1];rfl,List.nodup_cons.2 ⟨fun hm=>Nat.lt_irrefl _ (h3' _ hm).2.1,h2⟩,fun b hm=>?_⟩,hg.env,hg.heap⟩;rcases List.mem_cons.1 hm with rfl | hm
 ·exact ⟨Nat.le_trans hF hs.heap.size0,by rw [World.size_alloc];omega,fun ho=>Nat.lt_irrefl _ (hs.heap.ltO ho),by show (w.heap.push _)[w.heap.size]?=_;simp⟩
 ·exact h3 b hm
theorem Rx {P:Program} {F:Fr} {s:AS} {Q:Exit ->AS ->Prop} {γ:Type} {g:Operand} {ps:Array Tmp} {assign body:Code} {a:AV} {f:FuncId} {caps:List AV} (hF:F.flat) (hfn:Og a=some (f,caps)) (lf:Nat) {env' env'':List (Nat×AV)} (hg:AS.ev ⟨s.n,env',s.hp⟩ g=some a) {hp1 rest0 rest:Hp} {hp' CH:Nat ->Hp} {RR:γ ->Prop} {H2 hpf:γ ->Hp} {pd:γ ->Option Code} (L2:Nat ->γ ->Gx)
  (hE:Ad lf s.env=some env') (hH:A7 lf s.hp=some hp1) (hn:∀l,Ct hp1 lf (.loop ⟨l,s.n,env',.ready,none,ps,assign,body⟩)=some (hp' l))
  (hc:∀l,A2 P f (.d (.raw (CG l))::caps) (CH l) fun r H'=>r= .tup []∧∃y,RR y∧H'=(lf,[.loop (L2 l y)])::H2 y)
  (hL2:∀l y,RR y ->(L2 l y).id=l∧(L2 l y).st≠ .busy∧(L2 l y).pend=pd y)
  (nm:List Nat) (hfe:∀l,CR (hp' l) (CH l) nm) (hcn:∀l,AZ nm (CH l)=true) (hr0:∀l,Bz nm (hp' l)=some rest0) (hE2:∀l,Bq (CA (CH l) nm) env'=some env'') (hH2:∀l,CI (CA (CH l) nm) rest0=some rest)
  (hR:∀l y,RR y ->AZ nm ((lf,[.loop (L2 l y)])::H2 y)=true∧DM nm ((lf,[.loop (L2 l y)])::H2 y)=true)
  (nm2:List Nat) (hlf:memB lf nm2=false) {pn:List Nat} (hpn:F.pn=pn) (hsub:IY pn nm2=true) (hdrop:∀l y,RR y ->An ((lf,[.loop (L2 l y)])::H2 y++rest) nm2=some (hpf y))
  (hK:∀y,RR y ->match pd y with | none=>Q .normal ⟨s.n,env'',hpf y⟩ | some c=>Bt P F c Q ⟨s.n,env'',hpf y⟩):
  Bt P F (.rangeFunc g ps assign body) Q s:=fun ρ act w hs=>by
 have hfen:Oi F.rnd=Fence.wide:=by rw [hF.1];rfl
 rw [hfen];refine wpIn_rangeFunc fun fn _=>?_;have hm:=hs.mark hF.2
 let r0:Loop:={state:= .ready,pending:=none,fn:=fn,tmps:=act.tmps,params:=ps,assign:=assign,body:=body,defers:=w.heap.size}
 let w1:World:=(w.alloc (.deferred (some []))).alloc (.loop r0)
 have hsz1:(w.alloc (.deferred (some []))).heap.size=w.heap.size+1:=by rw [World.size_alloc]
 have h2:=hm.new lf (.loop ⟨w.heap.size+1,s.n,env',.ready,none,ps,assign,body⟩) (.pointer (some ⟨w.heap.size+1,0,none⟩)) (.loop r0) hE hH (hn (w.heap.size+1)) (by rw [hsz1];rfl) (fun hrep=>by
  refine ⟨r0,rfl,?_,⟨rfl,rfl,rfl,rfl,rfl⟩,hs.size,fun t a ha=>?_⟩
  ·rw [←hsz1];exact World.alloc_heap_new _ _
  ·rcases Bg hE ha with rfl | ⟨h1,h2⟩
   ·exact .top
   ·exact hrep _ _ h2 (hm.env t a h1))
 obtain ⟨vs,hv,hl,hvs⟩:=JD (h2.ev (x:=g) (a:=a) (by cases g<;>exact hg)) hfn;have hv':act.eval g= .func (.func f) #[] vs.toArray:=hv;obtain ⟨fd,c1,c2,c3⟩:=(hc (w.heap.size+1)).1;have hb':¬fd.body=none:=by intro h;rw [h] at c3;cases c3
 have hn':¬fd.name= "runtime.NumGoroutine" :=by simpa using c2
 refine ⟨w.heap.size+1,[Ix w.heap.size],w1,{target:= .fn (.func f) vs.toArray,args:= #[CG (w.heap.size+1)]},w1,f,(CG (w.heap.size+1)::vs).toArray,w1,run_enterLoop_outer _ _ _ _ _,?_,fun _ _=>trivial,?_,(fun h=>by cases h),?_⟩
 ·have he:act.eval (.const (CG (w.heap.size+1)))=CG (w.heap.size+1):=rfl;simp only [resolve]
  simp [hv',Deferred.ofValue,he]
 ·simp [invoke,callFunc,c1,hn',hb']
 refine L7 (r:=none) ((IU h2 (hc (w.heap.size+1)) (vs:=CG (w.heap.size+1)::vs) (by simp [hl]) (fun i x v hx hv=>?_) nm (hfe _) (hcn _) (hr0 _) (hE2 _) (hH2 _) (fun r H' hh=>?_)).mono fun e w3 hh=>?_)
 ·cases i with
  | zero=>simp at hx hv;subst hx hv;exact .d (.raw rfl)
  | succ i=>exact hvs i x v (by simpa using hx) (by simpa using hv)
 ·obtain ⟨rfl,y,h3,rfl⟩:=hh;obtain ⟨h4,h5⟩:=hR (w.heap.size+1) y h3;exact ⟨h4,h5,rfl⟩
 ·obtain ⟨v,r,H',ρ3,rfl,⟨rfl,y,hy,rfl⟩,_,h3,_⟩:=hh;obtain ⟨l1,l2,l3⟩:=hL2 (w.heap.size+1) y hy;have hLget:hget ((lf,[.loop (L2 (w.heap.size+1) y)])::H2 y++rest) lf 0=some (.loop (L2 (w.heap.size+1) y)):=by simp [hget,hfam,gl,isM]
  obtain ⟨r3,p1,p2,⟨p3,p4,_⟩,_,_⟩:=h3.heap.sim lf 0 _ hLget;rw [l1] at p1 p2;have h4:=h3.only nm2 hpn hsub (hdrop _ y hy)
  have hnO:¬F.O ρ3 (hpf y) (w.heap.size+1):=fun ho=>by
   rcases ho with ho | ⟨f',i',o',q1,q2⟩
   ·exact h3.heap.notOf ⟨lf,0,_,hLget,by rw [p1];rfl⟩ ho
   ·obtain ⟨m1,_⟩:=Db (hdrop (w.heap.size+1) y hy);have q1':=q1;simp only [hget] at q1'
    cases hf:hfam (hpf y) f' with
    | none=>rw [hf] at q1';cases q1'
    | some x=>
     have q3:hget ((lf,[.loop (L2 (w.heap.size+1) y)])::H2 y++rest) f' i'=some o':=by
      simp only [hget];rw [(m1 f' x hf).2];rw [hf] at q1';exact q1'
     obtain ⟨e1,_⟩:=h3.heap.inj f' i' lf 0 _ _ _ q3 hLget q2 (by rw [p1];rfl);have:=Ek.2 (m1 f' x hf).1;rw [e1,hlf] at this;cases this
  have h5:=h4.putObj (b:=w.heap.size+1) (o':= .loop {r3 with state:= .exhausted}) (ds:=Ix w.heap.size::act.defers) (Nat.le_trans hs.heap.size0 (Nat.le_succ _)) p2 (fun c t x e=>by cases e) hnO ?_
  ·have hend:=run_endLoop (P:=P) p2 (by rw [p3];exact l2);have hpe:r3.pending=pd y:=p4.trans l3;refine ⟨pd y,_,hend.trans (congrArg (fun p=>Result.ok p (w3.putObj (w.heap.size+1) (.loop {r3 with state:= .exhausted}))) hpe),?_⟩;have hk:=hK y hy
   cases hpd:pd y with
   | none=>rw [hpd] at hk;exact ⟨_,ρ3,hk,h5⟩
   | some c=>rw [hpd] at hk;have:=hk ρ3 _ _ h5;rw [hfen] at this;exact this
  ·obtain ⟨bs,d1,d2,d3⟩:=h4.defs;refine ⟨bs,d1,d2,fun b hb=>?_⟩;obtain ⟨e1,e2,e3,e4⟩:=d3 b hb;refine ⟨e1,by rw [World.putObj_size];exact e2,e3,?_⟩;rw [World.putObj_heap_other fun e=>by rw [e,p2] at e4;cases e4];exact e4
def NoGoto (Q:Exit ->AS ->Prop):Exit ->AS ->Prop
 | .goto _,_=>False
 | e,s=>Q e s
theorem Uf {P:Program} {F:Fr} {Q:Exit ->AS ->Prop} {s:AS} {c:Code} (h:Bt P F c (NoGoto Q) s):Bt P F (.scope c) Q s:=fun ρ act w hs b k cs hro hb hr=>by
 have h0:(lone (b.atR act (.code (.scope c)::k)) cs w).fenced P (Oi F.rnd):=fenced_calm hb hr rfl;have s1:step P (lone (b.atR act (.code (.scope c)::k)) cs w)= .next (lone (b.atR act (.code c:: .inScope c::k)) cs w):=step_lone_go (by simp [stepG,stepG.exec,Frame.atR]);obtain ⟨e,a₁,w₁,hq,harr⟩:=h ρ act w hs b (.inScope c::k) cs hro hb hr;obtain ⟨s',ρ',hq,hs'⟩:=hq
 cases e with
 | normal=>exact ⟨.normal,a₁,w₁,⟨s',ρ',hq,hs'⟩,.head h0 s1 (StepsIn.trans harr (.one (fenced_calm hb hr rfl) (step_lone_go (by simp [stepG,stepG.exec,Frame.atR]))))⟩
 | exit id=>
  have hx:exitTo id (.inScope c::k)=exitTo id k:=by simp [exitTo]
  exact ⟨.exit id,a₁,w₁,⟨s',ρ',hq,hs'⟩,fun k' hk=> .head h0 s1 (harr.1 k' (by rw [hx];exact hk)),fun hr' hk=>let ⟨k₁,h1,h2⟩:=harr.2 hr' (by rw [hx];exact hk);⟨k₁,h1,.head h0 s1 h2⟩⟩
 | goto l=>exact hq.elim
 | ret=>exact ⟨_,a₁,w₁,⟨s',ρ',hq,hs'⟩,.of_steps (.one h0 s1) harr⟩
 | panic ch=>exact ⟨_,a₁,w₁,⟨s',ρ',hq,hs'⟩,.of_steps (.one h0 s1) harr⟩
 | outgrown=>exact ⟨_,a₁,w₁,⟨s',ρ',hq,hs'⟩,.of_steps (.one h0 s1) harr⟩
section
variable {α β:Type}
def Bv (step:β ->α ->β×Bool):β ->List α ->β
 | b,[]=>b
 | b,x::r=>match step b x with
  | (b',true)=>Bv step b' r
  | (b',false)=>b'
def Co (P:Program) (l:Nat) (enc:α ->List AV) (H:β ->Hp) (step:β ->α ->β×Bool):β ->List α ->Prop
 | _,[]=>True
 | b,x::r=>ES P l (enc x) (H b) (fun v H'=>v= .d (.raw (.bool (step b x).2))∧H'=H (step b x).1)∧((step b x).2=true ->Co P l enc H step (step b x).1 r)
end
theorem AV.okS_mono {p p':Nat ->Nat ->Bool} (hp:∀f i,p f i=true ->p' f i=true) {a:AV} (h:a.okS p=true):a.okS p'=true:=by
 cases a<;>first | rfl | exact hp _ _ h | cases h
theorem Jt {p p':Nat ->Nat ->Bool} (hp:∀f i,p f i=true ->p' f i=true) {as:List AV} (h:UN p as=true):UN p' as=true:=by
 induction as with
 | nil=>rfl
 | cons a r ih=>
  simp only [UN,Bool.and_eq_true] at h⊢;exact ⟨AV.okS_mono hp h.1,ih h.2⟩
theorem AV.ok_mono {p p':Nat ->Nat ->Bool} (hp:∀f i,p f i=true ->p' f i=true) {a:AV} (h:a.ok p=true):a.ok p'=true:=by
 cases a with
 | tup as=>exact Jt (as:=as) hp h
 | agg as=>exact Jt (as:=as) hp h
 | fn g as=>exact Jt (as:=as) hp h
 | d x=>rfl
 | top=>rfl
 | ptr g i o=>exact hp g i h
 | own g i n=>exact hp g i h
 | rptr g i k e o=>exact hp g i h
 | map g i=>exact hp g i h
 | ifc T nm g i=>exact hp g i h
theorem GA (hp:Hp):Bz (hpN hp) hp=some []:=by
 have key:∀(hp:Hp) (nm:List Nat),(∀f∈hpN hp,f∈nm) ->Bz nm hp=some []:=by
  intro hp
  induction hp with
  | nil=>intro nm _;rfl
  | cons p r ih=>
   intro nm h;obtain ⟨g,l⟩:=p;simp only [Bz,ih nm fun f hf=>h f (List.mem_cons_of_mem _ hf),Ek.2 (h g List.mem_cons_self)]
 exact key hp _ fun _ h=>h
theorem Yt (hp:Hp):AZ (hpN hp) hp=true:=by
 have key:∀(hp:Hp) (nm:List Nat),(∀f∈hpN hp,f∈nm) ->AZ nm hp=true:=by
  intro hp
  induction hp with
  | nil=>intro nm _;rfl
  | cons p r ih=>
   intro nm h;obtain ⟨g,l⟩:=p;simp only [AZ,Bool.and_eq_true];exact ⟨Ek.2 (h g List.mem_cons_self),ih nm fun f hf=>h f (List.mem_cons_of_mem _ hf)⟩
 exact key hp _ fun _ h=>h
theorem Qx {P:Program} {F:Fr} {Q:Exit ->AS ->Prop} {n:Nat} {env:List (Nat×AV)} {hp hp2:Hp} {b:Bool} {ops:Array Oper} {rest':List Oper} {l d:Nat} {x:Operand} {xs:List Operand} {args:List AV} {at_:Array TypeId} {ty:TypeId} {pos:String} {aft:Array Edge}
  (hc:ES P l args hp fun r H'=>r= .d (.raw (.bool b))∧H'=hp2) (hx:AS.ev ⟨n,env,hp⟩ x=some (.d (.raw (CG l)))) (hargs:Kv ⟨n,env,hp⟩ xs=some args)
  (hN:hpN hp2=hpN hp) (hI:DM (hpN hp) hp2=true) (hE:H1 (fun _ _=>false) env=true) (hd:Nat.blt d n=true)
  (hK:Aq P F ops rest' Q ⟨n,(d,.d (.raw (.bool b)))::env,hp2⟩):
  Aq P F ops (⟨some d,.call {callee:= .value x,args:=xs.toArray,argTypes:=at_},ty,pos,aft,none⟩::rest') Q ⟨n,env,hp⟩:=by
 have hE':∀p,Bq p env=some env:=fun p=>by
  clear hx hargs hK
  induction env with
  | nil=>rfl
  | cons q r ih=>
   obtain ⟨t,a⟩:=q;simp only [H1,Bool.and_eq_true] at hE;have h1:a.ok p=true:=AV.ok_mono (fun _ _ h=>by cases h) hE.1;simp only [Bq,ih hE.2,h1]
 refine Mg hx hargs hc (hpN hp) (Zdm fun _ _=>rfl) (Yt hp) (GA hp) (hE' _) rfl (fun r H' ⟨e1,e2⟩=>by subst e1 e2;exact ⟨by rw [←hN];exact Yt _,hI,rfl⟩) hd fun r H' ⟨e1,e2⟩=>?_;subst e1 e2;rw [List.append_nil];exact hK
theorem CR.mem {hp CH:Hp} {nm:List Nat} (h:CR hp CH nm) {g:Nat} (hg:g∈nm):hfam hp g=hfam CH g:=by
 induction nm with
 | nil=>cases hg
 | cons a r ih=>
  rcases List.mem_cons.1 hg with rfl | hg
  ·exact h.1
  ·exact ih h.2 hg
theorem ME {P:Program} {F:Fr} {Q:Exit ->AS ->Prop} {γ:Type} {n:Nat} {env env' env'':List (Nat×AV)} {hp hp1:Hp} {g:Operand} {ps:Array Tmp} {assign body:Code} {a:AV} {f:FuncId} {caps:List AV} (hF:F.flat) (lf:Nat) (hE:Ad lf env=some env') (hg:AS.ev ⟨n,env',hp⟩ g=some a) (hfn:Og a=some (f,caps))
  (hH:A7 lf hp=some hp1) (hfr:hfam hp1 lf=none) (nm:List Nat) {CHr rest0 rest:Hp} (RR:γ ->Prop) (H2:γ ->Hp) (st:γ ->LoopState) (pd:γ ->Option Code)
  (hfe:CR hp1 CHr nm) (hcn:AZ nm CHr=true) (hlf:memB lf nm=false) (hr0:Bz (lf::nm) hp1=some rest0) (hE2:∀L:Gx,Bq (CA ((lf,[.loop L])::CHr) (lf::nm)) env'=some env'') (hH2:∀L:Gx,CI (CA ((lf,[.loop L])::CHr) (lf::nm)) rest0=some rest)
  (hI:H1 (H6 (lf::nm)) env'=true) (hst:∀y,RR y ->st y≠ .busy) (hR:∀y,RR y ->AZ (lf::nm) (H2 y)=true∧DM (lf::nm) (H2 y)=true)
  {pn:List Nat} (nm2:List Nat) (hpn:F.pn=pn) (hsub:IY pn nm2=true) (hlf2:memB lf nm2=false) (hdrop:∀y,RR y ->An (H2 y++rest) nm2=some (H2 y++rest))
  (hc:∀l (A B:Code),A=assign ->B=body ->A2 P f (.d (.raw (CG l))::caps) ((lf,[.loop ⟨l,n,env',.ready,none,ps,A,B⟩])::CHr) fun r H'=>r= .tup []∧∃y,RR y∧H'=(lf,[.loop ⟨l,n,env',st y,pd y,ps,A,B⟩])::H2 y)
  (hK:∀y,RR y ->match pd y with | none=>Q .normal ⟨n,env'',H2 y++rest⟩ | some c=>Bt P F c Q ⟨n,env'',H2 y++rest⟩):
  Bt P F (.rangeFunc g ps assign body) Q ⟨n,env,hp⟩:=by
 have hnm:∀f',f'∈nm ->f'≠lf:=fun f' h e=>by
  have:=Ek.2 (e▸h);rw [hlf] at this;cases this
 have hpc:∀(x:List AQ) (hq:Hp) (l:List Nat),memB lf l=false ->An ((lf,x)::hq) l=An hq l:=fun x hq l hl=>by
  induction l with
  | nil=>rfl
  | cons a r ih=>
   simp only [memB,Bool.or_eq_false_iff] at hl;have hne:Nat.beq lf a=false:=ER fun e=>(Nat.ne_of_beq_eq_false hl.1) e.symm;simp only [An,ih hl.2,hfam,hne]
 refine Rx (s:=⟨n,env,hp⟩) (γ:=γ) (RR:=RR) (H2:=H2) (pd:=pd) (hpf:=fun y=>H2 y++rest) hF hfn lf hg (fun l y=>⟨l,n,env',st y,pd y,ps,assign,body⟩) (hp':=fun l=>(lf,[.loop ⟨l,n,env',.ready,none,ps,assign,body⟩])::hp1) (CH:=fun l=>(lf,[.loop ⟨l,n,env',.ready,none,ps,assign,body⟩])::CHr) hE hH (fun l=>by simp only [Ct,hfr,Qz]) (fun l=>hc l _ _ Z Z) (fun l y hy=>⟨rfl,hst y hy,rfl⟩)
  (lf::nm) (fun l=>Zdm fun g hg=>?_) (fun l=>?_) (fun l=>?_) (fun l=>hE2 _) (fun l=>hH2 _) (fun l y hy=>?_) nm2 hlf2 hpn hsub (fun l y hy=>?_) hK
 ·rcases List.mem_cons.1 hg with rfl | hg
  ·simp [hfam]
  ·simp only [hfam,ER (fun e=>hnm g hg e.symm)];exact hfe.mem hg
 ·simp only [AZ,Bool.and_eq_true];refine ⟨Ek.2 List.mem_cons_self,?_⟩
  have key:∀(H:Hp),AZ nm H=true ->AZ (lf::nm) H=true:=by
   intro H
   induction H with
   | nil=>intro _;rfl
   | cons p r ih=>
    obtain ⟨k,x⟩:=p;simp only [AZ,Bool.and_eq_true]
    exact fun ⟨h1,h2⟩=>⟨Ek.2 (List.mem_cons_of_mem _ (Ek.1 h1)),ih h2⟩
  exact key _ hcn
 ·simp only [Bz,hr0,Ek.2 (List.mem_cons_self (a:=lf) (l:=nm))]
 ·obtain ⟨h1,h2⟩:=hR y hy;simp only [AZ,DM,BB,Bool.and_eq_true,Bool.and_true];exact ⟨⟨Ek.2 List.mem_cons_self,h1⟩,hI,h2⟩
 ·rw [List.cons_append,hpc _ _ _ hlf2];exact hdrop y hy
end Go.Proofs.YtnkkaeblokdifaaGreat
