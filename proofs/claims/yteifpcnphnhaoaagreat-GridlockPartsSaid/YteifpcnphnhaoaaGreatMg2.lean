import Derived.Test.YteifpcnphnhaoaaGreatMg1
import Derived.Deep.MidRow
import Derived.Laws.Panics
import Derived.RangeFuncLeaves
import Derived.RangeFuncRecord
import Derived.TacticsIn
import Derived.RangeFuncCalls
import Derived.OrdersIn
namespace Go.Proofs.YteifpcnphnhaoaaGreat
open Go.RowKit
variable {p:Nat ->Nat ->Bool} {a:Nat ->Nat ->Value} {w:World} {e:Value} {g:Nat} {h:Nat ->Prop} {j m:Nat} {n:Nat ->Nat ->Value} {t:Nat} {q:Array Value} {P:Program} {s:Act} {u:Option Nat} {y z G:Nat} {H:World}
theorem IP {a:Nat} (h:a≠j):Nat.beq a j=false:=by grind [ωb]
inductive D where
 | raw (v:Value)
 | sl (nil:Option Bool) (xs:List D)
 | agg (cs:List D)
 | ptr (x:D)
 | tup (cs:List D)
 | fn (g:FuncId) (fs caps:List D)
def D.cells:D ->List D
 | .agg cs=>cs
 | x=> [x]
def D.one:D ->Bool
 | .agg _=>false
 | .tup _=>false
 | _=>true
inductive A1 (w:World) (O:Nat ->Prop):D ->Value ->Prop
 | raw {v:Value} (h:v.oneCell'=true):A1 w O (.raw v) v
 | agg {cs:List D} {vs:List Value} (hl:vs.length=cs.length) (h1:∀c∈cs,c.one=true) (h:∀(i:Nat) c v,cs[i]? =some c ->vs[i]? =some v ->A1 w O c v):A1 w O (.agg cs) (.agg vs.toArray)
 | tup {cs:List D} {vs:List Value} (hl:vs.length=cs.length) (h:∀(i:Nat) c v,cs[i]? =some c ->vs[i]? =some v ->A1 w O c v):A1 w O (.tup cs) (.tuple vs.toArray)
 | ptr {x:D} {b o:Nat} (us:Nat ->Value) (hb:b<w.heap.size) (hO:¬O b) (h1:∀c∈x.cells,c.one=true)
   (hc:∀(j:Nat) c,x.cells[j]? =some c ->w.cell? ⟨b,o+j,none⟩=some (us j)) (hu:∀(j:Nat) c,x.cells[j]? =some c ->A1 w O c (us j)):A1 w O (.ptr x) (.pointer (some ⟨b,o,none⟩))
 | sl {nil:Option Bool} {xs:List D} {a:Option Addr} {n cap:Nat} (k:Nat) (hn:∀b,nil=some b ->a.isNone=b) (hz:a=none ->cap=0) (hln:xs.length=n) (hc:n<=cap) (hm:cap<=maxLen) (hk:∀x∈xs,x.cells.length=k)
   (ha:xs≠ [] ->∃b o,a=some ⟨b,o,none⟩)
   (hp:∀b o,a=some ⟨b,o,none⟩ ->∀(i:Nat) x,xs[i]? =some x ->A1 w O (.ptr x) (.pointer (some ⟨b,o+i*k,none⟩))):A1 w O (.sl nil xs) (.slice a n cap)
 | fn {g:FuncId} {fs caps:List D} {us vs:List Value} (hf:us.length=fs.length) (hl:vs.length=caps.length) (h1:∀(i:Nat) c v,fs[i]? =some c ->us[i]? =some v ->A1 w O c v) (h:∀(i:Nat) c v,caps[i]? =some c ->vs[i]? =some v ->A1 w O c v):A1 w O (.fn g fs caps) (.func (.func g) us.toArray vs.toArray)
variable {I:D}
theorem A1.mono {w w':World} {O':Nat ->Prop} (A:w.heap.size<=w'.heap.size) (C:∀b,b<w.heap.size ->¬h b ->w'.heap[b]? =w.heap[b]?) (u:∀b,b<w.heap.size ->O' b ->h b)
 (a:A1 w h I e):A1 w' O' I e:=by
 induction a with
 | raw a=>exact .raw a
 | agg f l _ d=>exact .agg f l d
 | tup f _ d=>exact .tup f d
 | ptr m z l y D _ d=>
  refine .ptr m (by omega) (λa=>l (u _ z a)) y (λj c B=>?_) d
  grind [World.cell?_of_block]
 | sl k o n i s p q t _ d=>exact .sl k o n i s p q t d
 | fn r f _ _ g d=>exact .fn r f g d
theorem A1.oneCell (a:A1 w h I e) (b:I.one=true):e.oneCell'=true:=by
 cases a with
 | raw a=>exact a
 | agg _ _ _=>cases b
 | tup _ _=>cases b
 | ptr _ _ _ _ _ _=>rfl
 | sl _ _ _ _ _ _ _ _ _=>rfl
 | fn _ _ _ _=>rfl
inductive AV where
 | d (x:D)
 | top
 | tup (as:List AV)
 | agg (as:List AV)
 | ptr (f i off:Nat)
 | own (f i n:Nat)
 | rptr (f i k e off:Nat)
 | map (f i:Nat)
 | fn (g:FuncId) (caps:List AV)
 | ifc (T:TypeId) (nm:Option String) (f i:Nat)
def ifcV (T:TypeId) (nm:Option String) (b:Nat):Value:=match nm with
 | none=> .iface T (.pointer (some ⟨b,0,none⟩))
 | some s=> .func (.method s) #[.iface T (.pointer (some ⟨b,0,none⟩))] #[]
inductive A9 (w:World) (O:Nat ->Prop) (ρ:Nat ->Nat ->Value):AV ->Value ->Prop
 | d {x:D} {v:Value} (h:A1 w O x v):A9 w O ρ (.d x) v
 | top {v:Value}:A9 w O ρ .top v
 | tup {as:List AV} {vs:List Value} (hl:vs.length=as.length) (h:∀(i:Nat) a v,as[i]? =some a ->vs[i]? =some v ->A9 w O ρ a v):A9 w O ρ (.tup as) (.tuple vs.toArray)
 | agg {as:List AV} {vs:List Value} (hl:vs.length=as.length) (h1:∀v∈vs,v.oneCell'=true) (h:∀(i:Nat) a v,as[i]? =some a ->vs[i]? =some v ->A9 w O ρ a v):A9 w O ρ (.agg as) (.agg vs.toArray)
 | ptr {f i off b:Nat} (h:ρ f i= .pointer (some ⟨b,0,none⟩)):A9 w O ρ (.ptr f i off) (.pointer (some ⟨b,off,none⟩))
 | own {f i n N cap:Nat} {a:Option Addr} (h:ρ f i= .slice a N cap) (hn:n<=N):A9 w O ρ (.own f i n) (.slice a n cap)
 | rptr {f i k e off b N cap:Nat} (h:ρ f i= .slice (some ⟨b,0,none⟩) N cap):A9 w O ρ (.rptr f i k e off) (.pointer (some ⟨b,e*k+off,none⟩))
 | map {f i m:Nat} (h:ρ f i= .map (some m)):A9 w O ρ (.map f i) (.map (some m))
 | ifc {T:TypeId} {nm:Option String} {f i b:Nat} (h:ρ f i= .pointer (some ⟨b,0,none⟩)):A9 w O ρ (.ifc T nm f i) (ifcV T nm b)
 | fn {g:FuncId} {caps:List AV} {vs:List Value} (hl:vs.length=caps.length) (h:∀(i:Nat) a v,caps[i]? =some a ->vs[i]? =some v ->A9 w O ρ a v):A9 w O ρ (.fn g caps) (.func (.func g) #[] vs.toArray)
inductive AV.Refs:AV ->Nat ->Nat ->Prop
 | tup {as:List AV} {a:AV} {f i:Nat} (hm:a∈as) (h:a.Refs f i):(AV.tup as).Refs f i
 | agg {as:List AV} {a:AV} {f i:Nat} (hm:a∈as) (h:a.Refs f i):(AV.agg as).Refs f i
 | fn {g:FuncId} {as:List AV} {a:AV} {f i:Nat} (hm:a∈as) (h:a.Refs f i):(AV.fn g as).Refs f i
 | ptr {f i off:Nat}:(AV.ptr f i off).Refs f i
 | own {f i n:Nat}:(AV.own f i n).Refs f i
 | rptr {f i k e off:Nat}:(AV.rptr f i k e off).Refs f i
 | map {f i:Nat}:(AV.map f i).Refs f i
 | ifc {T:TypeId} {nm:Option String} {f i:Nat}:(AV.ifc T nm f i).Refs f i
variable {d:AV}
theorem A9.mono {w w':World} {O O':Nat ->Prop} {o g:Nat ->Nat ->Value} (p:w.heap.size<=w'.heap.size) (r:∀b,b<w.heap.size ->¬O b ->w'.heap[b]? =w.heap[b]?) (s:∀b,b<w.heap.size ->O' b ->O b)
  {a:AV} {v:Value} (h:A9 w O o a v) (c:∀f i,a.Refs f i ->g f i=o f i):A9 w' O' g a v:=by
 induction h with
 | d h=>exact .d (h.mono p r s)
 | top=>exact .top
 | tup m _ k=>exact .tup m λi a v e l=>k i a v e l λf j n=>c f j (.tup (ξ e) n)
 | agg m t _ k=>exact .agg m t λi a v e l=>k i a v e l λf j n=>c f j (.agg (ξ e) n)
 | ptr h=>exact .ptr ((c _ _ .ptr).trans h)
 | own h q=>exact .own ((c _ _ .own).trans h) q
 | rptr h=>exact .rptr ((c _ _ .rptr).trans h)
 | map h=>exact .map ((c _ _ .map).trans h)
 | ifc h=>exact .ifc ((c _ _ .ifc).trans h)
 | fn m _ k=>exact .fn m λi a v e l=>k i a v e l λf j n=>c f j (.fn (ξ e) n)
def get:List (Nat×AV) ->Nat ->Option AV
 | [],_=>none
 | (k,v)::r,t=>match Nat.beq k t with
  | true=>some v
  | false=>get r t
structure IL where
 id:Nat
 n:Nat
 env:List (Nat×AV)
 st:LoopState
 pend:Option Code
 ps:Array Tmp
 asg:Code
 body:Code
inductive Ap where
 | cells (t:TypeId) (cs:List D)
 | row (t:TypeId) (k cap:Nat) (xs:List D)
 | map (bs:Option (List Nat×Nat)) (es:List (D×D))
inductive AN where
 | blk (t:TypeId) (cs:List AV)
 | row (t:TypeId) (k:Nat) (xs:List AV)
 | rowD (t:TypeId) (k:Nat) (xs:List D)
 | loop (L:IL)
 | map (bs:Option (List Nat×Nat)) (es:List (D×D))
 | iter (f i:Nat) (c:Nat) (seen:List Nat)
 | addr (f i:Nat) (v:Value)
 | any
 | nb (b:Nat) (t:TypeId) (cs:List D)
 | nr (b:Nat) (t:TypeId) (k cap:Nat) (xs:List D)
 | nm (b:Nat) (bs:Option (List Nat×Nat)) (es:List (D×D))
 | itz
 | multi (M:Nat ->Option Ap)
def AV.cells:AV ->List AV
 | .agg cs=>cs
 | .d (.agg cs)=>cs.map .d
 | a=> [a]
def GG {α:Type} (cells:α ->List α) (k:Nat) (R:α ->Value ->Prop) (xs:List α) (us:List Value):Prop:=
 us.length=xs.length*k/\(∀x∈xs,(cells x).length=k)/\∀(i:Nat) x,xs[i]? =some x ->∀(j:Nat) c,(cells x)[j]? =some c ->∃u,us[i*k+j]? =some u/\u.oneCell'=true/\R c u
def Av (w:World) (O:Nat ->Prop) (ρ:Nat ->Nat ->Value):AN ->Value ->Prop
 | .blk t cs,v=>∃(b:Nat) (us:List Value),v= .pointer (some ⟨b,0,none⟩)/\w.heap[b]? =some (.cells us.toArray t (0,0))/\us.length=cs.length/\
   (∀(j:Nat) c u,cs[j]? =some c ->us[j]? =some u ->A9 w O ρ c u)/\∀u∈us,u.oneCell'=true
 | .row t k xs,v=>∃us:List Value,w.ownsRow 0 t k v xs.length us/\GG AV.cells k (A9 w O ρ) xs us
 | .rowD t k xs,v=>∃us:List Value,w.ownsRow 0 t k v xs.length us/\GG D.cells k (A1 w O) xs us/\∀x∈xs,∀c∈x.cells,c.one=true
 | .loop L,v=>∃r:Loop,v= .pointer (some ⟨L.id,0,none⟩)/\w.heap[L.id]? =some (.loop r)/\(r.state=L.st/\r.pending=L.pend/\r.params=L.ps/\r.assign=L.asg/\r.body=L.body)/\r.tmps.size=L.n/\
   ∀t a,get L.env t=some a ->A9 w O ρ a (r.tmps.getD t undef)
 | .map bs es,v=>∃(m:Nat) (arr:Array MapEntry) (c:Nat),v= .map (some m)/\w.heap[m]? =some (.map arr c)/\arr.size=es.length/\(∀(i:Nat) e x,arr[i]? =some e ->es[i]? =some x ->A1 w O x.1 e.key/\A1 w O x.2 e.val)/\
   (arr.toList.map (·.born)).Nodup/\(∀e∈arr.toList,e.born<c)/\∀B c',bs=some (B,c') ->B=arr.toList.map (·.born)/\c'=c
 | .iter f i c seen,v=>∃(r m:Nat) (sn:Array Nat),v= .pointer (some ⟨r,0,none⟩)/\ρ f i= .map (some m)/\w.heap[r]? =some (.mapIter (some m) c sn c)/\sn.toList=seen
 | .addr f i v,u=>u= .nilFunc/\ρ f i=v
 | .any,_=>True
 | .nb b t cs,v=>v= .pointer (some ⟨b,0,none⟩)/\∃us:List Value,w.heap[b]? =some (.cells us.toArray t (0,0))/\us.length=cs.length/\(∀(j:Nat) c u,cs[j]? =some c ->us[j]? =some u ->A1 w O c u)/\∀u∈us,u.oneCell'=true
 | .nr b t k cap xs,v=>v= .pointer (some ⟨b,0,none⟩)/\∃us:List Value,w.ownsRow 0 t k (.slice (some ⟨b,0,none⟩) xs.length cap) xs.length us/\GG D.cells k (A1 w O) xs us/\∀x∈xs,∀c∈x.cells,c.one=true
 | .nm b bs es,v=>v= .map (some b)/\∃(arr:Array MapEntry) (c:Nat),w.heap[b]? =some (.map arr c)/\arr.size=es.length/\(∀(i:Nat) e x,arr[i]? =some e ->es[i]? =some x ->A1 w O x.1 e.key/\A1 w O x.2 e.val)/\
   (arr.toList.map (·.born)).Nodup/\(∀e∈arr.toList,e.born<c)/\∀B c',bs=some (B,c') ->B=arr.toList.map (·.born)/\c'=c
 | .itz,v=>∃r:Nat,v= .pointer (some ⟨r,0,none⟩)/\w.heap[r]? =some (.mapIter none 0 #[] 0)
 | .multi _,_=>True
def Ap.at_ (b:Nat):Ap ->AN
 | .cells t cs=> .nb b t cs
 | .row t k cap xs=> .nr b t k cap xs
 | .map bs es=> .nm b bs es
def AN.Refs:AN ->Nat ->Nat ->Prop
 | .blk _ cs,f,i=>∃c∈cs,c.Refs f i
 | .row _ _ xs,f,i=>∃x∈xs,∃c∈x.cells,c.Refs f i
 | .rowD _ _ _,_,_=>False
 | .loop L,f,i=>∃t a,get L.env t=some a/\a.Refs f i
 | .map _ _,_,_=>False
 | .iter g j _ _,f,i=>f=g/\i=j
 | .addr g j _,f,i=>f=g/\i=j
 | .any,_,_=>False
 | .nb _ _ _,_,_=>False
 | .nr _ _ _ _ _,_,_=>False
 | .nm _ _ _,_,_=>False
 | .itz,_,_=>False
 | .multi _,_,_=>False
def Bu:Value ->Option Nat
 | .pointer (some a)=>some a.block
 | .slice (some a) _ _=>some a.block
 | .map m=>m
 | _=>none
theorem Ha {d:Nat} {a:TypeId} {c:Nat} {j:List Value} (h:w.ownsRow d a c e z j) (l:∀b,Bu e=some b ->H.heap[b]? =w.heap[b]?):H.ownsRow d a c e z j:=by
 refine ⟨h.1,?_⟩;rcases h.2 with q | ⟨g,i,f,k,p,o,m⟩
 .exact .inl q
 .exact .inr ⟨g,i,f,k,p,by rw [l g (by rw [k];rfl)];exact o,m⟩
theorem GG.mono {b:Type} {a:b ->List b} {R f:b ->Value ->Prop} {d:List b} {e:List Value} (h:GG a G R d e) (g:∀x∈d,∀c∈a x,∀u,R c u ->f c u):GG a G f d e:=by grind [GG]
variable {x:AN}
theorem Av.mono {w w':World} {O':Nat ->Prop} (A:w.heap.size<=w'.heap.size) (B:∀b,b<w.heap.size ->¬h b ->w'.heap[b]? =w.heap[b]?) (C:∀b,b<w.heap.size ->O' b ->h b)
 (g:Av w h a x e) (z:∀b,Bu e=some b ->w'.heap[b]? =w.heap[b]?) (J:∀f i,x.Refs f i ->n f i=a f i):Av w' O' n x e:=by
 cases x with
 | blk t V=>
  obtain ⟨b,D,rfl,q,y,s,G⟩:=g;exact ⟨b,D,Z,by rw [z b rfl];exact q,y,λj c u H F=>(s j c u H F).mono A B C λf i K=>J f i ⟨c,ξ H,K⟩,G⟩
 | row t k R=>
  obtain ⟨D,q,y⟩:=g;exact ⟨D,Ha q z,y.mono λd E c H u F=>F.mono A B C λf i K=>J f i ⟨d,E,c,H,K⟩⟩
 | rowD t k R=>
  obtain ⟨D,q,y,s⟩:=g;exact ⟨D,Ha q z,y.mono λd E c H u F=>F.mono A B C,s⟩
 | loop L=>
  obtain ⟨r,rfl,q,y,s,G⟩:=g;exact ⟨r,Z,by rw [z _ rfl];exact q,y,s,λt p S=>(G t p S).mono A B C λf i K=>J f i ⟨t,p,S,K⟩⟩
 | map X U=>
  obtain ⟨m,I,c,rfl,q,y,s,G,Q,P⟩:=g;exact ⟨m,I,c,Z,by rw [z _ rfl];exact q,y,λi l d N E=>⟨(s i l d N E).1.mono A B C,(s i l d N E).2.mono A B C⟩,G,Q,P⟩
 | iter f i c seen=>
  obtain ⟨r,m,T,rfl,q,y,s⟩:=g;exact ⟨r,m,T,Z,(J f i ⟨Z,Z⟩).trans q,by rw [z _ rfl];exact y,s⟩
 | addr f i u=>exact ⟨g.1,(J f i ⟨Z,Z⟩).trans g.2⟩
 | any=>trivial
 | nb b t V=>
  obtain ⟨rfl,D,q,y,s,G⟩:=g;exact ⟨Z,D,by rw [z _ rfl];exact q,y,λj c u H F=>(s j c u H F).mono A B C,G⟩
 | nr b t k W R=>
  obtain ⟨rfl,D,q,y,s⟩:=g;exact ⟨Z,D,Ha q z,y.mono λd E c H u F=>F.mono A B C,s⟩
 | nm b X U=>
  obtain ⟨rfl,I,c,q,y,s,G,Q,P⟩:=g;exact ⟨Z,I,c,by rw [z _ rfl];exact q,y,λi l d N E=>⟨(s i l d N E).1.mono A B C,(s i l d N E).2.mono A B C⟩,G,Q,P⟩
 | itz=>obtain ⟨r,rfl,q⟩:=g;exact ⟨r,Z,by rw [z _ rfl];exact q⟩
 | multi M=>trivial
structure AS where
 n:Nat
 env:List (Nat×AV)
 hp:List (Nat×List AN)
def hfam:List (Nat×List AN) ->Nat ->Option (List AN)
 | [],_=>none
 | (k,v)::r,t=>match Nat.beq k t with
  | true=>some v
  | false=>hfam r t
def hpN:List (Nat×List AN) ->List Nat
 | []=> []
 | (f,_)::r=>f::hpN r
variable {c:List (Nat×List AN)} {i:List AN}
theorem hpN_mem (h:hfam c g=some i):g∈hpN c:=by
 induction c with
 | nil=>cases h
 | cons p r a=>
  grind [hfam,ωb,hpN]
def isM:List AN ->Option (Nat ->Option Ap)
 | [o]=>match o with
  | .multi M=>some M
  | _=>none
 | _=>none
def gl (l:List AN) (i:Nat):Option AN:=match isM l with
 | some M=>(M i).map (Ap.at_ i)
 | none=>l[i]?
def Ty:AN ->Bool
 | .multi _=>false
 | _=>true
theorem YJ (h:Ty x=true):isM [x]=none:=by cases x<;>first | rfl | cases h
theorem MZ {o:AN} (h:Ty o=true) (i:Nat):gl [o] i=[o][i]?:=by unfold gl;rw [YJ h]
variable {M:Nat ->Option Ap}
theorem PH (h:isM i=some M):i=[.multi M]:=by
 match i,h with
 | [o],h=>cases o<;>first | (injection h with h;subst h;rfl) | cases h
 | [],h=>cases h
 | _::_::_,h=>cases h
variable {C:Ap}
theorem Ap.norefs:¬(C.at_ j).Refs g m:=by cases C<;>exact λh=>h
variable {E:List AV}
theorem Ap.notBlk {t:TypeId}:C.at_ j≠ .blk t E:=by cases C<;>exact λh=>nomatch h
theorem gl_mem (h:gl i m=some x):x∈i\/∃(M:Nat ->Option Ap) (a:Ap),i=[.multi M]/\M m=some a/\x=a.at_ m:=by
 unfold gl at h
 split at h
 .rename_i M b
  cases hm:M m with
  | none=>rw [hm] at h;cases h
  | some a=>rw [hm] at h;injection h with h;exact .inr ⟨M,a,PH b,hm,h.symm⟩
 grind
def hget (hp:List (Nat×List AN)) (f i:Nat):Option AN:=(hfam hp f).bind (gl · i)
inductive DS where
 | marks (m:Nat)
 | exact (L:List Deferred)
def DS.le:DS ->Nat ->Prop
 | .marks m,n=>m<=n
 | .exact _,_=>False
structure Fr where
 rnd:Option Nat
 lo:DS
 w0:World
 Of:Nat ->Prop
 own0:Nat ->Prop
 pin:Nat ->Nat ->Option Nat
 hOf:∀b,Of b ->b<w0.heap.size/\¬own0 b
 pn:List Nat
 hpn:∀f i b,pin f i=some b ->f∈pn
def BK (ρ:Nat ->Nat ->Value) (hp:List (Nat×List AN)) (b:Nat):Prop:=∃f i o,hget hp f i=some o/\Bu (ρ f i)=some b
def Fr.O (F:Fr) (ρ:Nat ->Nat ->Value) (hp:List (Nat×List AN)) (b:Nat):Prop:=F.Of b\/BK ρ hp b
structure Ba (F:Fr) (hp:List (Nat×List AN)) (ρ:Nat ->Nat ->Value) (w:World):Prop where
 sim:∀f i o,hget hp f i=some o ->Av w (F.O ρ hp) ρ o (ρ f i)
 inj:∀f i f' i' o o' b,hget hp f i=some o ->hget hp f' i'=some o' ->Bu (ρ f i)=some b ->Bu (ρ f' i')=some b ->f=f'/\i=i'
 mine:∀b,BK ρ hp b ->b<w.heap.size/\(F.own0 b\/F.w0.heap.size<=b)
 os:w.os=F.w0.os
 tape:w.tape=F.w0.tape
 output:w.output=F.w0.output
 size0:F.w0.heap.size<=w.heap.size
 keep:∀b,b<F.w0.heap.size ->¬F.own0 b ->w.heap[b]? =F.w0.heap[b]?
 pins:∀f i b,F.pin f i=some b ->ρ f i= .pointer (some ⟨b,0,none⟩)/\∃t cs,hget hp f i=some (.blk t cs)
 drawn:F.w0.drawn<=w.drawn
def Jy (b:Nat):Deferred:={target:= .collected b,args:= #[]}
def IC (d:DS) (w:World) (O:Nat ->Prop) (ds:List Deferred):Prop:=match d with
 | .marks m=>∃bs:List Nat,ds=bs.map Jy/\bs.Nodup/\∀b∈bs,m<=b/\b<w.heap.size/\¬O b/\w.heap[b]? =some (.deferred (some []))
 | .exact L=>ds=L
theorem IC.nil {m:Nat}:IC (.marks m) w h []:=⟨[],Z,List.nodup_nil,λ_ a=>nomatch a⟩
theorem IC.mono {d:DS} {w w':World} {O':Nat ->Prop} {c:List Deferred} (a:IC d w h c) (e:w.heap.size<=w'.heap.size) (f:∀b,b<w.heap.size ->¬h b ->w'.heap[b]? =w.heap[b]?) (g:∀b,b<w.heap.size ->O' b ->h b):IC d w' O' c:=by
 cases d with
 | exact L=>exact a
 | marks m=>
  grind [IC]
structure SR (F:Fr) (s:AS) (ρ:Nat ->Nat ->Value) (act:Act) (w:World):Prop where
 size:act.tmps.size=s.n
 defs:IC F.lo w (F.O ρ s.hp) act.defers
 env:∀t a,get s.env t=some a ->A9 w (F.O ρ s.hp) ρ a (act.tmps.getD t undef)
 heap:Ba F s.hp ρ w
variable {F:Fr}
theorem Ba.notOf (h:Ba F c a w) (f:BK a c j):¬F.Of j:=λe=>by
 have g:=F.hOf j e;have d:=(h.mine j f).2;rcases d with d | d
 .exact g.2 d
 .omega
theorem Jj (h:y<s.tmps.size):(s.put (some y) e).tmps.getD y undef=e:=by
 simp [Act.put,Array.getD,h]
theorem NG (h:y≠t):(s.put (some y) e).tmps.getD t undef=s.tmps.getD t undef:=by
 simp only [Act.put,ψh];rw [Array.getElem?_setIfInBounds_ne h]
def AS.put (s:AS) (d:Nat) (a:AV):AS:=⟨s.n,(d,a)::s.env,s.hp⟩
theorem Mp {v:AV} {r:List (Nat×AV)} (h:get ((G,v)::r) t=some d):(G=t/\v=d)\/(G≠t/\get r t=some d):=by
 unfold get at h
 split at h
 .simp_all
 grind [ωx]
theorem SR.put {F:Fr} {s:AS} {c:Nat ->Nat ->Value} {b:Act} {w:World} (h:SR F s c b w) {d:Nat} (g:d<s.n) {a:AV} {v:Value} (i:A9 w (F.O c s.hp) c a v):SR F (s.put d a) c (b.put (some d) v) w where
 size:=by have:=h.size;simpa [Act.put,AS.put] using this
 defs:=h.defs
 env:=λt x e=>by
  rcases Mp e with ⟨rfl,rfl⟩ | ⟨f,e⟩
  .rw [Jj (by rw [h.size];exact g)];exact i
  .rw [NG f];exact h.env t x e
 heap:=h.heap
def AV.okS (p:Nat ->Nat ->Bool):AV ->Bool
 | .d _=>true
 | .top=>true
 | .ptr g i _=>p g i
 | .own g i _=>p g i
 | .rptr g i _ _ _=>p g i
 | .map g i=>p g i
 | .ifc _ _ g i=>p g i
 | _=>false
def Zb (p:Nat ->Nat ->Bool):List AV ->Bool
 | []=>true
 | a::r=>a.okS p && Zb p r
def AV.ok (p:Nat ->Nat ->Bool):AV ->Bool
 | .tup as=>Zb p as
 | .agg as=>Zb p as
 | .fn _ as=>Zb p as
 | a=>a.okS p
theorem AV.okS_spec (h:d.okS p=true) (b:d.Refs g m):p g m=true:=by
 cases b with
 | tup _ _=>simp [AV.okS] at h
 | agg _ _=>simp [AV.okS] at h
 | fn _ _=>simp [AV.okS] at h
 | ptr=>exact h
 | own=>exact h
 | rptr=>exact h
 | map=>exact h
 | ifc=>exact h
variable {o:List AV}
theorem Fo (h:Zb p o=true) (b:d∈o) (e:d.Refs g m):p g m=true:=by
 induction o with
 | nil=>cases b
 | cons x r c=>
  grind [Zb,AV.okS_spec]
theorem AV.ok_spec (h:d.ok p=true) (b:d.Refs g m):p g m=true:=by
 cases b with
 | tup c b=>exact Fo h c b
 | agg c b=>exact Fo h c b
 | fn c b=>exact Fo h c b
 | ptr=>exact h
 | own=>exact h
 | rptr=>exact h
 | map=>exact h
 | ifc=>exact h
def okC (p:Nat ->Nat ->Bool):List AV ->Bool
 | []=>true
 | a::r=>a.ok p && okC p r
theorem On (h:okC p o=true) (b:d∈o) (e:d.Refs g m):p g m=true:=by
 induction o with
 | nil=>cases b
 | cons x r c=>
  grind [okC,AV.ok_spec]
def NB (p:Nat ->Nat ->Bool):List (Nat×AV) ->Bool
 | []=>true
 | (_,a)::r=>a.ok p && NB p r
variable {k:List (Nat×AV)}
theorem Om (h:NB p k=true) (b:get k t=some d) (e:d.Refs g m):p g m=true:=by
 induction k with
 | nil=>cases b
 | cons q r c=>
  grind [NB,Mp,AV.ok_spec]
def Bw (p:Nat ->Nat ->Bool):List (Nat×AV) ->Option (List (Nat×AV))
 | []=>some []
 | (t,a)::r=>match Bw p r with
  | none=>none
  | some r'=>match a.ok p with
   | true=>some ((t,a)::r')
   | false=>some ((t,.top)::r')
def PB (p:Nat ->Nat ->Bool):List AV ->Option (List AV)
 | []=>some []
 | a::r=>match PB p r with
  | none=>none
  | some r'=>match a.ok p with
   | true=>some (a::r')
   | false=>some (.top::r')
def CU (p:Nat ->Nat ->Bool):AN ->Option AN
 | .blk t cs=>match PB p cs with
  | none=>none
  | some cs'=>some (.blk t cs')
 | .row t k xs=>match xs.all (λx=>Zb p x.cells) with
  | true=>some (.row t k xs)
  | false=>none
 | .rowD t k xs=>some (.rowD t k xs)
 | .loop L=>match Bw p L.env with
  | none=>none
  | some e=>some (.loop {L with env:=e})
 | .map bs es=>some (.map bs es)
 | .iter f i c seen=>match p f i with
  | true=>some (.iter f i c seen)
  | false=>some .any
 | .addr f i v=>match p f i with
  | true=>some (.addr f i v)
  | false=>some .any
 | .any=>some .any
 | .nb b t cs=>some (.nb b t cs)
 | .nr b t k cap xs=>some (.nr b t k cap xs)
 | .nm b bs es=>some (.nm b bs es)
 | .itz=>some (.itz)
 | .multi M=>some (.multi M)
def Ec (p:Nat ->Nat ->Bool):List AN ->Option (List AN)
 | []=>some []
 | o::r=>match Ec p r with
  | none=>none
  | some r'=>match CU p o with
   | none=>none
   | some o'=>some (o'::r')
def CV (p:Nat ->Nat ->Bool):List (Nat×List AN) ->Option (List (Nat×List AN))
 | []=>some []
 | (g,l)::r=>match CV p r with
  | none=>none
  | some r'=>match Ec p l with
   | none=>none
   | some l'=>some ((g,l')::r')
variable {A:List (Nat×AV)}
theorem De (h:Bw p k=some A) (b:get A t=some d):d= .top\/(get k t=some d/\∀f i,d.Refs f i ->p f i=true):=by
 induction k generalizing A with
 | nil=>simp only [Bw,Option.some.injEq] at h;subst h;simp [get] at b
 | cons q r c=>
  grind [Bw,get,AV.ok_spec]
theorem UU {b:List AV} (h:PB p E=some b):b.length=E.length/\∀(j:Nat) c,b[j]? =some c ->c= .top\/(E[j]? =some c/\∀f i,c.Refs f i ->p f i=true):=by
 induction E generalizing b with
 | nil=>simp only [PB,Option.some.injEq] at h;subst h;simp
 | cons a r d=>
  grind [PB,AV.ok_spec]
def AN.Less (p:Nat ->Nat ->Bool) (o o':AN):Prop:=(∀w O ρ v,Av w O ρ o v ->Av w O ρ o' v)/\(∀f i,o'.Refs f i ->p f i=true)/\(∀t cs,o= .blk t cs ->∃cs',o'= .blk t cs')/\(∀t cs,o'= .blk t cs ->∃cs',o= .blk t cs')
theorem UT {E:AN} (h:CU p x=some E):x.Less p E:=by
 cases x with
 | blk t Y=>
  simp only [CU] at h
  split at h
  .cases h
  .rename_i X z
   injection h with h;subst h
   obtain ⟨G,n⟩:=UU z;refine ⟨λw O H v ⟨b,I,N,R,hl,g,P⟩=>⟨b,I,N,R,by omega,λj c u m hu=>?_,P⟩,λf i ⟨c,m,g⟩=>?_,λJ q e=>?_,λJ q e=>?_⟩
   .rcases n j c m with rfl | ⟨S,_⟩
    .exact .top
    grind
   .obtain ⟨j,Q,rfl⟩:=ωq m;rcases n j _ (ω Q) with s | ⟨_,s⟩
    .rw [s] at g;cases g
    grind
   .grind
   grind
 | row t k D=>
  simp only [CU] at h
  split at h
  .rename_i l
   injection h with h;subst h
   refine ⟨λ_ _ _ _ h=>h,λf i ⟨d,y,c,m,g⟩=>Fo (χm.1 l d y) m g,(λ_ _ e=>nomatch e),(λ_ _ e=>nomatch e)⟩
  .cases h
 | rowD t k D=>
  simp only [CU,Option.some.injEq] at h;subst h;exact ⟨λ_ _ _ _ h=>h,λf i g=>g.elim,(λ_ _ e=>nomatch e),(λ_ _ e=>nomatch e)⟩
 | loop L=>
  simp only [CU] at h
  split at h
  .cases h
  .rename_i e F
   injection h with h;subst h
   refine ⟨λw O H v ⟨r,G,n,s,U,h5⟩=>⟨r,G,n,s,U,λt a A=>?_⟩,λf i ⟨t,a,A,g⟩=>?_,(λ_ _ e=>nomatch e),(λ_ _ e=>nomatch e)⟩
   .rcases De F A with rfl | ⟨T,_⟩
    .exact .top
    grind
   .rcases De F A with rfl | ⟨_,n⟩
    .cases g
    grind
 | map bs W=>
  simp only [CU,Option.some.injEq] at h;subst h;exact ⟨λ_ _ _ _ h=>h,λf i g=>g.elim,(λ_ _ e=>nomatch e),(λ_ _ e=>nomatch e)⟩
 | iter f i c seen=>
  simp only [CU] at h
  split at h
  .rename_i l
   injection h with h;subst h
   exact ⟨λ_ _ _ _ h=>h,λV K ⟨C,B⟩=>by subst C B;exact l,(λ_ _ e=>nomatch e),(λ_ _ e=>nomatch e)⟩
  .injection h with h;subst h
   exact ⟨λ_ _ _ _ _=>trivial,λf i g=>g.elim,(λ_ _ e=>nomatch e),(λ_ _ e=>nomatch e)⟩
 | addr f i u=>
  simp only [CU] at h
  split at h
  .rename_i l
   injection h with h;subst h
   exact ⟨λ_ _ _ _ h=>h,λV K ⟨C,B⟩=>by subst C B;exact l,(λ_ _ e=>nomatch e),(λ_ _ e=>nomatch e)⟩
  .injection h with h;subst h
   exact ⟨λ_ _ _ _ _=>trivial,λf i g=>g.elim,(λ_ _ e=>nomatch e),(λ_ _ e=>nomatch e)⟩
 | any=>
  simp only [CU,Option.some.injEq] at h;subst h;exact ⟨λ_ _ _ _ h=>h,λf i g=>g.elim,(λ_ _ e=>nomatch e),(λ_ _ e=>nomatch e)⟩
 | nb b t Y=>
  simp only [CU,Option.some.injEq] at h;subst h;exact ⟨λ_ _ _ _ h=>h,λf i g=>g.elim,(λ_ _ e=>nomatch e),(λ_ _ e=>nomatch e)⟩
 | nr b t k Z D=>
  simp only [CU,Option.some.injEq] at h;subst h;exact ⟨λ_ _ _ _ h=>h,λf i g=>g.elim,(λ_ _ e=>nomatch e),(λ_ _ e=>nomatch e)⟩
 | nm b bs W=>
  simp only [CU,Option.some.injEq] at h;subst h;exact ⟨λ_ _ _ _ h=>h,λf i g=>g.elim,(λ_ _ e=>nomatch e),(λ_ _ e=>nomatch e)⟩
 | itz=>
  simp only [CU,Option.some.injEq] at h;subst h;exact ⟨λ_ _ _ _ h=>h,λf i g=>g.elim,(λ_ _ e=>nomatch e),(λ_ _ e=>nomatch e)⟩
 | multi M=>
  simp only [CU,Option.some.injEq] at h;subst h;exact ⟨λ_ _ _ _ h=>h,λf i g=>g.elim,(λ_ _ e=>nomatch e),(λ_ _ e=>nomatch e)⟩
theorem Ap.less:(C.at_ j).Less p (C.at_ j):=⟨λ_ _ _ _ h=>h,λ_ _ a=>absurd a Ap.norefs,λ_ _ e=>absurd e Ap.notBlk,λ_ _ e=>absurd e Ap.notBlk⟩
theorem Rz {a:AN} (h:CU p a=some (.multi M)):a= .multi M:=by
 cases a<;>simp only [CU] at h<;>first | (injection h with h) | (split at h<;>first | cases h | (injection h with h;cases h)) | cases h
 all_goals first | (subst h;rfl) | cases h
variable {B:List AN}
theorem LD (h:Ec p i=some B):B.length=i.length/\∀(j:Nat) o',B[j]? =some o' ->∃o,i[j]? =some o/\o.Less p o':=by
 induction i generalizing B with
 | nil=>simp only [Ec,Option.some.injEq] at h;subst h;simp
 | cons a r b=>
  grind [Ec,UT]
theorem US (h:Ec p i=some B):isM B=isM i:=by
 have c:=(LD h).1
 match i,B,h,c with
 | [],[],_,_=>rfl
 | [a],[b],h,_=>
  simp only [Ec] at h
  split at h
  .cases h
  .rename_i d f
   injection h with h;injection h with h;subst h
   cases hb:isM [d] with
   | some M=>
    have e:=PH hb
    grind [Rz]
   | none=>
    cases ha:isM [a] with
    | none=>rfl
    | some M=>
     have e:=PH ha
     grind [CU]
 | _::_::_,_::_::_,_,_=>rfl
 | [],_::_,_,c=>simp at c
 | [_],[],_,c=>simp at c
 | [_],_::_::_,_,c=>simp at c
 | _::_::_,[],_,c=>simp at c
 | _::_::_,[_],_,c=>simp at c
theorem UV (h:Ec p i=some B):(∀(j:Nat) b,gl B j=some b ->∃o,gl i j=some o/\o.Less p b)/\∀(j:Nat) o,gl i j=some o ->∃b,gl B j=some b/\o.Less p b:=by
 have c:=US h;obtain ⟨f,e⟩:=LD h;unfold gl;rw [c]
 cases hm:isM i with
 | some M=>
  have d:∀(j:Nat) o,(M j).map (Ap.at_ j)=some o ->o.Less p o:=λj o a=>by
   cases hmj:M j with
   | none=>rw [hmj] at a;cases a
   | some m=>rw [hmj] at a;injection a with a;subst a;exact Ap.less
  grind
 | none=>
  grind
variable {f:List (Nat×List AN)}
theorem Ii (h:CV p c=some f):(∀g i a,hget f g i=some a ->∃o,hget c g i=some o/\o.Less p a)/\∀g i o,hget c g i=some o ->∃a,hget f g i=some a/\o.Less p a:=by
 induction c generalizing f with
 | nil=>simp only [CV,Option.some.injEq] at h;subst h;simp [hget,hfam]
 | cons q r j=>
  obtain ⟨k,l⟩:=q;simp only [CV] at h
  split at h
  .cases h
  .rename_i u m
   obtain ⟨t,s⟩:=j m
   split at h
   .cases h
   .rename_i v n
    injection h with h;subst h
    obtain ⟨x,w⟩:=UV n;refine ⟨λg i a b=>?_,λg i o b=>?_⟩
    .by_cases e:k=g
     .grind [hget,hfam,ψw]
     .have d:Nat.beq k g=false:=IP e;simp only [hget,hfam,d] at b⊢;exact t g i a b
    .by_cases e:k=g
     .grind [hget,hfam,ψw]
     .have d:Nat.beq k g=false:=IP e;simp only [hget,hfam,d] at b⊢;exact s g i o b
def Bn (f g:Nat) (_i:Nat):Bool:=!(Nat.beq g f)
theorem Sf {a:Nat} (h:Bn g a m=true):a≠g:=by
 rintro rfl
 simp [Bn] at h
abbrev Ac (f:Nat):=Bw (Bn f)
abbrev Aa (f:Nat):=CV (Bn f)
abbrev dI (f:Nat):=Zb (Bn f)
theorem Tz (h:dI g o=true) (c:d∈o) (i:Nat):¬d.Refs g i:=λb=>Sf (Fo h c b) rfl
theorem Bc (h:Ac g k=some A) (b:get A t=some d):d= .top\/(get k t=some d/\∀i,¬d.Refs g i):=by grind [De,Sf]
theorem BG (h:Aa g c=some f):(∀a i b,hget f a i=some b ->∃o,hget c a i=some o/\o.Less (Bn g) b)/\∀a i o,hget c a i=some o ->∃b,hget f a i=some b/\o.Less (Bn g) b:=Ii h
theorem BK.same (h:∀g i e,hget f g i=some e ->∃o,hget c g i=some o) (k:BK a f j):BK a c j:=by
 obtain ⟨d,i,e,n,m⟩:=k;obtain ⟨o,l⟩:=h d i e n;exact ⟨d,i,o,l,m⟩
theorem Ba.less (h:Ba F c a w)
  (n:∀g i j,hget f g i=some j ->∃o,hget c g i=some o/\∀w O v,Av w O a o v ->Av w O a j v) (y:∀g i o,hget c g i=some o ->∃j,hget f g i=some j/\∀t r,o= .blk t r ->∃q,j= .blk t q):Ba F f a w:=by
 have k:∀b,F.O a f b↔F.O a c b:=λb=>⟨λh=>h.imp id (BK.same λg i j k=>let ⟨o,e,_⟩:=n g i j k;⟨o,e⟩),λh=>h.imp id (BK.same λg i o k=>let ⟨j,e,_⟩:=y g i o k;⟨j,e⟩)⟩
 have p:F.O a f=F.O a c:=funext λb=>propext (k b);refine ⟨λd i j m=>?_,λd i z s o j b m l=>?_,λb x=>?_,h.os,h.tape,h.output,h.size0,h.keep,λd i b c=>?_,h.drawn⟩
 .obtain ⟨o,k,u⟩:=n d i j m;rw [p];exact u _ _ _ (h.sim d i o k)
 .obtain ⟨_,m,_⟩:=n _ _ _ m;obtain ⟨_,l,_⟩:=n _ _ _ l;exact h.inj d i z s _ _ b m l
 .exact h.mine b (BK.same (λg i j k=>let ⟨o,e,_⟩:=n g i j k;⟨o,e⟩) x)
 .obtain ⟨B,t,r,A⟩:=h.pins d i b c
  grind
theorem Ba.one (h:Ba F c a w) (f0 j:Nat) (M:AN)
  (g:∀d i,hget f d i=if d=f0/\i=j then some M else hget c d i)
  (l:∀d i,¬(d=f0/\i=j) ->n d i=a d i)
  (u:∀b,Bu (n f0 j)=some b ->((∃o,hget c f0 j=some o)/\Bu (a f0 j)=some b)\/(w.heap.size<=b/\b<H.heap.size))
  (P:H.os=w.os) (B:H.tape=w.tape) (G:H.output=w.output) (W:w.heap.size<=H.heap.size) (hdr:w.drawn<=H.drawn)
  (S:∀b,b<w.heap.size ->¬((∃o,hget c f0 j=some o)/\Bu (a f0 j)=some b) ->H.heap[b]? =w.heap[b]?)
  (N:n f0 j=a f0 j\/∀d i o,hget c d i=some o ->¬(d=f0/\i=j) ->¬o.Refs f0 j)
  (E:∀b,F.pin f0 j=some b ->n f0 j=a f0 j/\∃t U,M= .blk t U)
  (V:Av H (F.O n f) n M (n f0 j)):Ba F f n H:=by
 have A:∀b,BK n f b ->BK a c b\/(w.heap.size<=b/\b<H.heap.size):=λb ⟨d,i,o,k,m⟩=>by
  by_cases e:d=f0/\i=j
  .obtain ⟨rfl,rfl⟩:=e;rcases u b m with ⟨⟨o,x⟩,K⟩ | K
   .exact .inl ⟨d,i,o,x,K⟩
   omega
  .rw [g,η e] at k;rw [l d i e] at m;exact .inl ⟨d,i,o,k,m⟩
 have hO:∀b,b<w.heap.size ->F.O n f b ->F.O a c b:=λb q x=>by
  rcases x with x | x
  .exact .inl x
  .rcases A b x with k | k
   .exact .inr k
   .omega
 have Q:∀b,b<w.heap.size ->¬F.O a c b ->H.heap[b]? =w.heap[b]?:=λb q x=>S b q λ⟨⟨o,k⟩,m⟩=>x (.inr ⟨f0,j,o,k,m⟩)
 have O:∀d i (o:AN),hget c d i=some o ->¬(d=f0/\i=j) ->∀y v,o.Refs y v ->n y v=a y v:=λd i o x hne y v hr=>by
  grind
 refine ⟨λd i o s=>?_,λd i y v o L b s r z p=>?_,λb R=>?_,P.trans h.os,B.trans h.tape,G.trans h.output,ωa h.size0 W,λb q I=>?_,λd i b c=>?_,ωa h.drawn hdr⟩
 .by_cases e:d=f0/\i=j
  .grind
  .rw [g,η e] at s;rw [l d i e];refine (h.sim d i o s).mono W Q hO (λb z=>S b (h.mine b ⟨d,i,o,s,z⟩).1 λ⟨⟨D,k⟩,m⟩=>e (h.inj d i f0 j o D b s k z m)) (O d i o s e)
 .by_cases e:d=f0/\i=j<;>by_cases C:y=f0/\v=j
  .omega
  .exfalso
   obtain ⟨rfl,rfl⟩:=e;rw [g,η C] at r;rw [l _ _ C] at p;rcases u b z with ⟨⟨D,k⟩,m⟩ | m
   .exact C (h.inj y v d i L D b r k p m)
   .have:=(h.mine b ⟨y,v,L,r,p⟩).1;omega
  .exfalso
   obtain ⟨rfl,rfl⟩:=C;rw [g,η e] at s;rw [l _ _ e] at z;rcases u b p with ⟨⟨D,k⟩,m⟩ | m
   .exact e (h.inj d i y v o D b s k z m)
   .have:=(h.mine b ⟨d,i,o,s,z⟩).1;omega
  .rw [g,η e] at s;rw [g,η C] at r;rw [l _ _ e] at z;rw [l _ _ C] at p;exact h.inj d i y v o L b s r z p
 .rcases A b R with k | k
  .have:=h.mine b k;exact ⟨by omega,this.2⟩
  .exact ⟨k.2,.inr (ωa h.size0 k.1)⟩
 .rw [<-h.keep b q I];have J:b<w.heap.size:=ψf q h.size0;refine S b J λ⟨⟨o,k⟩,m⟩=>?_;rcases (h.mine b ⟨f0,j,o,k,m⟩).2 with K | K
  .exact I K
  .omega
 .obtain ⟨X,t,U,a2⟩:=h.pins d i b c
  by_cases e:d=f0/\i=j
  .obtain ⟨rfl,rfl⟩:=e;obtain ⟨a3,Y,T,rfl⟩:=E b c;exact ⟨a3.trans X,Y,T,by rw [g,ς ⟨Z,Z⟩]⟩
  .exact ⟨(l d i e).trans X,t,U,by rw [g,η e];exact a2⟩
def UL (F:Fr) (Q:Exit ->AS ->Prop) (e:Exit) (act:Act) (w:World):Prop:=∃s ρ,Q e s/\SR F s ρ act w
def RJ (r:Option Nat):Fence:={Fence.wide with round:=r}
def Op.isDefer:Op ->Bool
 | .defer _=>true
 | _=>false
theorem Q4 (r:Option Nat) (a:Operand ->Value) (o:Oper) (h:Op.isDefer o.op=false):o.semAt (RJ r).round a=execOp a o:=by
 cases r with
 | none=>exact Oper.semAt_none a o
 | some l=>exact Oper.semAt_some l a o λc b=>by rw [b] at h;cases h
theorem WC {d:String} {R:Value ->World ->Prop} (h:Go.Rows P d q w R):RowsIn (RJ u) z P d q w R:=by
 have e:RowsIn Fence.wide z P d q w R:=λc g _=>let ⟨v,f,a,b⟩:=h c g;⟨v,f,a,stepsIn_wide.2 b⟩
 cases u with
 | none=>exact e
 | some l=>exact e
theorem NM {r:Option Nat} {f:FuncId} {R:Ending ->World ->Prop} (h:Calls P f q w R):CallsIn (RJ r) z P f q w R:=by
 cases r with
 | none=>exact callsIn_wide.2 h
 | some l=>exact CallsIn.inRound l (callsIn_wide.2 h)
theorem F7 {o:Oper} {a:Act} {K:Act ->World ->Prop} {Q:Exit ->Act ->World ->Prop} (j:Op.isDefer o.op=false) (h:o.wp P a w K (λ_ _ _=>False)):o.wpIn (RJ u) 0 P a w K Q:=by
 refine ⟨λ_ _=>trivial,?_⟩;rw [Q4 u _ o j];unfold Oper.wp at h
 generalize (execOp a.eval o).run P w=c at h
 cases c with
 | ok x w=>
  cases x with
  | value v=>exact h
  | skip=>exact h
  | defer d=>exact h
  | enter f b=>
   rw [Oper.upon_enter] at h;refine ⟨(λh=>by cases h),NM (h.mono λe k g=>?_)⟩
   cases e with
   | returned v=>exact g
   | panicked _=>exact g.elim
   | outgrown=>obtain ⟨_,_,i⟩:=g;exact i.elim
  | row u b=>
   rw [Oper.upon_row] at h;exact ⟨(λh=>by cases h),WC h⟩
  | _=>exact h.elim
 | halt x w=>
  cases x<;>exact h.elim
def CG (P:Program) (F:Fr) (c:Code) (Q:Exit ->AS ->Prop) (s:AS):Prop:=∀ρ act w,SR F s ρ act w ->c.wpIn (RJ F.rnd) 0 P (UL F Q) act w
def Ao (P:Program) (F:Fr) (ops:Array Oper) (l:List Oper) (Q:Exit ->AS ->Prop) (s:AS):Prop:=∀ρ act w,SR F s ρ act w ->wpListIn (RJ F.rnd) 0 P ops (UL F Q) l act w
def Pn (P:Program) (F:Fr) (o:Oper) (s:AS) (T:AS ->Prop):Prop:=∀ρ act w,SR F s ρ act w ->o.wp P act w (UL F (λe s'=>e= .normal/\T s') .normal) (λ_ _ _=>False)
theorem IS (h:Nat.blt y z=true):y<z:=Nat.lt_of_succ_le (by simpa [Nat.blt] using h)
def Then (K:AS ->Prop) (Q:Exit ->AS ->Prop):Exit ->AS ->Prop
 | .normal,s=>K s
 | e,s=>Q e s
def Yj (id:Nat) (Q:Exit ->AS ->Prop):Exit ->AS ->Prop
 | .exit id',s=>match Nat.beq id' id with
  | true=>Q .normal s
  | false=>Q (.exit id') s
 | e,s=>Q e s
section
variable {P:Program} {F:Fr} {Q Q':Exit ->AS ->Prop} {s:AS}
variable {a:Array Oper} {c:List (Nat×List AN)} {d:List (Nat×AV)} {e:Nat ->Nat ->Value} {f:List Oper} {g:Array Edge} {h:String} {w:World} {i:TypeId} {n:Nat} {j:List (Nat×AV)} {k:Bool} {m:Operand} {o:Nat ->Prop} {p:Option Tmp} {t:Op} {u:Nat ->Nat ->Bool} {x:Nat} {y:Code} {z:Oper} {A:Code} {B:Nat} {C:Code} {E:List Oper} {G:Act ->World ->Prop} {H:Act} {I:Value} {K:Nat} {L:Act} {M:AV} {N:Bool}
theorem CG.mono (h:CG P F A Q s) (f:∀e s,Q e s ->Q' e s):CG P F A Q' s:=λa b w d=>
 Go.wpIn_mono (h a b w d) λe _ _ ⟨s,a,i,g⟩=>⟨s,a,f e s i,g⟩
theorem AX (h:Q .normal s):CG P F .skip Q s:=λa _ _ b=>wpIn_skip ⟨s,a,h,b⟩
theorem a_label {l:Nat} (h:Q .normal s):CG P F (.label l) Q s:=λa c w b=>wpIn_label ⟨s,a,h,b⟩
theorem Ar {id:Nat} (h:Q (.exit id) s):CG P F (.exit id) Q s:=λa _ _ b=>wpIn_exit ⟨s,a,h,b⟩
theorem AZ (h:Q .ret s):CG P F .ret Q s:=λa _ _ b=>wpIn_ret ⟨s,a,h,b⟩
theorem AD (h:CG P F y (Then (CG P F C Q) Q) s):CG P F (.seq y C) Q s:=λg c w j=>
 wpIn_seq (Go.wpIn_mono (h g c w j) λe a w ⟨i,b,f,d⟩=>by
  cases e with
  | normal=>exact f b a w d
  | _=>exact ⟨i,b,f,d⟩)
theorem A2 {id:Nat} (h:CG P F y (Yj id Q) s):CG P F (.block id y) Q s:=λj i w l=>
 wpIn_block (Go.wpIn_mono (h j i w l) λe a w ⟨d,b,c,g⟩=>by
  cases e with
  | exit k=>
   simp only [Yj] at c;simp only [Exit.inBlock]
   split at c
   .rename_i f;rw [ς (ωb f)];exact ⟨d,b,c,g⟩
   .rename_i f;rw [η (ωx f)];exact ⟨d,b,c,g⟩
  | _=>exact ⟨d,b,c,g⟩)
def It (v:Value):Option AV:=match v.oneCell' with
 | false=>none
 | true=>match v with
  | .slice none 0 0=>some (.d (.sl (some true) []))
  | v=>some (.d (.raw v))
def AS.ev (s:AS):Operand ->Option AV
 | .tmp t=>get s.env t
 | .const v=>It v
 | .func f=>some (.d (.raw (.func (.func f) #[] #[])))
 | .global _=>none
theorem MA (h:It I=some M):A9 w o e M I/\I.oneCell'=true:=by
 unfold It at h
 split at h
 .cases h
 .rename_i f
  refine ⟨?_,f⟩
  split at h
  .injection h with h;subst h
   exact .d (.sl 1 (λb g=>by injection g) (λ_=>rfl) Z (Γ _) (by unfold maxLen;omega) (by simp) (by simp) (λb c h=>by cases h))
  .injection h with h;subst h
   exact .d (.raw f)
theorem SR.ev (h:SR F s e H w) {x:Operand} {a:AV} (b:s.ev x=some a):A9 w (F.O e s.hp) e a (H.eval x):=by
 cases x with
 | tmp t=>exact h.env t a b
 | const v=>
  exact (MA b).1
 | func f=>simp only [AS.ev,Option.some.injEq] at b;subst b;exact .d (.raw Z)
 | global g=>simp [AS.ev] at b
theorem JC (n:s.ev m=some (.d (.raw (.bool k)))) (j:k=true ->CG P F y Q s) (l:k=false ->CG P F C Q s):CG P F (.cond m y C) Q s:=λg a w f=>by
 have h:=f.ev n
 cases h with
 | d h=>
  generalize i:a.eval m=v at h
  cases h with
  | raw h=>
   exact wpIn_cond_split i (λe=>j e g a w f) (λe=>l e g a w f)
theorem Bz (e:s.ev m=some (.d (.raw (.bool k)))) (f:k=true) (a:CG P F y Q s):CG P F (.cond m y C) Q s:=by grind [JC]
theorem Cu (e:s.ev m=some (.d (.raw (.bool k)))) (f:k=false) (a:CG P F C Q s):CG P F (.cond m y C) Q s:=by grind [JC]
theorem A7 {p:Prop} [Decidable p] (e:s.ev m=some (.d (.raw (.bool (decide p))))) (a:p ->CG P F y Q s) (b:¬p ->CG P F C Q s):CG P F (.cond m y C) Q s:=by grind [JC]
def AS.Le (s s':AS):Prop:=s'.n=s.n/\s'.hp=s.hp/\∀t a,get s'.env t=some a ->get s.env t=some a
variable {q:AS}
theorem SR.le (h:SR F s e H w) (c:s.Le q):SR F q e H w:=by
 obtain ⟨g,b,f⟩:=c;refine ⟨g▸h.size,b▸h.defs,λt a d=>?_,b▸h.heap⟩;rw [b];exact h.env t a (f t a d)
theorem CG.le (h:CG P F A Q q) (e:s.Le q):CG P F A Q s:=λb a w d=>h b a w (d.le e)
theorem Ao.le (h:Ao P F a E Q q) (e:s.Le q):Ao P F a E Q s:=λc b w d=>h c b w (d.le e)
def Sr (env:List (Nat×AV)):List (Nat×AV) ->Prop
 | []=>True
 | (t,a)::r=>get env t=some a/\Sr env r
theorem Sr.get {l:List (Nat×AV)} (h:Sr d l) (b:get l x=some M):Go.Proofs.YteifpcnphnhaoaaGreat.get d x=some M:=by
 induction l with
 | nil=>cases b
 | cons p r c=>
  grind [Mp,Sr]
theorem al (h:Sr d j):AS.Le ⟨n,d,c⟩ ⟨n,j,c⟩:=⟨Z,Z,λ_ _=>h.get⟩
def pick (env:List (Nat×AV)):List Nat ->Option (List (Nat×AV))
 | []=>some []
 | t::r=>match pick env r with
  | none=>none
  | some l=>match get env t with
   | none=>some l
   | some a=>some ((t,a)::l)
theorem U5 {a:List Nat} (h:pick d a=some j):Sr d j:=by
 induction a generalizing j with
 | nil=>simp only [pick,Option.some.injEq] at h;subst h;exact trivial
 | cons t r b=>
  grind [pick,Sr]
theorem fx (a:List Nat) (b:pick d a=some j) (h:CG P F A Q ⟨n,j,c⟩):CG P F A Q ⟨n,d,c⟩:=h.le (al (U5 b))
theorem o_keep {b:List Oper} (e:List Nat) (f:pick d e=some j) (h:Ao P F a b Q ⟨n,j,c⟩):Ao P F a b Q ⟨n,d,c⟩:=h.le (al (U5 f))
theorem Gh {α:Type} (h:α ->AS) (I:α ->Prop) (i:α ->Nat) (E:α) (R:I E) (M:s.Le (h E))
  (p:∀a,I a ->CG P F A (Then (λx=>∃f,I f/\i f<i a/\x.Le (h f)) Q) (h a)):CG P F (.loop A) Q s:=λg b w q=>by
 have y:∀n a,i a=n ->I a ->∀g b w,SR F (h a) g b w ->(Code.loop A).wpIn (RJ F.rnd) 0 P (UL F Q) b w:=by
  intro n a _ z g b w q;refine wpIn_loop (λb w=>∃a g,I a/\SR F (h a) g b w) (λb w=>Classical.epsilon λm=>∃a g,I a/\SR F (h a) g b w/\i a=m/\∀f d,I f ->SR F (h f) d b w ->m<=i f) ⟨a,g,z,q⟩ ?_;intro b w z
  have k:∀b w,(∃a g,I a/\SR F (h a) g b w) ->∃m,∃a g,I a/\SR F (h a) g b w/\i a=m/\∀f d,I f ->SR F (h f) d b w ->m<=i f:=λb w ⟨a,g,u,t⟩=>by
   have L:∀n a g,i a=n ->I a ->SR F (h a) g b w ->∃m,∃a g,I a/\SR F (h a) g b w/\i a=m/\∀f d,I f ->SR F (h f) d b w ->m<=i f:=by
    intro n
    induction n using Nat.strongRecOn with
    | _ n K=>
     intro a g N u t
     by_cases j:∃f d,I f/\SR F (h f) d b w/\i f<n
     .obtain ⟨f,d,r,v,l⟩:=j;exact K _ l f d Z r v
     .refine ⟨n,a,g,u,t,N,λf d r v=>?_⟩;rcases Nat.lt_or_ge (i f) n with l | l
      .exact absurd ⟨f,d,r,v,l⟩ j
      .exact l
   exact L _ a g Z u t
  obtain ⟨a,g,u,t,r,v⟩:=Classical.epsilon_spec (k b w z);refine Go.wpIn_mono (p a u g b w t) λe o G ⟨x,d,l,B⟩=>?_
  cases e with
  | normal=>
   obtain ⟨f,J,O,H⟩:=l
   have j:∃a g,I a/\SR F (h a) g o G:=⟨f,d,J,B.le H⟩
   refine ⟨j,?_⟩;obtain ⟨_,_,_,_,_,D⟩:=Classical.epsilon_spec (k o G j);have C:=D f d J (B.le H);exact Nat.lt_of_le_of_lt C (by rw [<-r];exact O)
  | _=>exact ⟨x,d,l,B⟩
 exact y _ E Z R g b w (q.le M)
theorem AE {id:Nat} (h:Ao P F E.toArray E Q s):CG P F (.region id E.toArray false) Q s:=λb a w c=>wpIn_region_lit (h b a w c)
theorem AC (h:Q .normal s):Ao P F a [] Q s:=λb _ _ c=>wpListIn_nil ⟨s,b,h,c⟩
theorem Sz {P:Program} {K:Act ->World ->Prop} {Q:Exit ->Act ->World ->Prop} {r:Result Next} (c:∀L w,K L w ->G L w) (h:z.upon P L K (λ_ _ _=>False) r):z.upon P L G Q r:=by
 cases r with
 | ok x w=>
  cases x with
  | value v=>exact c _ _ h
  | skip=>exact c _ _ h
  | defer d=>exact c _ _ h
  | enter f b=>
   rw [Oper.upon_enter] at h⊢;refine h.mono λe j g=>?_
   cases e with
   | returned v=>exact c _ _ g
   | panicked _=>exact g.elim
   | outgrown=>obtain ⟨_,_,i⟩:=g;exact i.elim
  | row r b=>
   grind [Oper.upon_row,Go.Rows.mono]
  | _=>exact h.elim
 | halt x w=>
  cases x<;>exact h.elim
theorem ZcJ {P:Program} {K:Act ->World ->Prop} {Q:Exit ->Act ->World ->Prop} (b:∀L w,K L w ->G L w) (h:z.wp P L w K (λ_ _ _=>False)):z.wp P L w G Q:=Sz b h
theorem Cd {T:AS ->Prop} (h:Pn P F z s T) (l:z.guard=none) (m:∀c,T c ->Ao P F a f Q c) (e:Op.isDefer z.op=false:=by rfl):Ao P F a (z::f) Q s:=λi g w j=>
 wpListIn_plain l λ_ k=>F7 e (ZcJ (λb w ⟨c,d,⟨_,p⟩,n⟩=>k b w (m c p d b w n)) (h i g w j))
theorem Pn.go (b:Pn P F ⟨p,t,i,h,g,none⟩ s (· =q)) (j:Ao P F a f Q q) (c:Op.isDefer t=false:=by rfl):Ao P F a (⟨p,t,i,h,g,none⟩::f) Q s:=
 Cd b Z (λ_ e=>e▸j) c
def AG (P:Program) (F:Fr) (o:Oper) (s s':AS) (p:Nat ->Nat ->Bool):Prop:=∀ρ act w,SR F s ρ act w ->o.wp P act w (λact' w'=>∃ρ',SR F s' ρ' act' w'/\∀f i,p f i=true ->ρ' f i=ρ f i) (λ_ _ _=>False)
theorem AG.ostep (h:AG P F z s q u):Pn P F z s (· =q):=λc b w d=>
 ZcJ (λ_ _ ⟨a,e,_⟩=>⟨q,a,⟨Z,Z⟩,e⟩) (h c b w d)
theorem V {e:List (Nat×AV)} {j:List (Nat×List AN)} (b:AG P F ⟨p,t,i,h,g,none⟩ ⟨n,d,c⟩ ⟨n,e,j⟩ u) (l:Ao P F a f Q ⟨n,e,j⟩) (k:Op.isDefer t=false:=by rfl):Ao P F a (⟨p,t,i,h,g,none⟩::f) Q ⟨n,d,c⟩:=
 b.ostep.go l k
theorem AR (z:(a[B]?).bind (·.dst)=some x) (y:get s.env x=some (.d (.raw (.bool N)))) (A:N=k)
  (e:Ao P F a (⟨p,t,i,h,g,none⟩::f) Q s):Ao P F a (⟨p,t,i,h,g,some (B,k)⟩::f) Q s:=λr l w q=>by
 have n:=q.env x _ y
 have u:yielded a l.tmps B=some k:=by
  unfold yielded;rw [z]
  cases n with
  | d n=>
   generalize m:l.tmps.getD x undef=v at n
   cases n with
   | raw _=>
    simp only [χk];rw [ψh] at m
    cases hh:l.tmps[x]? with
    | none=>rw [hh] at m;simp [undef] at m
    | some c=>rw [hh] at m;simp at m;subst m;simp [A]
 have o:=e r l w q;unfold wpListIn at o⊢;rw [ς (by simp [Region.wanted])] at o;rw [ς (by simp [Region.wanted,u])];exact o
theorem Lz:A9 w o e (.d (.tup [])) undef:= .d (.tup (vs:=[]) Z (by simp))
theorem tup_nil (h:A9 w o e (.d (.tup [])) I):I=undef:=by
 cases h with
 | d h=>
  cases h with
  | @tup _ a b _=>
   have:a=[]:=ωz b;subst this;rfl
theorem Pz {c:Array Value} (e:(a[B]?).bind (·.dst)=some x) (d:c.getD x undef=undef):yielded a c B=none:=by
 unfold yielded;rw [e];simp only [χk];rw [ψh] at d
 cases hh:c[x]? with
 | none=>rfl
 | some b=>rw [hh] at d;simp at d;subst d;rfl
theorem KN (q:(a[B]?).bind (·.dst)=some x) (p:get d x=some (.d (.tup []))) (r:Nat.blt K n=true)
  (e:Ao P F a f Q (⟨n,(K,.d (.tup []))::d,c⟩)):Ao P F a (⟨some K,t,i,h,g,some (B,k)⟩::f) Q ⟨n,d,c⟩:=λm u w l=>by
 have o:=Pz q (tup_nil (l.env x _ p));unfold wpListIn;rw [η (by simp [Region.wanted,o])];refine ⟨λ_ _=>trivial,?_⟩;exact e m _ w (l.put (IS r) Lz)
theorem AI {n:Nat} {e:List (Nat×AV)} {o:List (Nat×List AN)} {a:Array Oper} {d:Nat} {u:Op} {r:TypeId} {k:String} {l:Array Edge} {c:List Oper} {j:Nat} {b p:Bool} {t:Nat} (A:(a[j]?).bind (·.dst)=some t) (z:get e t=some (.d (.raw (.bool p)))) (C:p=!b) (B:Nat.blt d n=true)
  (h:Ao P F a c Q (⟨n,(d,.d (.tup []))::e,o⟩)):Ao P F a (⟨some d,u,r,k,l,some (j,b)⟩::c) Q ⟨n,e,o⟩:=λq f w m=>by
 have i:=m.env t _ z
 have y:yielded a f.tmps j=some (!b):=by
  unfold yielded;rw [A]
  cases i with
  | d i=>
   generalize g:f.tmps.getD t undef=v at i
   cases i with
   | raw _=>
    simp only [χk];rw [ψh] at g
    cases hh:f.tmps[t]? with
    | none=>rw [hh] at g;simp [undef] at g
    | some x=>rw [hh] at g;simp at g;subst g;simp [C]
 unfold wpListIn;rw [η (by cases b<;>simp [Region.wanted,y])];refine ⟨λ_ _=>trivial,?_⟩;exact h q _ w (m.put (IS B) Lz)
end
section
variable {P:Program} {F:Fr} {Q:Exit ->AS ->Prop} {n:Nat} {env:List (Nat×AV)} {hp:List (Nat×List AN)} {ops:Array Oper} {l:List Oper} {c:Code}
variable {a:Bool} {d:AV}
theorem JV {env:List (Nat×AV)} {t:Nat} (h:get env t=some d) {b:Nat} {e:AV} (f:get ((t,d)::env) b=some e):get env b=some e:=by grind [Mp]
theorem CX (t:Nat) {p:Prop} [Decidable p] (a:get env t=some (.d (.raw (.bool (decide p))))) (b:p ->Ao P F ops l Q ⟨n,(t,.d (.raw (.bool true)))::env,hp⟩) (e:¬p ->Ao P F ops l Q ⟨n,(t,.d (.raw (.bool false)))::env,hp⟩):Ao P F ops l Q ⟨n,env,hp⟩:=by
 by_cases h:p
 .exact (b h).le ⟨Z,Z,λ_ _=>JV (by rw [ωf h] at a;exact a)⟩
 .exact (e h).le ⟨Z,Z,λ_ _=>JV (by rw [ωh h] at a;exact a)⟩
theorem Kn (t:Nat) (e:get env t=some (.d (.raw (.bool a)))) (f:a=true ->Ao P F ops l Q ⟨n,(t,.d (.raw (.bool true)))::env,hp⟩) (g:a=false ->Ao P F ops l Q ⟨n,(t,.d (.raw (.bool false)))::env,hp⟩):Ao P F ops l Q ⟨n,env,hp⟩:=by
 cases a with
 | true=>exact (f Z).le ⟨Z,Z,λ_ _=>JV e⟩
 | false=>exact (g Z).le ⟨Z,Z,λ_ _=>JV e⟩
theorem EU (t:Nat) (e:get env t=some (.d (.raw (.bool a)))) (f:a=true) (h:Ao P F ops l Q ⟨n,(t,.d (.raw (.bool true)))::env,hp⟩):Ao P F ops l Q ⟨n,env,hp⟩:=by grind [Kn]
theorem Du (t:Nat) (e:get env t=some (.d (.raw (.bool a)))) (f:a=false) (h:Ao P F ops l Q ⟨n,(t,.d (.raw (.bool false)))::env,hp⟩):Ao P F ops l Q ⟨n,env,hp⟩:=by grind [Kn]
theorem Jv (t:Nat) (b:AV) (e:get env t=some d) (f:d=b) (h:Ao P F ops l Q ⟨n,(t,b)::env,hp⟩):Ao P F ops l Q ⟨n,env,hp⟩:=h.le ⟨Z,Z,λ_ _=>JV (by rw [<-f];exact e)⟩
theorem Ww (t:Nat) (b:AV) (e:get env t=some d) (f:d=b) (h:CG P F c Q ⟨n,(t,b)::env,hp⟩):CG P F c Q ⟨n,env,hp⟩:=h.le ⟨Z,Z,λ_ _=>JV (by rw [<-f];exact e)⟩
end
variable {P:Program} {a:Array Edge} {c:String} {d:Nat} {e:TypeId} {F:Fr} {f:Op} {g:AV} {s:AS}
def AA (P:Program) (F:Fr) (o:Oper) (s:AS) (d:Nat) (a:AV):Prop:=Nat.blt d s.n=true/\o.dst=some d/\∀ρ act w,SR F s ρ act w→
 o.wp P act w (λact' w'=>∃v,act'=act.put (some d) v/\A9 w' (F.O ρ s.hp) ρ a v/\Ba F s.hp ρ w'/\w.heap.size<=w'.heap.size/\∀b,b<w.heap.size ->w'.heap[b]? =w.heap[b]?) (λ_ _ _=>False)
theorem AA.ostep {o:Oper} (h:AA P F o s d g):Pn P F o s (· =s.put d g):=λi f w e=>by
 refine ZcJ ?_ (h.2.2 i f w e);rintro l q ⟨v,rfl,p,n,k,j⟩;exact ⟨_,i,⟨Z,Z⟩,SR.put ⟨e.size,e.defs.mono k (λb c _=>j b c) (λ_ _ h=>h),λt x m=>(e.env t x m).mono k (λb c _=>j b c) (λ_ _ h=>h) (λ_ _ _=>rfl),n⟩ (IS h.1) p⟩
theorem J {Q:Exit ->AS ->Prop} {n:Nat} {i:List (Nat×AV)} {l:List (Nat×List AN)} {j:Array Oper} {k:Option Tmp} {b:List Oper} (h:AA P F ⟨k,f,e,c,a,none⟩ ⟨n,i,l⟩ d g) (o:Ao P F j b Q ⟨n,(d,g)::i,l⟩) (m:Op.isDefer f=false:=by rfl):Ao P F j (⟨k,f,e,c,a,none⟩::b) Q ⟨n,i,l⟩:=
 h.ostep.go o m
theorem Cz {g:Option (Nat×Bool)} (b:AV) (l:Nat.blt d s.n=true)
  (h:∀j i w,SR F s j i w ->∃v,(execOp i.eval ⟨some d,f,e,c,a,g⟩).run P w= .ok (.value v) w/\A9 w (F.O j s.hp) j b v):AA P F ⟨some d,f,e,c,a,g⟩ s d b:=by
 refine ⟨l,Z,λj i w k=>?_⟩;obtain ⟨v,n,m⟩:=h j i w k;unfold Oper.wp;rw [n];exact ⟨v,Z,m,k.heap,Γ _,λ_ _=>rfl⟩
end Go.Proofs.YteifpcnphnhaoaaGreat
