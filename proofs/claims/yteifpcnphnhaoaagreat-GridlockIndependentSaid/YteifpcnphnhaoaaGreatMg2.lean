import Derived.Test.YteifpcnphnhaoaaGreatMg1
import Derived.Deep.MidRow
import Derived.Laws.Panics
import Derived.RangeFuncLeaves
import Derived.RangeFuncRecord
import Derived.TacticsIn
import Derived.RangeFuncCalls
import Derived.OrdersIn
namespace Go.Proofs.YteifpcnphnhaoaaGreat
open Go.RowKit
variable {a:Nat ->Nat ->Bool} {c:Nat ->Nat ->Value} {w:World} {h:Value} {j:Nat} {k:Nat ->Prop} {s u:Nat} {x:Nat ->Nat ->Value} {y:Nat} {A:Array Value} {P:Program} {B:Act} {C:Option Nat} {G H Q:Nat} {R:World}
theorem HV {a:Nat} (h:a≠s):Nat.beq a s=false:=by grind [fx]
inductive D where
 | raw (v:Value)
 | sl (nil:Option Bool) (xs:List D)
 | agg (cs:List D)
 | ptr (x:D)
 | tup (cs:List D)
 | fn (g:FuncId) (fs caps:List D)
def D.cells:D ->List D
 | .agg cs=>cs
 | x=> [x]
def D.one:D ->Bool
 | .agg _=>false
 | .tup _=>false
 | _=>true
inductive AN (w:World) (O:Nat ->Prop):D ->Value ->Prop
 | raw {v:Value} (h:v.oneCell'=true):AN w O (.raw v) v
 | agg {cs:List D} {vs:List Value} (hl:vs.length=cs.length) (h1:∀c∈cs,c.one=true) (h:∀(i:Nat) c v,cs[i]? =some c ->vs[i]? =some v ->AN w O c v):AN w O (.agg cs) (.agg vs.toArray)
 | tup {cs:List D} {vs:List Value} (hl:vs.length=cs.length) (h:∀(i:Nat) c v,cs[i]? =some c ->vs[i]? =some v ->AN w O c v):AN w O (.tup cs) (.tuple vs.toArray)
 | ptr {x:D} {b o:Nat} (us:Nat ->Value) (hb:b<w.heap.size) (hO:¬O b) (h1:∀c∈x.cells,c.one=true)
   (hc:∀(j:Nat) c,x.cells[j]? =some c ->w.cell? ⟨b,o+j,none⟩=some (us j)) (hu:∀(j:Nat) c,x.cells[j]? =some c ->AN w O c (us j)):AN w O (.ptr x) (.pointer (some ⟨b,o,none⟩))
 | sl {nil:Option Bool} {xs:List D} {a:Option Addr} {n cap:Nat} (k:Nat) (hn:∀b,nil=some b ->a.isNone=b) (hz:a=none ->cap=0) (hln:xs.length=n) (hc:n<=cap) (hm:cap<=maxLen) (hk:∀x∈xs,x.cells.length=k)
   (ha:xs≠ [] ->∃b o,a=some ⟨b,o,none⟩)
   (hp:∀b o,a=some ⟨b,o,none⟩ ->∀(i:Nat) x,xs[i]? =some x ->AN w O (.ptr x) (.pointer (some ⟨b,o+i*k,none⟩))):AN w O (.sl nil xs) (.slice a n cap)
 | fn {g:FuncId} {fs caps:List D} {us vs:List Value} (hf:us.length=fs.length) (hl:vs.length=caps.length) (h1:∀(i:Nat) c v,fs[i]? =some c ->us[i]? =some v ->AN w O c v) (h:∀(i:Nat) c v,caps[i]? =some c ->vs[i]? =some v ->AN w O c v):AN w O (.fn g fs caps) (.func (.func g) us.toArray vs.toArray)
variable {S:D}
theorem AN.mono {w w':World} {O':Nat ->Prop} (G:w.heap.size<=w'.heap.size) (I:∀b,b<w.heap.size ->¬k b ->w'.heap[b]? =w.heap[b]?) (D:∀b,b<w.heap.size ->O' b ->k b)
 (f:AN w k S h):AN w' O' S h:=by
 induction f with
 | raw f=>exact .raw f
 | agg i r _ g=>exact .agg i r g
 | tup i _ g=>exact .tup i g
 | ptr s F r E J _ g=>
  refine .ptr s (by omega) (λf=>r (D _ F f)) E (λj c H=>?_) g
  grind [World.cell?_of_block]
 | sl a u t o B y z C _ g=>exact .sl a u t o B y z C g
 | fn A i _ _ l g=>exact .fn A i l g
theorem AN.oneCell (a:AN w k S h) (b:S.one=true):h.oneCell'=true:=by
 cases a with
 | raw a=>exact a
 | agg _ _ _=>cases b
 | tup _ _=>cases b
 | ptr _ _ _ _ _ _=>rfl
 | sl _ _ _ _ _ _ _ _ _=>rfl
 | fn _ _ _ _=>rfl
inductive AV where
 | d (x:D)
 | top
 | tup (as:List AV)
 | agg (as:List AV)
 | ptr (f i off:Nat)
 | own (f i n:Nat)
 | rptr (f i k e off:Nat)
 | map (f i:Nat)
 | fn (g:FuncId) (caps:List AV)
 | ifc (T:TypeId) (nm:Option String) (f i:Nat)
def uD (T:TypeId) (nm:Option String) (b:Nat):Value:=match nm with
 | none=> .iface T (.pointer (some ⟨b,0,none⟩))
 | some s=> .func (.method s) #[.iface T (.pointer (some ⟨b,0,none⟩))] #[]
inductive AR (w:World) (O:Nat ->Prop) (ρ:Nat ->Nat ->Value):AV ->Value ->Prop
 | d {x:D} {v:Value} (h:AN w O x v):AR w O ρ (.d x) v
 | top {v:Value}:AR w O ρ .top v
 | tup {as:List AV} {vs:List Value} (hl:vs.length=as.length) (h:∀(i:Nat) a v,as[i]? =some a ->vs[i]? =some v ->AR w O ρ a v):AR w O ρ (.tup as) (.tuple vs.toArray)
 | agg {as:List AV} {vs:List Value} (hl:vs.length=as.length) (h1:∀v∈vs,v.oneCell'=true) (h:∀(i:Nat) a v,as[i]? =some a ->vs[i]? =some v ->AR w O ρ a v):AR w O ρ (.agg as) (.agg vs.toArray)
 | ptr {f i off b:Nat} (h:ρ f i= .pointer (some ⟨b,0,none⟩)):AR w O ρ (.ptr f i off) (.pointer (some ⟨b,off,none⟩))
 | own {f i n N cap:Nat} {a:Option Addr} (h:ρ f i= .slice a N cap) (hn:n<=N):AR w O ρ (.own f i n) (.slice a n cap)
 | rptr {f i k e off b N cap:Nat} (h:ρ f i= .slice (some ⟨b,0,none⟩) N cap):AR w O ρ (.rptr f i k e off) (.pointer (some ⟨b,e*k+off,none⟩))
 | map {f i m:Nat} (h:ρ f i= .map (some m)):AR w O ρ (.map f i) (.map (some m))
 | ifc {T:TypeId} {nm:Option String} {f i b:Nat} (h:ρ f i= .pointer (some ⟨b,0,none⟩)):AR w O ρ (.ifc T nm f i) (uD T nm b)
 | fn {g:FuncId} {caps:List AV} {vs:List Value} (hl:vs.length=caps.length) (h:∀(i:Nat) a v,caps[i]? =some a ->vs[i]? =some v ->AR w O ρ a v):AR w O ρ (.fn g caps) (.func (.func g) #[] vs.toArray)
inductive AV.Refs:AV ->Nat ->Nat ->Prop
 | tup {as:List AV} {a:AV} {f i:Nat} (hm:a∈as) (h:a.Refs f i):(AV.tup as).Refs f i
 | agg {as:List AV} {a:AV} {f i:Nat} (hm:a∈as) (h:a.Refs f i):(AV.agg as).Refs f i
 | fn {g:FuncId} {as:List AV} {a:AV} {f i:Nat} (hm:a∈as) (h:a.Refs f i):(AV.fn g as).Refs f i
 | ptr {f i off:Nat}:(AV.ptr f i off).Refs f i
 | own {f i n:Nat}:(AV.own f i n).Refs f i
 | rptr {f i k e off:Nat}:(AV.rptr f i k e off).Refs f i
 | map {f i:Nat}:(AV.map f i).Refs f i
 | ifc {T:TypeId} {nm:Option String} {f i:Nat}:(AV.ifc T nm f i).Refs f i
variable {g:AV}
theorem AR.mono {w w':World} {O':Nat ->Prop} (z:w.heap.size<=w'.heap.size) (B:∀b,b<w.heap.size ->¬k b ->w'.heap[b]? =w.heap[b]?) (C:∀b,b<w.heap.size ->O' b ->k b)
 (l:AR w k c g h) (o:∀f i,g.Refs f i ->x f i=c f i):AR w' O' x g h:=by
 induction l with
 | d l=>exact .d (l.mono z B C)
 | top=>exact .top
 | tup u _ s=>exact .tup u λi g h r t=>s i g h r t λf j y=>o f j (.tup (ϑ r) y)
 | agg u D _ s=>exact .agg u D λi g h r t=>s i g h r t λf j y=>o f j (.agg (ϑ r) y)
 | ptr l=>exact .ptr ((o _ _ .ptr).trans l)
 | own l A=>exact .own ((o _ _ .own).trans l) A
 | rptr l=>exact .rptr ((o _ _ .rptr).trans l)
 | map l=>exact .map ((o _ _ .map).trans l)
 | ifc l=>exact .ifc ((o _ _ .ifc).trans l)
 | fn u _ s=>exact .fn u λi g h r t=>s i g h r t λf j y=>o f j (.fn (ϑ r) y)
def get:List (Nat×AV) ->Nat ->Option AV
 | [],_=>none
 | (k,v)::r,t=>match Nat.beq k t with
  | true=>some v
  | false=>get r t
structure HP where
 id:Nat
 n:Nat
 env:List (Nat×AV)
 st:LoopState
 pend:Option Code
 ps:Array Tmp
 asg:Code
 body:Code
inductive A7 where
 | cells (t:TypeId) (cs:List D)
 | row (t:TypeId) (k cap:Nat) (xs:List D)
 | map (bs:Option (List Nat×Nat)) (es:List (D×D))
inductive AI where
 | blk (t:TypeId) (cs:List AV)
 | row (t:TypeId) (k:Nat) (xs:List AV)
 | rowD (t:TypeId) (k:Nat) (xs:List D)
 | loop (L:HP)
 | map (bs:Option (List Nat×Nat)) (es:List (D×D))
 | iter (f i:Nat) (c:Nat) (seen:List Nat)
 | addr (f i:Nat) (v:Value)
 | any
 | nb (b:Nat) (t:TypeId) (cs:List D)
 | nr (b:Nat) (t:TypeId) (k cap:Nat) (xs:List D)
 | nm (b:Nat) (bs:Option (List Nat×Nat)) (es:List (D×D))
 | itz
 | multi (M:Nat ->Option A7)
def AV.cells:AV ->List AV
 | .agg cs=>cs
 | .d (.agg cs)=>cs.map .d
 | a=> [a]
def FQ {α:Type} (cells:α ->List α) (k:Nat) (R:α ->Value ->Prop) (xs:List α) (us:List Value):Prop:=
 us.length=xs.length*k/\(∀x∈xs,(cells x).length=k)/\∀(i:Nat) x,xs[i]? =some x ->∀(j:Nat) c,(cells x)[j]? =some c ->∃u,us[i*k+j]? =some u/\u.oneCell'=true/\R c u
def Ae (w:World) (O:Nat ->Prop) (ρ:Nat ->Nat ->Value):AI ->Value ->Prop
 | .blk t cs,v=>∃(b:Nat) (us:List Value),v= .pointer (some ⟨b,0,none⟩)/\w.heap[b]? =some (.cells us.toArray t (0,0))/\us.length=cs.length/\
   (∀(j:Nat) c u,cs[j]? =some c ->us[j]? =some u ->AR w O ρ c u)/\∀u∈us,u.oneCell'=true
 | .row t k xs,v=>∃us:List Value,w.ownsRow 0 t k v xs.length us/\FQ AV.cells k (AR w O ρ) xs us
 | .rowD t k xs,v=>∃us:List Value,w.ownsRow 0 t k v xs.length us/\FQ D.cells k (AN w O) xs us/\∀x∈xs,∀c∈x.cells,c.one=true
 | .loop L,v=>∃r:Loop,v= .pointer (some ⟨L.id,0,none⟩)/\w.heap[L.id]? =some (.loop r)/\(r.state=L.st/\r.pending=L.pend/\r.params=L.ps/\r.assign=L.asg/\r.body=L.body)/\r.tmps.size=L.n/\
   ∀t a,get L.env t=some a ->AR w O ρ a (r.tmps.getD t undef)
 | .map bs es,v=>∃(m:Nat) (arr:Array MapEntry) (c:Nat),v= .map (some m)/\w.heap[m]? =some (.map arr c)/\arr.size=es.length/\(∀(i:Nat) e x,arr[i]? =some e ->es[i]? =some x ->AN w O x.1 e.key/\AN w O x.2 e.val)/\
   (arr.toList.map (·.born)).Nodup/\(∀e∈arr.toList,e.born<c)/\∀B c',bs=some (B,c') ->B=arr.toList.map (·.born)/\c'=c
 | .iter f i c seen,v=>∃(r m:Nat) (sn:Array Nat),v= .pointer (some ⟨r,0,none⟩)/\ρ f i= .map (some m)/\w.heap[r]? =some (.mapIter (some m) c sn c)/\sn.toList=seen
 | .addr f i v,u=>u= .nilFunc/\ρ f i=v
 | .any,_=>True
 | .nb b t cs,v=>v= .pointer (some ⟨b,0,none⟩)/\∃us:List Value,w.heap[b]? =some (.cells us.toArray t (0,0))/\us.length=cs.length/\(∀(j:Nat) c u,cs[j]? =some c ->us[j]? =some u ->AN w O c u)/\∀u∈us,u.oneCell'=true
 | .nr b t k cap xs,v=>v= .pointer (some ⟨b,0,none⟩)/\∃us:List Value,w.ownsRow 0 t k (.slice (some ⟨b,0,none⟩) xs.length cap) xs.length us/\FQ D.cells k (AN w O) xs us/\∀x∈xs,∀c∈x.cells,c.one=true
 | .nm b bs es,v=>v= .map (some b)/\∃(arr:Array MapEntry) (c:Nat),w.heap[b]? =some (.map arr c)/\arr.size=es.length/\(∀(i:Nat) e x,arr[i]? =some e ->es[i]? =some x ->AN w O x.1 e.key/\AN w O x.2 e.val)/\
   (arr.toList.map (·.born)).Nodup/\(∀e∈arr.toList,e.born<c)/\∀B c',bs=some (B,c') ->B=arr.toList.map (·.born)/\c'=c
 | .itz,v=>∃r:Nat,v= .pointer (some ⟨r,0,none⟩)/\w.heap[r]? =some (.mapIter none 0 #[] 0)
 | .multi _,_=>True
def A7.at_ (b:Nat):A7 ->AI
 | .cells t cs=> .nb b t cs
 | .row t k cap xs=> .nr b t k cap xs
 | .map bs es=> .nm b bs es
def AI.Refs:AI ->Nat ->Nat ->Prop
 | .blk _ cs,f,i=>∃c∈cs,c.Refs f i
 | .row _ _ xs,f,i=>∃x∈xs,∃c∈x.cells,c.Refs f i
 | .rowD _ _ _,_,_=>False
 | .loop L,f,i=>∃t a,get L.env t=some a/\a.Refs f i
 | .map _ _,_,_=>False
 | .iter g j _ _,f,i=>f=g/\i=j
 | .addr g j _,f,i=>f=g/\i=j
 | .any,_,_=>False
 | .nb _ _ _,_,_=>False
 | .nr _ _ _ _ _,_,_=>False
 | .nm _ _ _,_,_=>False
 | .itz,_,_=>False
 | .multi _,_,_=>False
def B6:Value ->Option Nat
 | .pointer (some a)=>some a.block
 | .slice (some a) _ _=>some a.block
 | .map m=>m
 | _=>none
theorem Ga {f:Nat} {e:TypeId} {c:Nat} {k:List Value} (a:w.ownsRow f e c h G k) (o:∀b,B6 h=some b ->R.heap[b]? =w.heap[b]?):R.ownsRow f e c h G k:=by
 refine ⟨a.1,?_⟩;rcases a.2 with u | ⟨g,j,i,l,t,s,r⟩
 .exact .inl u
 .exact .inr ⟨g,j,i,l,t,by rw [o g (by rw [l];rfl)];exact s,r⟩
theorem FQ.mono {b:Type} {a:b ->List b} {R i:b ->Value ->Prop} {f:List b} {g:List Value} (h:FQ a Q R f g) (j:∀x∈f,∀c∈a x,∀u,R c u ->i c u):FQ a Q i f g:=by grind [FQ]
variable {E:AI}
theorem Ae.mono {w w':World} {O':Nat ->Prop} (D:w.heap.size<=w'.heap.size) (F:∀b,b<w.heap.size ->¬k b ->w'.heap[b]? =w.heap[b]?) (G:∀b,b<w.heap.size ->O' b ->k b)
 (s:Ae w k c E h) (C:∀b,B6 h=some b ->w'.heap[b]? =w.heap[b]?) (Q:∀f i,E.Refs f i ->x f i=c f i):Ae w' O' x E h:=by
 cases E with
 | blk t cs=>
  obtain ⟨b,H,rfl,z,B,A,K⟩:=s;exact ⟨b,H,Z,by rw [C b rfl];exact z,B,λj y u N J=>(A j y u N J).mono D F G λf i R=>Q f i ⟨y,ϑ N,R⟩,K⟩
 | row t l V=>
  obtain ⟨H,z,B⟩:=s;exact ⟨H,Ga z C,B.mono λg I y N u J=>J.mono D F G λf i R=>Q f i ⟨g,I,y,N,R⟩⟩
 | rowD t l V=>
  obtain ⟨H,z,B,A⟩:=s;exact ⟨H,Ga z C,B.mono λg I y N u J=>J.mono D F G,A⟩
 | loop L=>
  obtain ⟨r,rfl,z,B,A,K⟩:=s;exact ⟨r,Z,by rw [C _ rfl];exact z,B,A,λt a W=>(K t a W).mono D F G λf i R=>Q f i ⟨t,a,W,R⟩⟩
 | map bs Y=>
  obtain ⟨m,P,y,rfl,z,B,A,K,U,T⟩:=s;exact ⟨m,P,y,Z,by rw [C _ rfl];exact z,B,λi e g S I=>⟨(A i e g S I).1.mono D F G,(A i e g S I).2.mono D F G⟩,K,U,T⟩
 | iter f i y seen=>
  obtain ⟨r,m,X,rfl,z,B,A⟩:=s;exact ⟨r,m,X,Z,(Q f i ⟨Z,Z⟩).trans z,by rw [C _ rfl];exact B,A⟩
 | addr f i u=>exact ⟨s.1,(Q f i ⟨Z,Z⟩).trans s.2⟩
 | any=>trivial
 | nb b t cs=>
  obtain ⟨rfl,H,z,B,A,K⟩:=s;exact ⟨Z,H,by rw [C _ rfl];exact z,B,λj y u N J=>(A j y u N J).mono D F G,K⟩
 | nr b t l cap V=>
  obtain ⟨rfl,H,z,B,A⟩:=s;exact ⟨Z,H,Ga z C,B.mono λg I y N u J=>J.mono D F G,A⟩
 | nm b bs Y=>
  obtain ⟨rfl,P,y,z,B,A,K,U,T⟩:=s;exact ⟨Z,P,y,by rw [C _ rfl];exact z,B,λi e g S I=>⟨(A i e g S I).1.mono D F G,(A i e g S I).2.mono D F G⟩,K,U,T⟩
 | itz=>obtain ⟨r,rfl,z⟩:=s;exact ⟨r,Z,by rw [C _ rfl];exact z⟩
 | multi M=>trivial
structure AS where
 n:Nat
 env:List (Nat×AV)
 hp:List (Nat×List AI)
def eQ:List (Nat×List AI) ->Nat ->Option (List AI)
 | [],_=>none
 | (k,v)::r,t=>match Nat.beq k t with
  | true=>some v
  | false=>eQ r t
def gW:List (Nat×List AI) ->List Nat
 | []=> []
 | (f,_)::r=>f::gW r
variable {f:List (Nat×List AI)} {o:List AI}
theorem kn (h:eQ f j=some o):j∈gW f:=by
 induction f with
 | nil=>cases h
 | cons p r a=>
  grind [eQ,fx,gW]
def gV:List AI ->Option (Nat ->Option A7)
 | [o]=>match o with
  | .multi M=>some M
  | _=>none
 | _=>none
def gl (l:List AI) (i:Nat):Option AI:=match gV l with
 | some M=>(M i).map (A7.at_ i)
 | none=>l[i]?
def S9:AI ->Bool
 | .multi _=>false
 | _=>true
theorem Wp (h:S9 E=true):gV [E]=none:=by cases E<;>first | rfl | cases h
theorem Ky {o:AI} (h:S9 o=true) (i:Nat):gl [o] i=[o][i]?:=by unfold gl;rw [Wp h]
variable {M:Nat ->Option A7}
theorem Na (h:gV o=some M):o=[.multi M]:=by
 match o,h with
 | [a],h=>cases a<;>first | (injection h with h;subst h;rfl) | cases h
 | [],h=>cases h
 | _::_::_,h=>cases h
variable {L:A7}
theorem A7.norefs:¬(L.at_ s).Refs j u:=by cases L<;>exact λh=>h
variable {N:List AV}
theorem A7.notBlk {t:TypeId}:L.at_ s≠ .blk t N:=by cases L<;>exact λh=>by cases h
theorem iR (h:gl o u=some E):E∈o\/∃(M:Nat ->Option A7) (m:A7),o=[.multi M]/\M u=some m/\E=m.at_ u:=by
 unfold gl at h
 split at h
 .rename_i M a
  cases hm:M u with
  | none=>rw [hm] at h;cases h
  | some m=>rw [hm] at h;injection h with h;exact .inr ⟨M,m,Na a,hm,h.symm⟩
 grind
def dr (hp:List (Nat×List AI)) (f i:Nat):Option AI:=(eQ hp f).bind (gl · i)
inductive DS where
 | marks (m:Nat)
 | exact (L:List Deferred)
def DS.le:DS ->Nat ->Prop
 | .marks m,n=>m<=n
 | .exact _,_=>False
structure Fr where
 rnd:Option Nat
 lo:DS
 w0:World
 Of:Nat ->Prop
 own0:Nat ->Prop
 pin:Nat ->Nat ->Option Nat
 hOf:∀b,Of b ->b<w0.heap.size/\¬own0 b
 pn:List Nat
 hpn:∀f i b,pin f i=some b ->f∈pn
def Am (ρ:Nat ->Nat ->Value) (hp:List (Nat×List AI)) (b:Nat):Prop:=∃f i o,dr hp f i=some o/\B6 (ρ f i)=some b
def Fr.O (F:Fr) (ρ:Nat ->Nat ->Value) (hp:List (Nat×List AI)) (b:Nat):Prop:=F.Of b\/Am ρ hp b
structure BP (F:Fr) (hp:List (Nat×List AI)) (ρ:Nat ->Nat ->Value) (w:World):Prop where
 sim:∀f i o,dr hp f i=some o ->Ae w (F.O ρ hp) ρ o (ρ f i)
 inj:∀f i f' i' o o' b,dr hp f i=some o ->dr hp f' i'=some o' ->B6 (ρ f i)=some b ->B6 (ρ f' i')=some b ->f=f'/\i=i'
 mine:∀b,Am ρ hp b ->b<w.heap.size/\(F.own0 b\/F.w0.heap.size<=b)
 os:w.os=F.w0.os
 tape:w.tape=F.w0.tape
 output:w.output=F.w0.output
 size0:F.w0.heap.size<=w.heap.size
 keep:∀b,b<F.w0.heap.size ->¬F.own0 b ->w.heap[b]? =F.w0.heap[b]?
 pins:∀f i b,F.pin f i=some b ->ρ f i= .pointer (some ⟨b,0,none⟩)/\∃t cs,dr hp f i=some (.blk t cs)
 drawn:F.w0.drawn<=w.drawn
def Iw (b:Nat):Deferred:={target:= .collected b,args:= #[]}
def HE (d:DS) (w:World) (O:Nat ->Prop) (ds:List Deferred):Prop:=match d with
 | .marks m=>∃bs:List Nat,ds=bs.map Iw/\bs.Nodup/\∀b∈bs,m<=b/\b<w.heap.size/\¬O b/\w.heap[b]? =some (.deferred (some []))
 | .exact L=>ds=L
theorem HE.nil {m:Nat}:HE (.marks m) w k []:=⟨[],Z,List.nodup_nil,λ_ h=>by cases h⟩
theorem HE.mono {d:DS} {w w':World} {O':Nat ->Prop} {a:List Deferred} (h:HE d w k a) (c:w.heap.size<=w'.heap.size) (f:∀b,b<w.heap.size ->¬k b ->w'.heap[b]? =w.heap[b]?) (g:∀b,b<w.heap.size ->O' b ->k b):HE d w' O' a:=by
 cases d with
 | exact L=>exact h
 | marks m=>
  grind [HE]
structure SR (F:Fr) (s:AS) (ρ:Nat ->Nat ->Value) (act:Act) (w:World):Prop where
 size:act.tmps.size=s.n
 defs:HE F.lo w (F.O ρ s.hp) act.defers
 env:∀t a,get s.env t=some a ->AR w (F.O ρ s.hp) ρ a (act.tmps.getD t undef)
 heap:BP F s.hp ρ w
variable {F:Fr}
theorem BP.notOf (h:BP F f c w) (i:Am c f s):¬F.Of s:=λg=>by
 have j:=F.hOf s g;have a:=(h.mine s i).2;rcases a with a | a
 .exact j.2 a
 .omega
theorem If (a:H<B.tmps.size):(B.put (some H) h).tmps.getD H undef=h:=by
 simp [Act.put,Array.getD,a]
theorem L8 (a:H≠y):(B.put (some H) h).tmps.getD y undef=B.tmps.getD y undef:=by
 simp only [Act.put,iy];rw [Array.getElem?_setIfInBounds_ne a]
def AS.put (s:AS) (d:Nat) (a:AV):AS:=⟨s.n,(d,a)::s.env,s.hp⟩
theorem LR {v:AV} {r:List (Nat×AV)} (h:get ((Q,v)::r) y=some g):(Q=y/\v=g)\/(Q≠y/\get r y=some g):=by
 unfold get at h
 split at h
 .simp_all
 grind [iB]
theorem SR.put {s:AS} (b:SR F s c B w) (j:H<s.n) (k:AR w (F.O c s.hp) c g h):SR F (s.put H g) c (B.put (some H) h) w where
 size:=by have:=b.size;simpa [Act.put,AS.put] using this
 defs:=b.defs
 env:=λt x f=>by
  rcases LR f with ⟨rfl,rfl⟩ | ⟨i,f⟩
  .rw [If (by rw [b.size];exact j)];exact k
  .rw [L8 i];exact b.env t x f
 heap:=b.heap
def AV.okS (p:Nat ->Nat ->Bool):AV ->Bool
 | .d _=>true
 | .top=>true
 | .ptr g i _=>p g i
 | .own g i _=>p g i
 | .rptr g i _ _ _=>p g i
 | .map g i=>p g i
 | .ifc _ _ g i=>p g i
 | _=>false
def YP (p:Nat ->Nat ->Bool):List AV ->Bool
 | []=>true
 | a::r=>a.okS p && YP p r
def AV.ok (p:Nat ->Nat ->Bool):AV ->Bool
 | .tup as=>YP p as
 | .agg as=>YP p as
 | .fn _ as=>YP p as
 | a=>a.okS p
theorem AV.okS_spec (h:g.okS a=true) (b:g.Refs j u):a j u=true:=by
 cases b with
 | tup _ _=>simp [AV.okS] at h
 | agg _ _=>simp [AV.okS] at h
 | fn _ _=>simp [AV.okS] at h
 | ptr=>exact h
 | own=>exact h
 | rptr=>exact h
 | map=>exact h
 | ifc=>exact h
variable {z:List AV}
theorem FE (h:YP a z=true) (b:g∈z) (k:g.Refs j u):a j u=true:=by
 induction z with
 | nil=>cases b
 | cons x r c=>
  grind [YP,AV.okS_spec]
theorem AV.ok_spec (h:g.ok a=true) (b:g.Refs j u):a j u=true:=by
 cases b with
 | tup c b=>exact FE h c b
 | agg c b=>exact FE h c b
 | fn c b=>exact FE h c b
 | ptr=>exact h
 | own=>exact h
 | rptr=>exact h
 | map=>exact h
 | ifc=>exact h
def qk (p:Nat ->Nat ->Bool):List AV ->Bool
 | []=>true
 | a::r=>a.ok p && qk p r
theorem NK (h:qk a z=true) (b:g∈z) (k:g.Refs j u):a j u=true:=by
 induction z with
 | nil=>cases b
 | cons x r c=>
  grind [qk,AV.ok_spec]
def L4 (p:Nat ->Nat ->Bool):List (Nat×AV) ->Bool
 | []=>true
 | (_,a)::r=>a.ok p && L4 p r
variable {t:List (Nat×AV)}
theorem NJ (h:L4 a t=true) (b:get t y=some g) (k:g.Refs j u):a j u=true:=by
 induction t with
 | nil=>cases b
 | cons q r c=>
  grind [L4,LR,AV.ok_spec]
def B8 (p:Nat ->Nat ->Bool):List (Nat×AV) ->Option (List (Nat×AV))
 | []=>some []
 | (t,a)::r=>match B8 p r with
  | none=>none
  | some r'=>match a.ok p with
   | true=>some ((t,a)::r')
   | false=>some ((t,.top)::r')
def N7 (p:Nat ->Nat ->Bool):List AV ->Option (List AV)
 | []=>some []
 | a::r=>match N7 p r with
  | none=>none
  | some r'=>match a.ok p with
   | true=>some (a::r')
   | false=>some (.top::r')
def Bu (p:Nat ->Nat ->Bool):AI ->Option AI
 | .blk t cs=>match N7 p cs with
  | none=>none
  | some cs'=>some (.blk t cs')
 | .row t k xs=>match xs.all (λx=>YP p x.cells) with
  | true=>some (.row t k xs)
  | false=>none
 | .rowD t k xs=>some (.rowD t k xs)
 | .loop L=>match B8 p L.env with
  | none=>none
  | some e=>some (.loop {L with env:=e})
 | .map bs es=>some (.map bs es)
 | .iter f i c seen=>match p f i with
  | true=>some (.iter f i c seen)
  | false=>some .any
 | .addr f i v=>match p f i with
  | true=>some (.addr f i v)
  | false=>some .any
 | .any=>some .any
 | .nb b t cs=>some (.nb b t cs)
 | .nr b t k cap xs=>some (.nr b t k cap xs)
 | .nm b bs es=>some (.nm b bs es)
 | .itz=>some (.itz)
 | .multi M=>some (.multi M)
def Dz (p:Nat ->Nat ->Bool):List AI ->Option (List AI)
 | []=>some []
 | o::r=>match Dz p r with
  | none=>none
  | some r'=>match Bu p o with
   | none=>none
   | some o'=>some (o'::r')
def Bv (p:Nat ->Nat ->Bool):List (Nat×List AI) ->Option (List (Nat×List AI))
 | []=>some []
 | (g,l)::r=>match Bv p r with
  | none=>none
  | some r'=>match Dz p l with
   | none=>none
   | some l'=>some ((g,l')::r')
variable {I:List (Nat×AV)}
theorem DH (h:B8 a t=some I) (b:get I y=some g):g= .top\/(get t y=some g/\∀f i,g.Refs f i ->a f i=true):=by
 induction t generalizing I with
 | nil=>simp only [B8,Option.some.injEq] at h;subst h;simp [get] at b
 | cons q r c=>
  grind [B8,get,AV.ok_spec]
theorem Su {g:List AV} (h:N7 a N=some g):g.length=N.length/\∀(j:Nat) c,g[j]? =some c ->c= .top\/(N[j]? =some c/\∀f i,c.Refs f i ->a f i=true):=by
 induction N generalizing g with
 | nil=>simp only [N7,Option.some.injEq] at h;subst h;simp
 | cons b r k=>
  grind [N7,AV.ok_spec]
def AI.Less (p:Nat ->Nat ->Bool) (o o':AI):Prop:=(∀w O ρ v,Ae w O ρ o v ->Ae w O ρ o' v)/\(∀f i,o'.Refs f i ->p f i=true)/\(∀t cs,o= .blk t cs ->∃cs',o'= .blk t cs')/\(∀t cs,o'= .blk t cs ->∃cs',o= .blk t cs')
theorem St {J:AI} (h:Bu a E=some J):E.Less a J:=by
 cases E with
 | blk t cs=>
  simp only [Bu] at h
  split at h
  .cases h
  .rename_i cs' D
   injection h with h;subst h
   obtain ⟨N,z⟩:=Su D;refine ⟨λw O P v ⟨b,Q,T,W,hl,l,U⟩=>⟨b,Q,T,W,by omega,λj c u y hu=>?_,U⟩,λf i ⟨c,y,l⟩=>?_,λR A e=>?_,λR A e=>?_⟩
   .rcases z j c y with rfl | ⟨X,_⟩
    .exact .top
    grind
   .obtain ⟨j,V,rfl⟩:=gF y;rcases z j _ (ω V) with B | ⟨_,B⟩
    .rw [B] at l;cases l
    grind
   .grind
   grind
 | row t k I=>
  simp only [Bu] at h
  split at h
  .rename_i s
   injection h with h;subst h
   refine ⟨λ_ _ _ _ h=>h,λf i ⟨x,C,c,y,l⟩=>FE (iZ.1 s x C) y l,(λ_ _ e=>by cases e),(λ_ _ e=>by cases e)⟩
  .cases h
 | rowD t k I=>
  simp only [Bu,Option.some.injEq] at h;subst h;exact ⟨λ_ _ _ _ h=>h,λf i l=>l.elim,(λ_ _ e=>by cases e),(λ_ _ e=>by cases e)⟩
 | loop L=>
  simp only [Bu] at h
  split at h
  .cases h
  .rename_i e K
   injection h with h;subst h
   refine ⟨λw O P v ⟨r,N,z,B,Z,h5⟩=>⟨r,N,z,B,Z,λt g F=>?_⟩,λf i ⟨t,g,F,l⟩=>?_,(λ_ _ e=>by cases e),(λ_ _ e=>by cases e)⟩
   .rcases DH K F with rfl | ⟨Y,_⟩
    .exact .top
    grind
   .rcases DH K F with rfl | ⟨_,z⟩
    .cases l
    grind
 | map bs es=>
  simp only [Bu,Option.some.injEq] at h;subst h;exact ⟨λ_ _ _ _ h=>h,λf i l=>l.elim,(λ_ _ e=>by cases e),(λ_ _ e=>by cases e)⟩
 | iter f i c seen=>
  simp only [Bu] at h
  split at h
  .rename_i s
   injection h with h;subst h
   exact ⟨λ_ _ _ _ h=>h,λf' S ⟨H,G⟩=>by subst H G;exact s,(λ_ _ e=>by cases e),(λ_ _ e=>by cases e)⟩
  .injection h with h;subst h
   exact ⟨λ_ _ _ _ _=>trivial,λf i l=>l.elim,(λ_ _ e=>by cases e),(λ_ _ e=>by cases e)⟩
 | addr f i u=>
  simp only [Bu] at h
  split at h
  .rename_i s
   injection h with h;subst h
   exact ⟨λ_ _ _ _ h=>h,λf' S ⟨H,G⟩=>by subst H G;exact s,(λ_ _ e=>by cases e),(λ_ _ e=>by cases e)⟩
  .injection h with h;subst h
   exact ⟨λ_ _ _ _ _=>trivial,λf i l=>l.elim,(λ_ _ e=>by cases e),(λ_ _ e=>by cases e)⟩
 | any=>
  simp only [Bu,Option.some.injEq] at h;subst h;exact ⟨λ_ _ _ _ h=>h,λf i l=>l.elim,(λ_ _ e=>by cases e),(λ_ _ e=>by cases e)⟩
 | nb b t cs=>
  simp only [Bu,Option.some.injEq] at h;subst h;exact ⟨λ_ _ _ _ h=>h,λf i l=>l.elim,(λ_ _ e=>by cases e),(λ_ _ e=>by cases e)⟩
 | nr b t k cap I=>
  simp only [Bu,Option.some.injEq] at h;subst h;exact ⟨λ_ _ _ _ h=>h,λf i l=>l.elim,(λ_ _ e=>by cases e),(λ_ _ e=>by cases e)⟩
 | nm b bs es=>
  simp only [Bu,Option.some.injEq] at h;subst h;exact ⟨λ_ _ _ _ h=>h,λf i l=>l.elim,(λ_ _ e=>by cases e),(λ_ _ e=>by cases e)⟩
 | itz=>
  simp only [Bu,Option.some.injEq] at h;subst h;exact ⟨λ_ _ _ _ h=>h,λf i l=>l.elim,(λ_ _ e=>by cases e),(λ_ _ e=>by cases e)⟩
 | multi M=>
  simp only [Bu,Option.some.injEq] at h;subst h;exact ⟨λ_ _ _ _ h=>h,λf i l=>l.elim,(λ_ _ e=>by cases e),(λ_ _ e=>by cases e)⟩
theorem A7.less:(L.at_ s).Less a (L.at_ s):=⟨λ_ _ _ _ h=>h,λ_ _ c=>absurd c A7.norefs,λ_ _ e=>absurd e A7.notBlk,λ_ _ e=>absurd e A7.notBlk⟩
theorem Qe {b:AI} (h:Bu a b=some (.multi M)):b= .multi M:=by
 cases b<;>simp only [Bu] at h<;>first | (injection h with h) | (split at h<;>first | cases h | (injection h with h;cases h)) | cases h
 all_goals first | (subst h;rfl) | cases h
variable {K:List AI}
theorem Jl (h:Dz a o=some K):K.length=o.length/\∀(j:Nat) o',K[j]? =some o' ->∃b,o[j]? =some b/\b.Less a o':=by
 induction o generalizing K with
 | nil=>simp only [Dz,Option.some.injEq] at h;subst h;simp
 | cons c r f=>
  grind [Dz,St]
theorem Ss (h:Dz a o=some K):gV K=gV o:=by
 have f:=(Jl h).1
 match o,K,h,f with
 | [],[],_,_=>rfl
 | [c],[b],h,_=>
  simp only [Dz] at h
  split at h
  .cases h
  .rename_i g i
   injection h with h;injection h with h;subst h
   cases hb:gV [g] with
   | some M=>
    have e:=Na hb
    grind [Qe]
   | none=>
    cases ha:gV [c] with
    | none=>rfl
    | some M=>
     have e:=Na ha
     grind [Bu]
 | _::_::_,_::_::_,_,_=>rfl
 | [],_::_,_,f=>simp at f
 | [_],[],_,f=>simp at f
 | [_],_::_::_,_,f=>simp at f
 | _::_::_,[],_,f=>simp at f
 | _::_::_,[_],_,f=>simp at f
theorem Sv (h:Dz a o=some K):(∀(j:Nat) f,gl K j=some f ->∃b,gl o j=some b/\b.Less a f)/\∀(j:Nat) b,gl o j=some b ->∃f,gl K j=some f/\b.Less a f:=by
 have g:=Ss h;obtain ⟨r,k⟩:=Jl h;unfold gl;rw [g]
 cases hm:gV o with
 | some M=>
  have i:∀(j:Nat) b,(M j).map (A7.at_ j)=some b ->b.Less a b:=λj b c=>by
   cases hmj:M j with
   | none=>rw [hmj] at c;cases c
   | some m=>rw [hmj] at c;injection c with c;subst c;exact A7.less
  grind
 | none=>
  grind
variable {i:List (Nat×List AI)}
theorem Hl (h:Bv a f=some i):(∀g b c,dr i g b=some c ->∃o,dr f g b=some o/\o.Less a c)/\∀g b o,dr f g b=some o ->∃c,dr i g b=some c/\o.Less a c:=by
 induction f generalizing i with
 | nil=>simp only [Bv,Option.some.injEq] at h;subst h;simp [dr,eQ]
 | cons q r t=>
  obtain ⟨k,l⟩:=q;simp only [Bv] at h
  split at h
  .cases h
  .rename_i y u
   obtain ⟨x,w⟩:=t u
   split at h
   .cases h
   .rename_i z v
    injection h with h;subst h
    obtain ⟨B,A⟩:=Sv v;refine ⟨λg b c j=>?_,λg b o j=>?_⟩
    .by_cases e:k=g
     .grind [dr,eQ,gh]
     .have s:Nat.beq k g=false:=HV e;simp only [dr,eQ,s] at j⊢;exact x g b c j
    .by_cases e:k=g
     .grind [dr,eQ,gh]
     .have s:Nat.beq k g=false:=HV e;simp only [dr,eQ,s] at j⊢;exact w g b o j
def B2 (f g:Nat) (_i:Nat):Bool:=!(Nat.beq g f)
theorem RU {g:Nat} (h:B2 j g u=true):g≠j:=by
 rintro rfl
 simp [B2] at h
abbrev AX (f:Nat):=B8 (B2 f)
abbrev AT (f:Nat):=Bv (B2 f)
abbrev be (f:Nat):=YP (B2 f)
theorem Sa (h:be j z=true) (c:g∈z) (i:Nat):¬g.Refs j i:=λb=>RU (FE h c b) rfl
theorem BR (h:AX j t=some I) (b:get I y=some g):g= .top\/(get t y=some g/\∀i,¬g.Refs j i):=by grind [DH,RU]
theorem Ak (h:AT j f=some i):(∀g a b,dr i g a=some b ->∃o,dr f g a=some o/\o.Less (B2 j) b)/\∀g a o,dr f g a=some o ->∃b,dr i g a=some b/\o.Less (B2 j) b:=Hl h
theorem Am.same (h:∀g a k,dr i g a=some k ->∃o,dr f g a=some o) (l:Am c i s):Am c f s:=by
 obtain ⟨j,a,k,u,t⟩:=l;obtain ⟨o,r⟩:=h j a k u;exact ⟨j,a,o,r,t⟩
theorem BP.less (h:BP F f c w)
  (x:∀g j l,dr i g j=some l ->∃o,dr f g j=some o/\∀w O v,Ae w O c o v ->Ae w O c l v) (E:∀g j o,dr f g j=some o ->∃l,dr i g j=some l/\∀t A,o= .blk t A ->∃z,l= .blk t z):BP F i c w:=by
 have r:∀b,F.O c i b↔F.O c f b:=λb=>⟨λh=>h.imp id (Am.same λg j l r=>let ⟨o,a,_⟩:=x g j l r;⟨o,a⟩),λh=>h.imp id (Am.same λg j o r=>let ⟨l,a,_⟩:=E g j o r;⟨l,a⟩)⟩
 have y:F.O c i=F.O c f:=funext λb=>propext (r b);refine ⟨λk j l u=>?_,λk j G B o l b u s=>?_,λb D=>?_,h.os,h.tape,h.output,h.size0,h.keep,λk j b f=>?_,h.drawn⟩
 .obtain ⟨o,r,C⟩:=x k j l u;rw [y];exact C _ _ _ (h.sim k j o r)
 .obtain ⟨_,u,_⟩:=x _ _ _ u;obtain ⟨_,s,_⟩:=x _ _ _ s;exact h.inj k j G B _ _ b u s
 .exact h.mine b (Am.same (λg j l r=>let ⟨o,a,_⟩:=x g j l r;⟨o,a⟩) D)
 .obtain ⟨I,t,A,H⟩:=h.pins k j b f
  grind
theorem BP.one (h:BP F f c w) (f0 k:Nat) (Q:AI)
  (j:∀g a,dr i g a=if g=f0/\a=k then some Q else dr f g a)
  (r:∀g a,¬(g=f0/\a=k) ->x g a=c g a)
  (A:∀b,B6 (x f0 k)=some b ->((∃o,dr f f0 k=some o)/\B6 (c f0 k)=some b)\/(w.heap.size<=b/\b<R.heap.size))
  (U:R.os=w.os) (H:R.tape=w.tape) (L:R.output=w.output) (hs:w.heap.size<=R.heap.size) (fE:w.drawn<=R.drawn)
  (X:∀b,b<w.heap.size ->¬((∃o,dr f f0 k=some o)/\B6 (c f0 k)=some b) ->R.heap[b]? =w.heap[b]?)
  (S:x f0 k=c f0 k\/∀g a o,dr f g a=some o ->¬(g=f0/\a=k) ->¬o.Refs f0 k)
  (K:∀b,F.pin f0 k=some b ->x f0 k=c f0 k/\∃t cs,Q= .blk t cs)
  (hsim:Ae R (F.O x i) x Q (x f0 k)):BP F i x R:=by
 have G:∀b,Am x i b ->Am c f b\/(w.heap.size<=b/\b<R.heap.size):=λb ⟨g,a,o,l,s⟩=>by
  by_cases e:g=f0/\a=k
  .obtain ⟨rfl,rfl⟩:=e;rcases A b s with ⟨⟨o,C⟩,O⟩ | O
   .exact .inl ⟨g,a,o,C,O⟩
   omega
  .rw [j,θ e] at l;rw [r g a e] at s;exact .inl ⟨g,a,o,l,s⟩
 have hO:∀b,b<w.heap.size ->F.O x i b ->F.O c f b:=λb v C=>by
  rcases C with C | C
  .exact .inl C
  .rcases G b C with l | l
   .exact .inr l
   .omega
 have V:∀b,b<w.heap.size ->¬F.O c f b ->R.heap[b]? =w.heap[b]?:=λb v C=>X b v λ⟨⟨o,l⟩,s⟩=>C (.inr ⟨f0,k,o,l,s⟩)
 have T:∀g a (o:AI),dr f g a=some o ->¬(g=f0/\a=k) ->∀D B,o.Refs D B ->x D B=c D B:=λg a o C hne D B hr=>by
  grind
 refine ⟨λg a o z=>?_,λg a D B o P b z y E u=>?_,λb W=>?_,U.trans h.os,H.trans h.tape,L.trans h.output,fO h.size0 hs,λb v M=>?_,λg a b f=>?_,fO h.drawn fE⟩
 .by_cases e:g=f0/\a=k
  .grind
  .rw [j,θ e] at z;rw [r g a e];refine (h.sim g a o z).mono hs V hO (λb E=>X b (h.mine b ⟨g,a,o,z,E⟩).1 λ⟨⟨J,l⟩,s⟩=>e (h.inj g a f0 k o J b z l E s)) (T g a o z e)
 .by_cases e:g=f0/\a=k<;>by_cases I:D=f0/\B=k
  .omega
  .exfalso
   obtain ⟨rfl,rfl⟩:=e;rw [j,θ I] at y;rw [r _ _ I] at u;rcases A b E with ⟨⟨J,l⟩,s⟩ | s
   .exact I (h.inj D B g a P J b y l u s)
   .have:=(h.mine b ⟨D,B,P,y,u⟩).1;omega
  .exfalso
   obtain ⟨rfl,rfl⟩:=I;rw [j,θ e] at z;rw [r _ _ e] at E;rcases A b u with ⟨⟨J,l⟩,s⟩ | s
   .exact e (h.inj g a D B o J b z l E s)
   .have:=(h.mine b ⟨g,a,o,z,E⟩).1;omega
  .rw [j,θ e] at z;rw [j,θ I] at y;rw [r _ _ e] at E;rw [r _ _ I] at u;exact h.inj g a D B o P b z y E u
 .rcases G b W with l | l
  .have:=h.mine b l;exact ⟨by omega,this.2⟩
  .exact ⟨l.2,.inr (fO h.size0 l.1)⟩
 .rw [<-h.keep b v M];have N:b<w.heap.size:=hU v h.size0;refine X b N λ⟨⟨o,l⟩,s⟩=>?_;rcases (h.mine b ⟨f0,k,o,l,s⟩).2 with O | O
  .exact M O
  .omega
 .obtain ⟨a1,t,cs,a2⟩:=h.pins g a b f
  by_cases e:g=f0/\a=k
  .obtain ⟨rfl,rfl⟩:=e;obtain ⟨a3,t',Y,rfl⟩:=K b f;exact ⟨a3.trans a1,t',Y,by rw [j,ϱ ⟨Z,Z⟩]⟩
  .exact ⟨(r g a e).trans a1,t,cs,by rw [j,θ e];exact a2⟩
def Sj (F:Fr) (Q:Exit ->AS ->Prop) (e:Exit) (act:Act) (w:World):Prop:=∃s ρ,Q e s/\SR F s ρ act w
def Pq (r:Option Nat):Fence:={Fence.wide with round:=r}
def Op.isDefer:Op ->Bool
 | .defer _=>true
 | _=>false
theorem PN (r:Option Nat) (a:Operand ->Value) (o:Oper) (h:Op.isDefer o.op=false):o.semAt (Pq r).round a=execOp a o:=by
 cases r with
 | none=>exact Oper.semAt_none a o
 | some l=>exact Oper.semAt_some l a o λc b=>by rw [b] at h;cases h
theorem Ul {f:String} {R:Value ->World ->Prop} (h:Go.Rows P f A w R):RowsIn (Pq C) G P f A w R:=by
 have g:RowsIn Fence.wide G P f A w R:=λc j _=>let ⟨v,i,a,b⟩:=h c j;⟨v,i,a,stepsIn_wide.2 b⟩
 cases C with
 | none=>exact g
 | some l=>exact g
theorem Lg {r:Option Nat} {f:FuncId} {R:Ending ->World ->Prop} (h:Calls P f A w R):CallsIn (Pq r) G P f A w R:=by
 cases r with
 | none=>exact callsIn_wide.2 h
 | some l=>exact CallsIn.inRound l (callsIn_wide.2 h)
theorem Em {o:Oper} {a:Act} {K:Act ->World ->Prop} {Q:Exit ->Act ->World ->Prop} (j:Op.isDefer o.op=false) (h:o.wp P a w K (λ_ _ _=>False)):o.wpIn (Pq C) 0 P a w K Q:=by
 refine ⟨λ_ _=>trivial,?_⟩;rw [PN C _ o j];unfold Oper.wp at h
 generalize (execOp a.eval o).run P w=c at h
 cases c with
 | ok x w=>
  cases x with
  | value v=>exact h
  | skip=>exact h
  | defer d=>exact h
  | enter f b=>
   rw [Oper.upon_enter] at h;refine ⟨(λh=>by cases h),Lg (h.mono λe k g=>?_)⟩
   cases e with
   | returned v=>exact g
   | panicked _=>exact g.elim
   | outgrown=>obtain ⟨_,_,i⟩:=g;exact i.elim
  | row C b=>
   rw [Oper.upon_row] at h;exact ⟨(λh=>by cases h),Ul h⟩
  | _=>exact h.elim
 | halt x w=>
  cases x<;>exact h.elim
def Bl (P:Program) (F:Fr) (c:Code) (Q:Exit ->AS ->Prop) (s:AS):Prop:=∀ρ act w,SR F s ρ act w ->c.wpIn (Pq F.rnd) 0 P (Sj F Q) act w
def A8 (P:Program) (F:Fr) (ops:Array Oper) (l:List Oper) (Q:Exit ->AS ->Prop) (s:AS):Prop:=∀ρ act w,SR F s ρ act w ->wpListIn (Pq F.rnd) 0 P ops (Sj F Q) l act w
def O0 (P:Program) (F:Fr) (o:Oper) (s:AS) (T:AS ->Prop):Prop:=∀ρ act w,SR F s ρ act w ->o.wp P act w (Sj F (λe s'=>e= .normal/\T s') .normal) (λ_ _ _=>False)
theorem IB (h:Nat.blt H G=true):H<G:=Nat.lt_of_succ_le (by simpa [Nat.blt] using h)
def q0 (K:AS ->Prop) (Q:Exit ->AS ->Prop):Exit ->AS ->Prop
 | .normal,s=>K s
 | e,s=>Q e s
def X3 (id:Nat) (Q:Exit ->AS ->Prop):Exit ->AS ->Prop
 | .exit id',s=>match Nat.beq id' id with
  | true=>Q .normal s
  | false=>Q (.exit id') s
 | e,s=>Q e s
section
variable {P:Program} {F:Fr} {Q Q':Exit ->AS ->Prop} {s:AS}
variable {a:Array Oper} {c:List (Nat×List AI)} {f:List (Nat×AV)} {g:Nat ->Nat ->Value} {h:List Oper} {i:Array Edge} {j:String} {w:World} {k:List (Nat×AV)} {o:TypeId} {t:Operand} {u:Option Tmp} {x:Nat} {z:Nat ->Nat ->Bool} {A:Bool} {B:Code} {C:Oper} {E:Code} {G:Op} {H:Nat ->Prop} {I:Code} {K:List Oper} {L:Act ->World ->Prop} {M:Nat} {N R:Act} {S:Nat} {T:AV} {U:Bool}
theorem Bl.mono (h:Bl P F E Q s) (g:∀e s,Q e s ->Q' e s):Bl P F E Q' s:=λa b w f=>
 Go.wpIn_mono (h a b w f) λe _ _ ⟨s,a,j,i⟩=>⟨s,a,g e s j,i⟩
theorem AZ (h:Q .normal s):Bl P F .skip Q s:=λa _ _ b=>wpIn_skip ⟨s,a,h,b⟩
theorem mE {l:Nat} (h:Q .normal s):Bl P F (.label l) Q s:=λa c w b=>wpIn_label ⟨s,a,h,b⟩
theorem BC {id:Nat} (h:Q (.exit id) s):Bl P F (.exit id) Q s:=λa _ _ b=>wpIn_exit ⟨s,a,h,b⟩
theorem A4 (h:Q .ret s):Bl P F .ret Q s:=λa _ _ b=>wpIn_ret ⟨s,a,h,b⟩
theorem AC (h:Bl P F B (q0 (Bl P F I Q) Q) s):Bl P F (.seq B I) Q s:=λi c w k=>
 wpIn_seq (Go.wpIn_mono (h i c w k) λe a w ⟨j,b,g,f⟩=>by
  cases e with
  | normal=>exact g b a w f
  | _=>exact ⟨j,b,g,f⟩)
theorem A0 {id:Nat} (h:Bl P F B (X3 id Q) s):Bl P F (.block id B) Q s:=λk j w o=>
 wpIn_block (Go.wpIn_mono (h k j w o) λe a w ⟨f,b,c,i⟩=>by
  cases e with
  | exit l=>
   simp only [X3] at c;simp only [Exit.inBlock]
   split at c
   .rename_i g;rw [ϱ (fx g)];exact ⟨f,b,c,i⟩
   .rename_i g;rw [θ (iB g)];exact ⟨f,b,c,i⟩
  | _=>exact ⟨f,b,c,i⟩)
def Ht (v:Value):Option AV:=match v.oneCell' with
 | false=>none
 | true=>match v with
  | .slice none 0 0=>some (.d (.sl (some true) []))
  | v=>some (.d (.raw v))
def AS.ev (s:AS):Operand ->Option AV
 | .tmp t=>get s.env t
 | .const v=>Ht v
 | .func f=>some (.d (.raw (.func (.func f) #[] #[])))
 | .global _=>none
theorem Ke {v:Value} (h:Ht v=some T):AR w H g T v/\v.oneCell'=true:=by
 unfold Ht at h
 split at h
 .cases h
 .rename_i c
  refine ⟨?_,c⟩
  split at h
  .injection h with h;subst h
   exact .d (.sl 1 (λb f=>by injection f) (λ_=>rfl) Z (ϖ _) (by unfold maxLen;omega) (by simp) (by simp) (λb o h=>by cases h))
  .injection h with h;subst h
   exact .d (.raw c)
theorem SR.ev (h:SR F s g N w) {x:Operand} {a:AV} (c:s.ev x=some a):AR w (F.O g s.hp) g a (N.eval x):=by
 cases x with
 | tmp t=>exact h.env t a c
 | const v=>
  exact (Ke c).1
 | func f=>simp only [AS.ev,Option.some.injEq] at c;subst c;exact .d (.raw Z)
 | global b=>simp [AS.ev] at c
theorem JJ (l:s.ev t=some (.d (.raw (.bool A)))) (j:A=true ->Bl P F B Q s) (k:A=false ->Bl P F I Q s):Bl P F (.cond t B I) Q s:=λg a w f=>by
 have h:=f.ev l
 cases h with
 | d h=>
  generalize i:a.eval t=v at h
  cases h with
  | raw h=>
   exact wpIn_cond_split i (λe=>j e g a w f) (λe=>k e g a w f)
theorem DO (f:s.ev t=some (.d (.raw (.bool A)))) (g:A=true) (a:Bl P F B Q s):Bl P F (.cond t B I) Q s:=by grind [JJ]
theorem D3 (f:s.ev t=some (.d (.raw (.bool A)))) (g:A=false) (a:Bl P F I Q s):Bl P F (.cond t B I) Q s:=by grind [JJ]
theorem Ac {p:Prop} [Decidable p] (f:s.ev t=some (.d (.raw (.bool (decide p))))) (a:p ->Bl P F B Q s) (b:¬p ->Bl P F I Q s):Bl P F (.cond t B I) Q s:=by grind [JJ]
def AS.Le (s s':AS):Prop:=s'.n=s.n/\s'.hp=s.hp/\∀t a,get s'.env t=some a ->get s.env t=some a
variable {y:AS}
theorem SR.le (h:SR F s g N w) (c:s.Le y):SR F y g N w:=by
 obtain ⟨j,b,i⟩:=c;refine ⟨j▸h.size,b▸h.defs,λt a f=>?_,b▸h.heap⟩;rw [b];exact h.env t a (i t a f)
theorem Bl.le (h:Bl P F E Q y) (g:s.Le y):Bl P F E Q s:=λb a w f=>h b a w (f.le g)
theorem A8.le (h:A8 P F a K Q y) (g:s.Le y):A8 P F a K Q s:=λc b w f=>h c b w (f.le g)
def R8 (env:List (Nat×AV)):List (Nat×AV) ->Prop
 | []=>True
 | (t,a)::r=>get env t=some a/\R8 env r
theorem R8.get {l:List (Nat×AV)} (h:R8 f l) (b:get l M=some T):Go.Proofs.YteifpcnphnhaoaaGreat.get f M=some T:=by
 induction l with
 | nil=>cases b
 | cons p r c=>
  grind [LR,R8]
theorem eF (h:R8 f k):AS.Le ⟨x,f,c⟩ ⟨x,k,c⟩:=⟨Z,Z,λ_ _=>h.get⟩
def pick (env:List (Nat×AV)):List Nat ->Option (List (Nat×AV))
 | []=>some []
 | t::r=>match pick env r with
  | none=>none
  | some l=>match get env t with
   | none=>some l
   | some a=>some ((t,a)::l)
theorem TE {a:List Nat} (h:pick f a=some k):R8 f k:=by
 induction a generalizing k with
 | nil=>simp only [pick,Option.some.injEq] at h;subst h;exact trivial
 | cons t r b=>
  grind [pick,R8]
theorem eB (a:List Nat) (b:pick f a=some k) (h:Bl P F E Q ⟨x,k,c⟩):Bl P F E Q ⟨x,f,c⟩:=h.le (eF (TE b))
theorem o7 {b:List Oper} (g:List Nat) (i:pick f g=some k) (h:A8 P F a b Q ⟨x,k,c⟩):A8 P F a b Q ⟨x,f,c⟩:=h.le (eF (TE i))
theorem HD {α:Type} (i:α ->AS) (I:α ->Prop) (j:α ->Nat) (J:α) (U:I J) (R:s.Le (i J))
  (t:∀a,I a ->Bl P F E (q0 (λA=>∃g,I g/\j g<j a/\A.Le (i g)) Q) (i a)):Bl P F (.loop E) Q s:=λh b w u=>by
 have B:∀n a,j a=n ->I a ->∀h b w,SR F (i a) h b w ->(Code.loop E).wpIn (Pq F.rnd) 0 P (Sj F Q) b w:=by
  intro n a _ C h b w u;refine wpIn_loop (λb w=>∃a h,I a/\SR F (i a) h b w) (λb w=>Classical.epsilon λm=>∃a h,I a/\SR F (i a) h b w/\j a=m/\∀g f,I g ->SR F (i g) f b w ->m<=j g) ⟨a,h,C,u⟩ ?_;intro b w C
  have l:∀b w,(∃a h,I a/\SR F (i a) h b w) ->∃m,∃a h,I a/\SR F (i a) h b w/\j a=m/\∀g f,I g ->SR F (i g) f b w ->m<=j g:=λb w ⟨a,h,y,x⟩=>by
   have O:∀n a h,j a=n ->I a ->SR F (i a) h b w ->∃m,∃a h,I a/\SR F (i a) h b w/\j a=m/\∀g f,I g ->SR F (i g) f b w ->m<=j g:=by
    intro n
    induction n using Nat.strongRecOn with
    | _ n N=>
     intro a h S y x
     by_cases k:∃g f,I g/\SR F (i g) f b w/\j g<n
     .obtain ⟨g,f,v,z,o⟩:=k;exact N _ o g f Z v z
     .refine ⟨n,a,h,y,x,S,λg f v z=>?_⟩;rcases Nat.lt_or_ge (j g) n with o | o
      .exact absurd ⟨g,f,v,z,o⟩ k
      .exact o
   exact O _ a h Z y x
  obtain ⟨a,h,y,x,v,z⟩:=Classical.epsilon_spec (l b w C);refine Go.wpIn_mono (t a y h b w x) λe r K ⟨A,f,o,D⟩=>?_
  cases e with
  | normal=>
   obtain ⟨g,M,T,L⟩:=o
   have k:∃a h,I a/\SR F (i a) h r K:=⟨g,f,M,D.le L⟩
   refine ⟨k,?_⟩;obtain ⟨_,_,_,_,_,H⟩:=Classical.epsilon_spec (l r K k);have G:=H g f M (D.le L);exact Nat.lt_of_le_of_lt G (by rw [<-v];exact T)
  | _=>exact ⟨A,f,o,D⟩
 exact B _ J Z U h b w (u.le R)
theorem AE {id:Nat} (h:A8 P F K.toArray K Q s):Bl P F (.region id K.toArray false) Q s:=λb a w c=>wpIn_region_lit (h b a w c)
theorem AD (h:Q .normal s):A8 P F a [] Q s:=λb _ _ c=>wpListIn_nil ⟨s,b,h,c⟩
theorem Rm {P:Program} {K:Act ->World ->Prop} {Q:Exit ->Act ->World ->Prop} {r:Result Next} (c:∀R w,K R w ->L R w) (h:C.upon P R K (λ_ _ _=>False) r):C.upon P R L Q r:=by
 cases r with
 | ok x w=>
  cases x with
  | value v=>exact c _ _ h
  | skip=>exact c _ _ h
  | defer d=>exact c _ _ h
  | enter f b=>
   rw [Oper.upon_enter] at h⊢;refine h.mono λe j g=>?_
   cases e with
   | returned v=>exact c _ _ g
   | panicked _=>exact g.elim
   | outgrown=>obtain ⟨_,_,i⟩:=g;exact i.elim
  | row r b=>
   grind [Oper.upon_row,Go.Rows.mono]
  | _=>exact h.elim
 | halt x w=>
  cases x<;>exact h.elim
theorem mK {P:Program} {K:Act ->World ->Prop} {Q:Exit ->Act ->World ->Prop} (b:∀R w,K R w ->L R w) (h:C.wp P R w K (λ_ _ _=>False)):C.wp P R w L Q:=Rm b h
theorem RX {T:AS ->Prop} (b:O0 P F C s T) (t:C.guard=none) (u:∀f,T f ->A8 P F a h Q f) (i:Op.isDefer C.op=false:=by rfl):A8 P F a (C::h) Q s:=λk j w l=>
 wpListIn_plain t λ_ r=>Em i (mK (λc w ⟨f,g,⟨_,x⟩,v⟩=>r c w (u f x g c w v)) (b k j w l))
theorem O0.go (b:O0 P F ⟨u,G,o,j,i,none⟩ s (· =y)) (f:A8 P F a h Q y) (c:Op.isDefer G=false:=by rfl):A8 P F a (⟨u,G,o,j,i,none⟩::h) Q s:=
 RX b Z (λ_ e=>e▸f) c
def AH (P:Program) (F:Fr) (o:Oper) (s s':AS) (p:Nat ->Nat ->Bool):Prop:=∀ρ act w,SR F s ρ act w ->o.wp P act w (λact' w'=>∃ρ',SR F s' ρ' act' w'/\∀f i,p f i=true ->ρ' f i=ρ f i) (λ_ _ _=>False)
theorem AH.ostep (h:AH P F C s y z):O0 P F C s (· =y):=λc b w f=>
 mK (λ_ _ ⟨a,g,_⟩=>⟨y,a,⟨Z,Z⟩,g⟩) (h c b w f)
theorem V {g:List (Nat×AV)} {k:List (Nat×List AI)} (b:AH P F ⟨u,G,o,j,i,none⟩ ⟨x,f,c⟩ ⟨x,g,k⟩ z) (r:A8 P F a h Q ⟨x,g,k⟩) (l:Op.isDefer G=false:=by rfl):A8 P F a (⟨u,G,o,j,i,none⟩::h) Q ⟨x,f,c⟩:=
 b.ostep.go r l
theorem Ad (C:(a[S]?).bind (·.dst)=some M) (B:get s.env M=some (.d (.raw (.bool U)))) (D:U=A)
  (c:A8 P F a (⟨u,G,o,j,i,none⟩::h) Q s):A8 P F a (⟨u,G,o,j,i,some (S,A)⟩::h) Q s:=λy f w r=>by
 have k:=r.env M _ B
 have z:yielded a f.tmps S=some A:=by
  unfold yielded;rw [C]
  cases k with
  | d k=>
   generalize g:f.tmps.getD M undef=v at k
   cases k with
   | raw _=>
    simp only [i7];rw [iy] at g
    cases hh:f.tmps[M]? with
    | none=>rw [hh] at g;simp [undef] at g
    | some x=>rw [hh] at g;simp at g;subst g;simp [D]
 have l:=c y f w r;unfold wpListIn at l⊢;rw [ϱ (by simp [Region.wanted])] at l;rw [ϱ (by simp [Region.wanted,z])];exact l
theorem YE:AR w H g (.d (.tup [])) undef:= .d (.tup (vs:=[]) Z (by simp))
theorem A9 {d:Nat} (D:(a[S]?).bind (·.dst)=some M) (C:get f M=some (.d (.raw (.bool U)))) (H:U=!A) (E:Nat.blt d x=true)
  (k:A8 P F a h Q (⟨x,(d,.d (.tup []))::f,c⟩)):A8 P F a (⟨some d,G,o,j,i,some (S,A)⟩::h) Q ⟨x,f,c⟩:=λz l w y=>by
 have u:=y.env M _ C
 have B:yielded a l.tmps S=some (!A):=by
  unfold yielded;rw [D]
  cases u with
  | d u=>
   generalize r:l.tmps.getD M undef=v at u
   cases u with
   | raw _=>
    simp only [i7];rw [iy] at r
    cases hh:l.tmps[M]? with
    | none=>rw [hh] at r;simp [undef] at r
    | some g=>rw [hh] at r;simp at r;subst r;simp [H]
 unfold wpListIn;rw [θ (by cases A<;>simp [Region.wanted,B])];refine ⟨λ_ _=>trivial,?_⟩;exact k z _ w (y.put (IB E) YE)
end
section
variable {P:Program} {F:Fr} {Q:Exit ->AS ->Prop} {n:Nat} {env:List (Nat×AV)} {hp:List (Nat×List AI)} {ops:Array Oper} {l:List Oper} {c:Code}
variable {a:Bool} {f:AV}
theorem IW {env:List (Nat×AV)} {t:Nat} (h:get env t=some f) {b:Nat} {g:AV} (i:get ((t,f)::env) b=some g):get env b=some g:=by grind [LR]
theorem Ij (t:Nat) {p:Prop} [Decidable p] (a:get env t=some (.d (.raw (.bool (decide p))))) (b:p ->A8 P F ops l Q ⟨n,(t,.d (.raw (.bool true)))::env,hp⟩) (f:¬p ->A8 P F ops l Q ⟨n,(t,.d (.raw (.bool false)))::env,hp⟩):A8 P F ops l Q ⟨n,env,hp⟩:=by
 by_cases h:p
 .exact (b h).le ⟨Z,Z,λ_ _=>IW (by rw [Υ h] at a;exact a)⟩
 .exact (f h).le ⟨Z,Z,λ_ _=>IW (by rw [fb h] at a;exact a)⟩
theorem NL (t:Nat) (f:get env t=some (.d (.raw (.bool a)))) (g:a=true ->A8 P F ops l Q ⟨n,(t,.d (.raw (.bool true)))::env,hp⟩) (h:a=false ->A8 P F ops l Q ⟨n,(t,.d (.raw (.bool false)))::env,hp⟩):A8 P F ops l Q ⟨n,env,hp⟩:=by
 cases a with
 | true=>exact (g Z).le ⟨Z,Z,λ_ _=>IW f⟩
 | false=>exact (h Z).le ⟨Z,Z,λ_ _=>IW f⟩
theorem He (t:Nat) (f:get env t=some (.d (.raw (.bool a)))) (g:a=true) (h:A8 P F ops l Q ⟨n,(t,.d (.raw (.bool true)))::env,hp⟩):A8 P F ops l Q ⟨n,env,hp⟩:=by grind [NL]
theorem It (t:Nat) (f:get env t=some (.d (.raw (.bool a)))) (g:a=false) (h:A8 P F ops l Q ⟨n,(t,.d (.raw (.bool false)))::env,hp⟩):A8 P F ops l Q ⟨n,env,hp⟩:=by grind [NL]
theorem Oc (t:Nat) (b:AV) (g:get env t=some f) (i:f=b) (h:A8 P F ops l Q ⟨n,(t,b)::env,hp⟩):A8 P F ops l Q ⟨n,env,hp⟩:=h.le ⟨Z,Z,λ_ _=>IW (by rw [<-i];exact g)⟩
theorem eD (t:Nat) (b:AV) (g:get env t=some f) (i:f=b) (h:Bl P F c Q ⟨n,(t,b)::env,hp⟩):Bl P F c Q ⟨n,env,hp⟩:=h.le ⟨Z,Z,λ_ _=>IW (by rw [<-i];exact g)⟩
end
variable {P:Program} {a:Array Edge} {c:String} {f:Nat} {g:TypeId} {F:Fr} {h:Op} {i:AV} {s:AS}
def AA (P:Program) (F:Fr) (o:Oper) (s:AS) (d:Nat) (a:AV):Prop:=Nat.blt d s.n=true/\o.dst=some d/\∀ρ act w,SR F s ρ act w→
 o.wp P act w (λact' w'=>∃v,act'=act.put (some d) v/\AR w' (F.O ρ s.hp) ρ a v/\BP F s.hp ρ w'/\w.heap.size<=w'.heap.size/\∀b,b<w.heap.size ->w'.heap[b]? =w.heap[b]?) (λ_ _ _=>False)
theorem AA.ostep {o:Oper} (h:AA P F o s f i):O0 P F o s (· =s.put f i):=λk j w g=>by
 refine mK ?_ (h.2.2 k j w g);rintro u B ⟨v,rfl,A,z,r,l⟩;exact ⟨_,k,⟨Z,Z⟩,SR.put ⟨g.size,g.defs.mono r (λb c _=>l b c) (λ_ _ h=>h),λt x y=>(g.env t x y).mono r (λb c _=>l b c) (λ_ _ h=>h) (λ_ _ _=>rfl),z⟩ (IB h.1) A⟩
theorem J {Q:Exit ->AS ->Prop} {n:Nat} {k:List (Nat×AV)} {r:List (Nat×List AI)} {l:Array Oper} {o:Option Tmp} {j:List Oper} (b:AA P F ⟨o,h,g,c,a,none⟩ ⟨n,k,r⟩ f i) (t:A8 P F l j Q ⟨n,(f,i)::k,r⟩) (s:Op.isDefer h=false:=by rfl):A8 P F l (⟨o,h,g,c,a,none⟩::j) Q ⟨n,k,r⟩:=
 b.ostep.go t s
theorem Cd {i:Option (Nat×Bool)} (j:AV) (r:Nat.blt f s.n=true)
  (b:∀l k w,SR F s l k w ->∃v,(execOp k.eval ⟨some f,h,g,c,a,i⟩).run P w= .ok (.value v) w/\AR w (F.O l s.hp) l j v):AA P F ⟨some f,h,g,c,a,i⟩ s f j:=by
 refine ⟨r,Z,λl k w o=>?_⟩;obtain ⟨v,u,t⟩:=b l k w o;unfold Oper.wp;rw [u];exact ⟨v,Z,t,o.heap,ϖ _,λ_ _=>rfl⟩
end Go.Proofs.YteifpcnphnhaoaaGreat
