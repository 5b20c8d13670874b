import Derived.Test.YteifpcnphnhaoaaGreatMg1
import Derived.Deep.MidRow
import Derived.Laws.Panics
import Derived.RangeFuncLeaves
import Derived.RangeFuncRecord
import Derived.TacticsIn
import Derived.RangeFuncCalls
import Derived.OrdersIn
namespace Go.Proofs.YteifpcnphnhaoaaGreat
open Go.RowKit
variable{a:Nat->Nat->Bool}{c:Nat->Nat->Value}{w:World}{h:Value}{j:Nat}{k:Nat->Prop}{s u:Nat}{x:Nat->Nat->Value}{y:Nat}{A:Array Value}{P:Program}{B:Act}{C:Option Nat}{E G Q:Nat}{R:World}
theorem IU{a:Nat}(h:a≠s):Nat.beq a s=false:=by grind[iG]
inductive D where
 | raw (v:Value)
 | sl (nil:Option Bool) (xs:List D)
 | agg (cs:List D)
 | ptr (x:D)
 | tup (cs:List D)
 | fn (g:FuncId) (fs caps:List D)
def D.cells:D->List D
 | .agg cs=>cs
 | x=> [x]
def D.one:D->Bool
 | .agg _=>false
 | .tup _=>false
 | _=>true
inductive AY (w:World) (O:Nat->Prop):D->Value->Prop
 | raw {v:Value} (h:v.oneCell'=true):AY w O (.raw v) v
 | agg {cs:List D} {vs:List Value} (hl:vs.length=cs.length) (h1:∀c∈cs,c.one=true) (h:∀(i:Nat) c v,cs[i]? =some c->vs[i]? =some v->AY w O c v):AY w O (.agg cs) (.agg vs.toArray)
 | tup {cs:List D} {vs:List Value} (hl:vs.length=cs.length) (h:∀(i:Nat) c v,cs[i]? =some c->vs[i]? =some v->AY w O c v):AY w O (.tup cs) (.tuple vs.toArray)
 | ptr {x:D} {b o:Nat} (us:Nat->Value) (hb:b<w.heap.size) (hO:¬O b) (h1:∀c∈x.cells,c.one=true)
   (hc:∀(j:Nat) c,x.cells[j]? =some c->w.cell? ⟨b,o+j,none⟩=some (us j)) (hu:∀(j:Nat) c,x.cells[j]? =some c->AY w O c (us j)):AY w O (.ptr x) (.pointer (some ⟨b,o,none⟩))
 | sl {nil:Option Bool} {xs:List D} {a:Option Addr} {n cap:Nat} (k:Nat) (hn:∀b,nil=some b->a.isNone=b) (hz:a=none->cap=0) (hln:xs.length=n) (hc:n<=cap) (hm:cap<=maxLen) (hk:∀x∈xs,x.cells.length=k)
   (ha:xs≠ []->∃b o,a=some ⟨b,o,none⟩)
   (hp:∀b o,a=some ⟨b,o,none⟩->∀(i:Nat) x,xs[i]? =some x->AY w O (.ptr x) (.pointer (some ⟨b,o+i*k,none⟩))):AY w O (.sl nil xs) (.slice a n cap)
 | fn {g:FuncId} {fs caps:List D} {us vs:List Value} (hf:us.length=fs.length) (hl:vs.length=caps.length) (h1:∀(i:Nat) c v,fs[i]? =some c->us[i]? =some v->AY w O c v) (h:∀(i:Nat) c v,caps[i]? =some c->vs[i]? =some v->AY w O c v):AY w O (.fn g fs caps) (.func (.func g) us.toArray vs.toArray)
variable{S:D}
theorem AY.mono{w w':World}{O':Nat->Prop}(G:w.heap.size<=w'.heap.size)(I:∀b,b<w.heap.size->¬k b->w'.heap[b]? =w.heap[b]?)(D:∀b,b<w.heap.size->O' b->k b)(f:AY w k S h):AY w' O' S h:=by
 induction f with
 | raw f=>exact .raw f
 | agg i r _ g=>exact .agg i r g
 | tup i _ g=>exact .tup i g
 | ptr s F r E J _ g=>
  refine .ptr s (by omega) (λf=>r (D _ F f)) E (λj c H=>?_) g
  grind[World.cell?_of_block]
 | sl a u t o B y z C _ g=>exact .sl a u t o B y z C g
 | fn A i _ _ l g=>exact .fn A i l g
theorem AY.oneCell(a:AY w k S h)(b:S.one=true):h.oneCell'=true:=by
 cases a with
 | raw a=>exact a
 | agg _ _ _=>cases b
 | tup _ _=>cases b
 | ptr _ _ _ _ _ _=>rfl
 | sl _ _ _ _ _ _ _ _ _=>rfl
 | fn _ _ _ _=>rfl
inductive AV where
 | d (x:D)
 | top
 | tup (as:List AV)
 | agg (as:List AV)
 | ptr (f i off:Nat)
 | own (f i n:Nat)
 | rptr (f i k e off:Nat)
 | map (f i:Nat)
 | fn (g:FuncId) (caps:List AV)
 | ifc (T:TypeId) (nm:Option String) (f i:Nat)
def vD(T:TypeId)(nm:Option String)(b:Nat):Value:=match nm with
 | none=> .iface T (.pointer (some ⟨b,0,none⟩))
 | some s=> .func (.method s) #[.iface T (.pointer (some ⟨b,0,none⟩))] #[]
inductive A7 (w:World) (O:Nat->Prop) (ρ:Nat->Nat->Value):AV->Value->Prop
 | d {x:D} {v:Value} (h:AY w O x v):A7 w O ρ (.d x) v
 | top {v:Value}:A7 w O ρ .top v
 | tup {as:List AV} {vs:List Value} (hl:vs.length=as.length) (h:∀(i:Nat) a v,as[i]? =some a->vs[i]? =some v->A7 w O ρ a v):A7 w O ρ (.tup as) (.tuple vs.toArray)
 | agg {as:List AV} {vs:List Value} (hl:vs.length=as.length) (h1:∀v∈vs,v.oneCell'=true) (h:∀(i:Nat) a v,as[i]? =some a->vs[i]? =some v->A7 w O ρ a v):A7 w O ρ (.agg as) (.agg vs.toArray)
 | ptr {f i off b:Nat} (h:ρ f i= .pointer (some ⟨b,0,none⟩)):A7 w O ρ (.ptr f i off) (.pointer (some ⟨b,off,none⟩))
 | own {f i n N cap:Nat} {a:Option Addr} (h:ρ f i= .slice a N cap) (hn:n<=N):A7 w O ρ (.own f i n) (.slice a n cap)
 | rptr {f i k e off b N cap:Nat} (h:ρ f i= .slice (some ⟨b,0,none⟩) N cap):A7 w O ρ (.rptr f i k e off) (.pointer (some ⟨b,e*k+off,none⟩))
 | map {f i m:Nat} (h:ρ f i= .map (some m)):A7 w O ρ (.map f i) (.map (some m))
 | ifc {T:TypeId} {nm:Option String} {f i b:Nat} (h:ρ f i= .pointer (some ⟨b,0,none⟩)):A7 w O ρ (.ifc T nm f i) (vD T nm b)
 | fn {g:FuncId} {caps:List AV} {vs:List Value} (hl:vs.length=caps.length) (h:∀(i:Nat) a v,caps[i]? =some a->vs[i]? =some v->A7 w O ρ a v):A7 w O ρ (.fn g caps) (.func (.func g) #[] vs.toArray)
inductive AV.Refs:AV->Nat->Nat->Prop
 | tup {as:List AV} {a:AV} {f i:Nat} (hm:a∈as) (h:a.Refs f i):(AV.tup as).Refs f i
 | agg {as:List AV} {a:AV} {f i:Nat} (hm:a∈as) (h:a.Refs f i):(AV.agg as).Refs f i
 | fn {g:FuncId} {as:List AV} {a:AV} {f i:Nat} (hm:a∈as) (h:a.Refs f i):(AV.fn g as).Refs f i
 | ptr {f i off:Nat}:(AV.ptr f i off).Refs f i
 | own {f i n:Nat}:(AV.own f i n).Refs f i
 | rptr {f i k e off:Nat}:(AV.rptr f i k e off).Refs f i
 | map {f i:Nat}:(AV.map f i).Refs f i
 | ifc {T:TypeId} {nm:Option String} {f i:Nat}:(AV.ifc T nm f i).Refs f i
variable{g:AV}
theorem A7.mono{w w':World}{O':Nat->Prop}(z:w.heap.size<=w'.heap.size)(B:∀b,b<w.heap.size->¬k b->w'.heap[b]? =w.heap[b]?)(C:∀b,b<w.heap.size->O' b->k b)(l:A7 w k c g h)(o:∀f i,g.Refs f i->x f i=c f i):A7 w' O' x g h:=by
 induction l with
 | d l=>exact .d (l.mono z B C)
 | top=>exact .top
 | tup u _ s=>exact .tup u λi g h r t=>s i g h r t λf j y=>o f j (.tup (ξ r) y)
 | agg u D _ s=>exact .agg u D λi g h r t=>s i g h r t λf j y=>o f j (.agg (ξ r) y)
 | ptr l=>exact .ptr ((o _ _ .ptr).trans l)
 | own l A=>exact .own ((o _ _ .own).trans l) A
 | rptr l=>exact .rptr ((o _ _ .rptr).trans l)
 | map l=>exact .map ((o _ _ .map).trans l)
 | ifc l=>exact .ifc ((o _ _ .ifc).trans l)
 | fn u _ s=>exact .fn u λi g h r t=>s i g h r t λf j y=>o f j (.fn (ξ r) y)
def get:List (Nat×AV)->Nat->Option AV
 | [],_=>none
 | (k,v)::r,t=>match Nat.beq k t with
  | true=>some v
  | false=>get r t
structure IN where
 id:Nat
 n:Nat
 env:List (Nat×AV)
 st:LoopState
 pend:Option Code
 ps:Array Tmp
 asg:Code
 body:Code
inductive Al where
 | cells (t:TypeId) (cs:List D)
 | row (t:TypeId) (k cap:Nat) (xs:List D)
 | map (bs:Option (List Nat×Nat)) (es:List (D×D))
inductive AM where
 | blk (t:TypeId) (cs:List AV)
 | row (t:TypeId) (k:Nat) (xs:List AV)
 | rowD (t:TypeId) (k:Nat) (xs:List D)
 | loop (L:IN)
 | map (bs:Option (List Nat×Nat)) (es:List (D×D))
 | iter (f i:Nat) (c:Nat) (seen:List Nat)
 | addr (f i:Nat) (v:Value)
 | any
 | nb (b:Nat) (t:TypeId) (cs:List D)
 | nr (b:Nat) (t:TypeId) (k cap:Nat) (xs:List D)
 | nm (b:Nat) (bs:Option (List Nat×Nat)) (es:List (D×D))
 | itz
 | multi (M:Nat->Option Al)
def AV.cells:AV->List AV
 | .agg cs=>cs
 | .d (.agg cs)=>cs.map .d
 | a=> [a]
def GH{α:Type}(cells:α->List α)(k:Nat)(R:α->Value->Prop)(xs:List α)(us:List Value):Prop:=
 us.length=xs.length*k/\(∀x∈xs,(cells x).length=k)/\∀(i:Nat) x,xs[i]? =some x->∀(j:Nat) c,(cells x)[j]? =some c->∃u,us[i*k+j]? =some u/\u.oneCell'=true/\R c u
def At(w:World)(O:Nat->Prop)(ρ:Nat->Nat->Value):AM->Value->Prop
 | .blk t cs,v=>∃(b:Nat) (us:List Value),v= .pointer (some ⟨b,0,none⟩)/\w.heap[b]? =some (.cells us.toArray t (0,0))/\us.length=cs.length/\
   (∀(j:Nat) c u,cs[j]? =some c->us[j]? =some u->A7 w O ρ c u)/\∀u∈us,u.oneCell'=true
 | .row t k xs,v=>∃us:List Value,w.ownsRow 0 t k v xs.length us/\GH AV.cells k (A7 w O ρ) xs us
 | .rowD t k xs,v=>∃us:List Value,w.ownsRow 0 t k v xs.length us/\GH D.cells k (AY w O) xs us/\∀x∈xs,∀c∈x.cells,c.one=true
 | .loop L,v=>∃r:Loop,v= .pointer (some ⟨L.id,0,none⟩)/\w.heap[L.id]? =some (.loop r)/\(r.state=L.st/\r.pending=L.pend/\r.params=L.ps/\r.assign=L.asg/\r.body=L.body)/\r.tmps.size=L.n/\
   ∀t a,get L.env t=some a->A7 w O ρ a (r.tmps.getD t undef)
 | .map bs es,v=>∃(m:Nat) (arr:Array MapEntry) (c:Nat),v= .map (some m)/\w.heap[m]? =some (.map arr c)/\arr.size=es.length/\(∀(i:Nat) e x,arr[i]? =some e->es[i]? =some x->AY w O x.1 e.key/\AY w O x.2 e.val)/\
   (arr.toList.map (·.born)).Nodup/\(∀e∈arr.toList,e.born<c)/\∀B c',bs=some (B,c')->B=arr.toList.map (·.born)/\c'=c
 | .iter f i c seen,v=>∃(r m:Nat) (sn:Array Nat),v= .pointer (some ⟨r,0,none⟩)/\ρ f i= .map (some m)/\w.heap[r]? =some (.mapIter (some m) c sn c)/\sn.toList=seen
 | .addr f i v,u=>u= .nilFunc/\ρ f i=v
 | .any,_=>True
 | .nb b t cs,v=>v= .pointer (some ⟨b,0,none⟩)/\∃us:List Value,w.heap[b]? =some (.cells us.toArray t (0,0))/\us.length=cs.length/\(∀(j:Nat) c u,cs[j]? =some c->us[j]? =some u->AY w O c u)/\∀u∈us,u.oneCell'=true
 | .nr b t k cap xs,v=>v= .pointer (some ⟨b,0,none⟩)/\∃us:List Value,w.ownsRow 0 t k (.slice (some ⟨b,0,none⟩) xs.length cap) xs.length us/\GH D.cells k (AY w O) xs us/\∀x∈xs,∀c∈x.cells,c.one=true
 | .nm b bs es,v=>v= .map (some b)/\∃(arr:Array MapEntry) (c:Nat),w.heap[b]? =some (.map arr c)/\arr.size=es.length/\(∀(i:Nat) e x,arr[i]? =some e->es[i]? =some x->AY w O x.1 e.key/\AY w O x.2 e.val)/\
   (arr.toList.map (·.born)).Nodup/\(∀e∈arr.toList,e.born<c)/\∀B c',bs=some (B,c')->B=arr.toList.map (·.born)/\c'=c
 | .itz,v=>∃r:Nat,v= .pointer (some ⟨r,0,none⟩)/\w.heap[r]? =some (.mapIter none 0 #[] 0)
 | .multi _,_=>True
def Al.at_(b:Nat):Al->AM
 | .cells t cs=> .nb b t cs
 | .row t k cap xs=> .nr b t k cap xs
 | .map bs es=> .nm b bs es
def AM.Refs:AM->Nat->Nat->Prop
 | .blk _ cs,f,i=>∃c∈cs,c.Refs f i
 | .row _ _ xs,f,i=>∃x∈xs,∃c∈x.cells,c.Refs f i
 | .rowD _ _ _,_,_=>False
 | .loop L,f,i=>∃t a,get L.env t=some a/\a.Refs f i
 | .map _ _,_,_=>False
 | .iter g j _ _,f,i=>f=g/\i=j
 | .addr g j _,f,i=>f=g/\i=j
 | .any,_,_=>False
 | .nb _ _ _,_,_=>False
 | .nr _ _ _ _ _,_,_=>False
 | .nm _ _ _,_,_=>False
 | .itz,_,_=>False
 | .multi _,_,_=>False
def Br:Value->Option Nat
 | .pointer (some a)=>some a.block
 | .slice (some a) _ _=>some a.block
 | .map m=>m
 | _=>none
theorem He{f:Nat}{e:TypeId}{c:Nat}{k:List Value}(a:w.ownsRow f e c h E k)(o:∀b,Br h=some b->R.heap[b]? =w.heap[b]?):R.ownsRow f e c h E k:=by
 refine ⟨a.1,?_⟩;rcases a.2 with u | ⟨g,j,i,l,t,s,r⟩
 .exact .inl u
 .exact .inr ⟨g,j,i,l,t,by rw[o g (by rw[l];rfl)];exact s,r⟩
theorem GH.mono{b:Type}{a:b->List b}{R i:b->Value->Prop}{f:List b}{g:List Value}(h:GH a Q R f g)(j:∀x∈f,∀c∈a x,∀u,R c u->i c u):GH a Q i f g:=by grind[GH]
variable{H:AM}
theorem At.mono{w w':World}{O':Nat->Prop}(D:w.heap.size<=w'.heap.size)(E:∀b,b<w.heap.size->¬k b->w'.heap[b]? =w.heap[b]?)(F:∀b,b<w.heap.size->O' b->k b)(s:At w k c H h)(C:∀b,Br h=some b->w'.heap[b]? =w.heap[b]?)(Q:∀f i,H.Refs f i->x f i=c f i):At w' O' x H h:=by
 cases H with
 | blk t cs=>
  obtain ⟨b,G,rfl,z,B,A,K⟩:=s;exact ⟨b,G,Z,by rw[C b rfl];exact z,B,λj y u N J=>(A j y u N J).mono D E F λf i R=>Q f i ⟨y,ξ N,R⟩,K⟩
 | row t l V=>
  obtain ⟨G,z,B⟩:=s;exact ⟨G,He z C,B.mono λg I y N u J=>J.mono D E F λf i R=>Q f i ⟨g,I,y,N,R⟩⟩
 | rowD t l V=>
  obtain ⟨G,z,B,A⟩:=s;exact ⟨G,He z C,B.mono λg I y N u J=>J.mono D E F,A⟩
 | loop L=>
  obtain ⟨r,rfl,z,B,A,K⟩:=s;exact ⟨r,Z,by rw[C _ rfl];exact z,B,A,λt a W=>(K t a W).mono D E F λf i R=>Q f i ⟨t,a,W,R⟩⟩
 | map bs Y=>
  obtain ⟨m,P,y,rfl,z,B,A,K,U,T⟩:=s;exact ⟨m,P,y,Z,by rw[C _ rfl];exact z,B,λi e g S I=>⟨(A i e g S I).1.mono D E F,(A i e g S I).2.mono D E F⟩,K,U,T⟩
 | iter f i y seen=>
  obtain ⟨r,m,X,rfl,z,B,A⟩:=s;exact ⟨r,m,X,Z,(Q f i ⟨Z,Z⟩).trans z,by rw[C _ rfl];exact B,A⟩
 | addr f i u=>exact ⟨s.1,(Q f i ⟨Z,Z⟩).trans s.2⟩
 | any=>trivial
 | nb b t cs=>
  obtain ⟨rfl,G,z,B,A,K⟩:=s;exact ⟨Z,G,by rw[C _ rfl];exact z,B,λj y u N J=>(A j y u N J).mono D E F,K⟩
 | nr b t l cap V=>
  obtain ⟨rfl,G,z,B,A⟩:=s;exact ⟨Z,G,He z C,B.mono λg I y N u J=>J.mono D E F,A⟩
 | nm b bs Y=>
  obtain ⟨rfl,P,y,z,B,A,K,U,T⟩:=s;exact ⟨Z,P,y,by rw[C _ rfl];exact z,B,λi e g S I=>⟨(A i e g S I).1.mono D E F,(A i e g S I).2.mono D E F⟩,K,U,T⟩
 | itz=>obtain ⟨r,rfl,z⟩:=s;exact ⟨r,Z,by rw[C _ rfl];exact z⟩
 | multi M=>trivial
structure AS where
 n:Nat
 env:List (Nat×AV)
 hp:List (Nat×List AM)
def fl:List (Nat×List AM)->Nat->Option (List AM)
 | [],_=>none
 | (k,v)::r,t=>match Nat.beq k t with
  | true=>some v
  | false=>fl r t
def iZ:List (Nat×List AM)->List Nat
 | []=> []
 | (f,_)::r=>f::iZ r
variable{f:List (Nat×List AM)}{o:List AM}
theorem mE(h:fl f j=some o):j∈iZ f:=by
 induction f with
 | nil=>cases h
 | cons p r a=>
  grind[fl,iG,iZ]
def iY:List AM->Option (Nat->Option Al)
 | [o]=>match o with
  | .multi M=>some M
  | _=>none
 | _=>none
def gl(l:List AM)(i:Nat):Option AM:=match iY l with
 | some M=>(M i).map (Al.at_ i)
 | none=>l[i]?
def Tk:AM->Bool
 | .multi _=>false
 | _=>true
theorem Xo(h:Tk H=true):iY [H]=none:=by cases H<;>first | rfl | cases h
theorem MM{o:AM}(h:Tk o=true)(i:Nat):gl [o] i=[o][i]?:=by unfold gl;rw[Xo h]
variable{M:Nat->Option Al}
theorem Om(h:iY o=some M):o=[.multi M]:=by
 match o,h with
 | [a],h=>cases a<;>first | (injection h with h;subst h;rfl) | cases h
 | [],h=>cases h
 | _::_::_,h=>cases h
variable{L:Al}
theorem Al.norefs:¬(L.at_ s).Refs j u:=by cases L<;>exact λh=>h
variable{N:List AV}
theorem Al.notBlk{t:TypeId}:L.at_ s≠ .blk t N:=by cases L<;>exact λh=>by cases h
theorem jW(h:gl o u=some H):H∈o\/∃(M:Nat->Option Al) (m:Al),o=[.multi M]/\M u=some m/\H=m.at_ u:=by
 unfold gl at h
 split at h
 .rename_i M a
  cases hm:M u with
  | none=>rw[hm] at h;cases h
  | some m=>rw[hm] at h;injection h with h;exact .inr ⟨M,m,Om a,hm,h.symm⟩
 grind
def ey(hp:List (Nat×List AM))(f i:Nat):Option AM:=(fl hp f).bind (gl · i)
inductive DS where
 | marks (m:Nat)
 | exact (L:List Deferred)
def DS.le:DS->Nat->Prop
 | .marks m,n=>m<=n
 | .exact _,_=>False
structure Fr where
 rnd:Option Nat
 lo:DS
 w0:World
 Of:Nat->Prop
 own0:Nat->Prop
 pin:Nat->Nat->Option Nat
 hOf:∀b,Of b->b<w0.heap.size/\¬own0 b
 pn:List Nat
 hpn:∀f i b,pin f i=some b->f∈pn
def BG(ρ:Nat->Nat->Value)(hp:List (Nat×List AM))(b:Nat):Prop:=∃f i o,ey hp f i=some o/\Br (ρ f i)=some b
def Fr.O(F:Fr)(ρ:Nat->Nat->Value)(hp:List (Nat×List AM))(b:Nat):Prop:=F.Of b\/BG ρ hp b
structure B9 (F:Fr) (hp:List (Nat×List AM)) (ρ:Nat->Nat->Value) (w:World):Prop where
 sim:∀f i o,ey hp f i=some o->At w (F.O ρ hp) ρ o (ρ f i)
 inj:∀f i f' i' o o' b,ey hp f i=some o->ey hp f' i'=some o'->Br (ρ f i)=some b->Br (ρ f' i')=some b->f=f'/\i=i'
 mine:∀b,BG ρ hp b->b<w.heap.size/\(F.own0 b\/F.w0.heap.size<=b)
 os:w.os=F.w0.os
 tape:w.tape=F.w0.tape
 output:w.output=F.w0.output
 size0:F.w0.heap.size<=w.heap.size
 keep:∀b,b<F.w0.heap.size->¬F.own0 b->w.heap[b]? =F.w0.heap[b]?
 pins:∀f i b,F.pin f i=some b->ρ f i= .pointer (some ⟨b,0,none⟩)/\∃t cs,ey hp f i=some (.blk t cs)
 drawn:F.w0.drawn<=w.drawn
def Jv(b:Nat):Deferred:={target:= .collected b,args:= #[]}
def IE(d:DS)(w:World)(O:Nat->Prop)(ds:List Deferred):Prop:=match d with
 | .marks m=>∃bs:List Nat,ds=bs.map Jv/\bs.Nodup/\∀b∈bs,m<=b/\b<w.heap.size/\¬O b/\w.heap[b]? =some (.deferred (some []))
 | .exact L=>ds=L
theorem IE.nil{m:Nat}:IE (.marks m) w k []:=⟨[],Z,List.nodup_nil,λ_ h=>by cases h⟩
theorem IE.mono{d:DS}{w w':World}{O':Nat->Prop}{a:List Deferred}(h:IE d w k a)(c:w.heap.size<=w'.heap.size)(f:∀b,b<w.heap.size->¬k b->w'.heap[b]? =w.heap[b]?)(g:∀b,b<w.heap.size->O' b->k b):IE d w' O' a:=by
 cases d with
 | exact L=>exact h
 | marks m=>
  grind[IE]
structure SR (F:Fr) (s:AS) (ρ:Nat->Nat->Value) (act:Act) (w:World):Prop where
 size:act.tmps.size=s.n
 defs:IE F.lo w (F.O ρ s.hp) act.defers
 env:∀t a,get s.env t=some a->A7 w (F.O ρ s.hp) ρ a (act.tmps.getD t undef)
 heap:B9 F s.hp ρ w
variable{F:Fr}
theorem B9.notOf(h:B9 F f c w)(i:BG c f s):¬F.Of s:=λg=>by
 have j:=F.hOf s g;have a:=(h.mine s i).2;rcases a with a | a
 .exact j.2 a
 .omega
theorem Ji(a:G<B.tmps.size):(B.put (some G) h).tmps.getD G undef=h:=by
 simp[Act.put,Array.getD,a]
theorem Mt(a:G≠y):(B.put (some G) h).tmps.getD y undef=B.tmps.getD y undef:=by
 simp only[Act.put,ju];rw[Array.getElem?_setIfInBounds_ne a]
def AS.put(s:AS)(d:Nat)(a:AV):AS:=⟨s.n,(d,a)::s.env,s.hp⟩
theorem Mc{v:AV}{r:List (Nat×AV)}(h:get ((Q,v)::r) y=some g):(Q=y/\v=g)\/(Q≠y/\get r y=some g):=by
 unfold get at h
 split at h
 .simp_all
 grind[jF]
theorem SR.put{s:AS}(b:SR F s c B w)(j:G<s.n)(k:A7 w (F.O c s.hp) c g h):SR F (s.put G g) c (B.put (some G) h) w where
 size:=by have:=b.size;simpa [Act.put,AS.put] using this
 defs:=b.defs
 env:=λt x f=>by
  rcases Mc f with ⟨rfl,rfl⟩ | ⟨i,f⟩
  .rw[Ji (by rw[b.size];exact j)];exact k
  .rw[Mt i];exact b.env t x f
 heap:=b.heap
def AV.okS(p:Nat->Nat->Bool):AV->Bool
 | .d _=>true
 | .top=>true
 | .ptr g i _=>p g i
 | .own g i _=>p g i
 | .rptr g i _ _ _=>p g i
 | .map g i=>p g i
 | .ifc _ _ g i=>p g i
 | _=>false
def ZR(p:Nat->Nat->Bool):List AV->Bool
 | []=>true
 | a::r=>a.okS p && ZR p r
def AV.ok(p:Nat->Nat->Bool):AV->Bool
 | .tup as=>ZR p as
 | .agg as=>ZR p as
 | .fn _ as=>ZR p as
 | a=>a.okS p
theorem AV.okS_spec(h:g.okS a=true)(b:g.Refs j u):a j u=true:=by
 cases b with
 | tup _ _=>simp[AV.okS] at h
 | agg _ _=>simp[AV.okS] at h
 | fn _ _=>simp[AV.okS] at h
 | ptr=>exact h
 | own=>exact h
 | rptr=>exact h
 | map=>exact h
 | ifc=>exact h
variable{z:List AV}
theorem Fp(h:ZR a z=true)(b:g∈z)(k:g.Refs j u):a j u=true:=by
 induction z with
 | nil=>cases b
 | cons x r c=>
  grind[ZR,AV.okS_spec]
theorem AV.ok_spec(h:g.ok a=true)(b:g.Refs j u):a j u=true:=by
 cases b with
 | tup c b=>exact Fp h c b
 | agg c b=>exact Fp h c b
 | fn c b=>exact Fp h c b
 | ptr=>exact h
 | own=>exact h
 | rptr=>exact h
 | map=>exact h
 | ifc=>exact h
def r8(p:Nat->Nat->Bool):List AV->Bool
 | []=>true
 | a::r=>a.ok p && r8 p r
theorem O6(h:r8 a z=true)(b:g∈z)(k:g.Refs j u):a j u=true:=by
 induction z with
 | nil=>cases b
 | cons x r c=>
  grind[r8,AV.ok_spec]
def Mn(p:Nat->Nat->Bool):List (Nat×AV)->Bool
 | []=>true
 | (_,a)::r=>a.ok p && Mn p r
variable{t:List (Nat×AV)}
theorem O5(h:Mn a t=true)(b:get t y=some g)(k:g.Refs j u):a j u=true:=by
 induction t with
 | nil=>cases b
 | cons q r c=>
  grind[Mn,Mc,AV.ok_spec]
def Bt(p:Nat->Nat->Bool):List (Nat×AV)->Option (List (Nat×AV))
 | []=>some []
 | (t,a)::r=>match Bt p r with
  | none=>none
  | some r'=>match a.ok p with
   | true=>some ((t,a)::r')
   | false=>some ((t,.top)::r')
def Oj(p:Nat->Nat->Bool):List AV->Option (List AV)
 | []=>some []
 | a::r=>match Oj p r with
  | none=>none
  | some r'=>match a.ok p with
   | true=>some (a::r')
   | false=>some (.top::r')
def CS(p:Nat->Nat->Bool):AM->Option AM
 | .blk t cs=>match Oj p cs with
  | none=>none
  | some cs'=>some (.blk t cs')
 | .row t k xs=>match xs.all (λx=>ZR p x.cells) with
  | true=>some (.row t k xs)
  | false=>none
 | .rowD t k xs=>some (.rowD t k xs)
 | .loop L=>match Bt p L.env with
  | none=>none
  | some e=>some (.loop {L with env:=e})
 | .map bs es=>some (.map bs es)
 | .iter f i c seen=>match p f i with
  | true=>some (.iter f i c seen)
  | false=>some .any
 | .addr f i v=>match p f i with
  | true=>some (.addr f i v)
  | false=>some .any
 | .any=>some .any
 | .nb b t cs=>some (.nb b t cs)
 | .nr b t k cap xs=>some (.nr b t k cap xs)
 | .nm b bs es=>some (.nm b bs es)
 | .itz=>some (.itz)
 | .multi M=>some (.multi M)
def Ed(p:Nat->Nat->Bool):List AM->Option (List AM)
 | []=>some []
 | o::r=>match Ed p r with
  | none=>none
  | some r'=>match CS p o with
   | none=>none
   | some o'=>some (o'::r')
def CT(p:Nat->Nat->Bool):List (Nat×List AM)->Option (List (Nat×List AM))
 | []=>some []
 | (g,l)::r=>match CT p r with
  | none=>none
  | some r'=>match Ed p l with
   | none=>none
   | some l'=>some ((g,l')::r')
variable{I:List (Nat×AV)}
theorem D9(h:Bt a t=some I)(b:get I y=some g):g= .top\/(get t y=some g/\∀f i,g.Refs f i->a f i=true):=by
 induction t generalizing I with
 | nil=>simp only[Bt,Option.some.injEq] at h;subst h;simp[get] at b
 | cons q r c=>
  grind[Bt,get,AV.ok_spec]
theorem UD{g:List AV}(h:Oj a N=some g):g.length=N.length/\∀(j:Nat) c,g[j]? =some c->c= .top\/(N[j]? =some c/\∀f i,c.Refs f i->a f i=true):=by
 induction N generalizing g with
 | nil=>simp only[Oj,Option.some.injEq] at h;subst h;simp
 | cons b r k=>
  grind[Oj,AV.ok_spec]
def AM.Less(p:Nat->Nat->Bool)(o o':AM):Prop:=(∀w O ρ v,At w O ρ o v->At w O ρ o' v)/\(∀f i,o'.Refs f i->p f i=true)/\(∀t cs,o= .blk t cs->∃cs',o'= .blk t cs')/\(∀t cs,o'= .blk t cs->∃cs',o= .blk t cs')
theorem UC{J:AM}(h:CS a H=some J):H.Less a J:=by
 cases H with
 | blk t cs=>
  simp only[CS] at h
  split at h
  .cases h
  .rename_i cs' D
   injection h with h;subst h
   obtain ⟨N,z⟩:=UD D;refine ⟨λw O P v ⟨b,Q,T,W,hl,l,U⟩=>⟨b,Q,T,W,by omega,λj c u y hu=>?_,U⟩,λf i ⟨c,y,l⟩=>?_,λR A e=>?_,λR A e=>?_⟩
   .rcases z j c y with rfl | ⟨X,_⟩
    .exact .top
    grind
   .obtain ⟨j,V,rfl⟩:=iN y;rcases z j _ (ω V) with B | ⟨_,B⟩
    .rw[B] at l;cases l
    grind
   .grind
   grind
 | row t k I=>
  simp only[CS] at h
  split at h
  .rename_i s
   injection h with h;subst h
   refine ⟨λ_ _ _ _ h=>h,λf i ⟨x,C,c,y,l⟩=>Fp (j9.1 s x C) y l,(λ_ _ e=>by cases e),(λ_ _ e=>by cases e)⟩
  .cases h
 | rowD t k I=>
  simp only[CS,Option.some.injEq] at h;subst h;exact ⟨λ_ _ _ _ h=>h,λf i l=>l.elim,(λ_ _ e=>by cases e),(λ_ _ e=>by cases e)⟩
 | loop L=>
  simp only[CS] at h
  split at h
  .cases h
  .rename_i e K
   injection h with h;subst h
   refine ⟨λw O P v ⟨r,N,z,B,Z,h5⟩=>⟨r,N,z,B,Z,λt g E=>?_⟩,λf i ⟨t,g,E,l⟩=>?_,(λ_ _ e=>by cases e),(λ_ _ e=>by cases e)⟩
   .rcases D9 K E with rfl | ⟨Y,_⟩
    .exact .top
    grind
   .rcases D9 K E with rfl | ⟨_,z⟩
    .cases l
    grind
 | map bs es=>
  simp only[CS,Option.some.injEq] at h;subst h;exact ⟨λ_ _ _ _ h=>h,λf i l=>l.elim,(λ_ _ e=>by cases e),(λ_ _ e=>by cases e)⟩
 | iter f i c seen=>
  simp only[CS] at h
  split at h
  .rename_i s
   injection h with h;subst h
   exact ⟨λ_ _ _ _ h=>h,λf' S ⟨G,F⟩=>by subst G F;exact s,(λ_ _ e=>by cases e),(λ_ _ e=>by cases e)⟩
  .injection h with h;subst h
   exact ⟨λ_ _ _ _ _=>trivial,λf i l=>l.elim,(λ_ _ e=>by cases e),(λ_ _ e=>by cases e)⟩
 | addr f i u=>
  simp only[CS] at h
  split at h
  .rename_i s
   injection h with h;subst h
   exact ⟨λ_ _ _ _ h=>h,λf' S ⟨G,F⟩=>by subst G F;exact s,(λ_ _ e=>by cases e),(λ_ _ e=>by cases e)⟩
  .injection h with h;subst h
   exact ⟨λ_ _ _ _ _=>trivial,λf i l=>l.elim,(λ_ _ e=>by cases e),(λ_ _ e=>by cases e)⟩
 | any=>
  simp only[CS,Option.some.injEq] at h;subst h;exact ⟨λ_ _ _ _ h=>h,λf i l=>l.elim,(λ_ _ e=>by cases e),(λ_ _ e=>by cases e)⟩
 | nb b t cs=>
  simp only[CS,Option.some.injEq] at h;subst h;exact ⟨λ_ _ _ _ h=>h,λf i l=>l.elim,(λ_ _ e=>by cases e),(λ_ _ e=>by cases e)⟩
 | nr b t k cap I=>
  simp only[CS,Option.some.injEq] at h;subst h;exact ⟨λ_ _ _ _ h=>h,λf i l=>l.elim,(λ_ _ e=>by cases e),(λ_ _ e=>by cases e)⟩
 | nm b bs es=>
  simp only[CS,Option.some.injEq] at h;subst h;exact ⟨λ_ _ _ _ h=>h,λf i l=>l.elim,(λ_ _ e=>by cases e),(λ_ _ e=>by cases e)⟩
 | itz=>
  simp only[CS,Option.some.injEq] at h;subst h;exact ⟨λ_ _ _ _ h=>h,λf i l=>l.elim,(λ_ _ e=>by cases e),(λ_ _ e=>by cases e)⟩
 | multi M=>
  simp only[CS,Option.some.injEq] at h;subst h;exact ⟨λ_ _ _ _ h=>h,λf i l=>l.elim,(λ_ _ e=>by cases e),(λ_ _ e=>by cases e)⟩
theorem Al.less:(L.at_ s).Less a (L.at_ s):=⟨λ_ _ _ _ h=>h,λ_ _ c=>absurd c Al.norefs,λ_ _ e=>absurd e Al.notBlk,λ_ _ e=>absurd e Al.notBlk⟩
theorem Ro{b:AM}(h:CS a b=some (.multi M)):b= .multi M:=by
 cases b<;>simp only[CS] at h<;>first | (injection h with h) | (split at h<;>first | cases h | (injection h with h;cases h)) | cases h
 all_goals first | (subst h;rfl) | cases h
variable{K:List AM}
theorem Kv(h:Ed a o=some K):K.length=o.length/\∀(j:Nat) o',K[j]? =some o'->∃b,o[j]? =some b/\b.Less a o':=by
 induction o generalizing K with
 | nil=>simp only[Ed,Option.some.injEq] at h;subst h;simp
 | cons c r f=>
  grind[Ed,UC]
theorem UB(h:Ed a o=some K):iY K=iY o:=by
 have f:=(Kv h).1
 match o,K,h,f with
 | [],[],_,_=>rfl
 | [c],[b],h,_=>
  simp only[Ed] at h
  split at h
  .cases h
  .rename_i g i
   injection h with h;injection h with h;subst h
   cases hb:iY [g] with
   | some M=>
    have e:=Om hb
    grind[Ro]
   | none=>
    cases ha:iY [c] with
    | none=>rfl
    | some M=>
     have e:=Om ha
     grind[CS]
 | _::_::_,_::_::_,_,_=>rfl
 | [],_::_,_,f=>simp at f
 | [_],[],_,f=>simp at f
 | [_],_::_::_,_,f=>simp at f
 | _::_::_,[],_,f=>simp at f
 | _::_::_,[_],_,f=>simp at f
theorem UE(h:Ed a o=some K):(∀(j:Nat) f,gl K j=some f->∃b,gl o j=some b/\b.Less a f)/\∀(j:Nat) b,gl o j=some b->∃f,gl K j=some f/\b.Less a f:=by
 have g:=UB h;obtain ⟨r,k⟩:=Kv h;unfold gl;rw[g]
 cases hm:iY o with
 | some M=>
  have i:∀(j:Nat) b,(M j).map (Al.at_ j)=some b->b.Less a b:=λj b c=>by
   cases hmj:M j with
   | none=>rw[hmj] at c;cases c
   | some m=>rw[hmj] at c;injection c with c;subst c;exact Al.less
  grind
 | none=>
  grind
variable{i:List (Nat×List AM)}
theorem Ik(h:CT a f=some i):(∀g b c,ey i g b=some c->∃o,ey f g b=some o/\o.Less a c)/\∀g b o,ey f g b=some o->∃c,ey i g b=some c/\o.Less a c:=by
 induction f generalizing i with
 | nil=>simp only[CT,Option.some.injEq] at h;subst h;simp[ey,fl]
 | cons q r t=>
  obtain ⟨k,l⟩:=q;simp only[CT] at h
  split at h
  .cases h
  .rename_i y u
   obtain ⟨x,w⟩:=t u
   split at h
   .cases h
   .rename_i z v
    injection h with h;subst h
    obtain ⟨B,A⟩:=UE v;refine ⟨λg b c j=>?_,λg b o j=>?_⟩
    .by_cases e:k=g
     .grind[ey,fl,ic]
     .have s:Nat.beq k g=false:=IU e;simp only[ey,fl,s] at j⊢;exact x g b c j
    .by_cases e:k=g
     .grind[ey,fl,ic]
     .have s:Nat.beq k g=false:=IU e;simp only[ey,fl,s] at j⊢;exact w g b o j
def Bl(f g:Nat)(_i:Nat):Bool:=!(Nat.beq g f)
theorem S3{g:Nat}(h:Bl j g u=true):g≠j:=by
 rintro rfl
 simp[Bl] at h
abbrev A9(f:Nat):=Bt (Bl f)
abbrev A8(f:Nat):=CT (Bl f)
abbrev ct(f:Nat):=ZR (Bl f)
theorem Tl(h:ct j z=true)(c:g∈z)(i:Nat):¬g.Refs j i:=λb=>S3 (Fp h c b) rfl
theorem Bb(h:A9 j t=some I)(b:get I y=some g):g= .top\/(get t y=some g/\∀i,¬g.Refs j i):=by grind[D9,S3]
theorem BD(h:A8 j f=some i):(∀g a b,ey i g a=some b->∃o,ey f g a=some o/\o.Less (Bl j) b)/\∀g a o,ey f g a=some o->∃b,ey i g a=some b/\o.Less (Bl j) b:=Ik h
theorem BG.same(h:∀g a k,ey i g a=some k->∃o,ey f g a=some o)(l:BG c i s):BG c f s:=by
 obtain ⟨j,a,k,u,t⟩:=l;obtain ⟨o,r⟩:=h j a k u;exact ⟨j,a,o,r,t⟩
theorem B9.less(h:B9 F f c w)(x:∀g j l,ey i g j=some l->∃o,ey f g j=some o/\∀w O v,At w O c o v->At w O c l v)(E:∀g j o,ey f g j=some o->∃l,ey i g j=some l/\∀t A,o= .blk t A->∃z,l= .blk t z):B9 F i c w:=by
 have r:∀b,F.O c i b↔F.O c f b:=λb=>⟨λh=>h.imp id (BG.same λg j l r=>let ⟨o,a,_⟩:=x g j l r;⟨o,a⟩),λh=>h.imp id (BG.same λg j o r=>let ⟨l,a,_⟩:=E g j o r;⟨l,a⟩)⟩
 have y:F.O c i=F.O c f:=funext λb=>propext (r b);refine ⟨λk j l u=>?_,λk j G B o l b u s=>?_,λb D=>?_,h.os,h.tape,h.output,h.size0,h.keep,λk j b f=>?_,h.drawn⟩
 .obtain ⟨o,r,C⟩:=x k j l u;rw[y];exact C _ _ _ (h.sim k j o r)
 .obtain ⟨_,u,_⟩:=x _ _ _ u;obtain ⟨_,s,_⟩:=x _ _ _ s;exact h.inj k j G B _ _ b u s
 .exact h.mine b (BG.same (λg j l r=>let ⟨o,a,_⟩:=x g j l r;⟨o,a⟩) D)
 .obtain ⟨I,t,A,H⟩:=h.pins k j b f
  grind
theorem B9.one(h:B9 F f c w)(f0 k:Nat)(Q:AM)(j:∀g a,ey i g a=if g=f0/\a=k then some Q else ey f g a)(r:∀g a,¬(g=f0/\a=k)->x g a=c g a)(A:∀b,Br (x f0 k)=some b->((∃o,ey f f0 k=some o)/\Br (c f0 k)=some b)\/(w.heap.size<=b/\b<R.heap.size))(U:R.os=w.os)(H:R.tape=w.tape)(L:R.output=w.output)(hs:w.heap.size<=R.heap.size)(gN:w.drawn<=R.drawn)(X:∀b,b<w.heap.size->¬((∃o,ey f f0 k=some o)/\Br (c f0 k)=some b)->R.heap[b]? =w.heap[b]?)(S:x f0 k=c f0 k\/∀g a o,ey f g a=some o->¬(g=f0/\a=k)->¬o.Refs f0 k)(K:∀b,F.pin f0 k=some b->x f0 k=c f0 k/\∃t cs,Q= .blk t cs)(hsim:At R (F.O x i) x Q (x f0 k)):B9 F i x R:=by
 have G:∀b,BG x i b->BG c f b\/(w.heap.size<=b/\b<R.heap.size):=λb ⟨g,a,o,l,s⟩=>by
  by_cases e:g=f0/\a=k
  .obtain ⟨rfl,rfl⟩:=e;rcases A b s with ⟨⟨o,C⟩,O⟩ | O
   .exact .inl ⟨g,a,o,C,O⟩
   omega
  .rw[j,κ e] at l;rw[r g a e] at s;exact .inl ⟨g,a,o,l,s⟩
 have hO:∀b,b<w.heap.size->F.O x i b->F.O c f b:=λb v C=>by
  rcases C with C | C
  .exact .inl C
  .rcases G b C with l | l
   .exact .inr l
   .omega
 have V:∀b,b<w.heap.size->¬F.O c f b->R.heap[b]? =w.heap[b]?:=λb v C=>X b v λ⟨⟨o,l⟩,s⟩=>C (.inr ⟨f0,k,o,l,s⟩)
 have T:∀g a (o:AM),ey f g a=some o->¬(g=f0/\a=k)->∀D B,o.Refs D B->x D B=c D B:=λg a o C hne D B hr=>by
  grind
 refine ⟨λg a o z=>?_,λg a D B o P b z y E u=>?_,λb W=>?_,U.trans h.os,H.trans h.tape,L.trans h.output,gY h.size0 hs,λb v M=>?_,λg a b f=>?_,gY h.drawn gN⟩
 .by_cases e:g=f0/\a=k
  .grind
  .rw[j,κ e] at z;rw[r g a e];refine (h.sim g a o z).mono hs V hO (λb E=>X b (h.mine b ⟨g,a,o,z,E⟩).1 λ⟨⟨J,l⟩,s⟩=>e (h.inj g a f0 k o J b z l E s)) (T g a o z e)
 .by_cases e:g=f0/\a=k<;>by_cases I:D=f0/\B=k
  .omega
  .exfalso
   obtain ⟨rfl,rfl⟩:=e;rw[j,κ I] at y;rw[r _ _ I] at u;rcases A b E with ⟨⟨J,l⟩,s⟩ | s
   .exact I (h.inj D B g a P J b y l u s)
   .have:=(h.mine b ⟨D,B,P,y,u⟩).1;omega
  .exfalso
   obtain ⟨rfl,rfl⟩:=I;rw[j,κ e] at z;rw[r _ _ e] at E;rcases A b u with ⟨⟨J,l⟩,s⟩ | s
   .exact e (h.inj g a D B o J b z l E s)
   .have:=(h.mine b ⟨g,a,o,z,E⟩).1;omega
  .rw[j,κ e] at z;rw[j,κ I] at y;rw[r _ _ e] at E;rw[r _ _ I] at u;exact h.inj g a D B o P b z y E u
 .rcases G b W with l | l
  .have:=h.mine b l;exact ⟨by omega,this.2⟩
  .exact ⟨l.2,.inr (gY h.size0 l.1)⟩
 .rw[<-h.keep b v M];have N:b<w.heap.size:=jB v h.size0;refine X b N λ⟨⟨o,l⟩,s⟩=>?_;rcases (h.mine b ⟨f0,k,o,l,s⟩).2 with O | O
  .exact M O
  .omega
 .obtain ⟨a1,t,cs,a2⟩:=h.pins g a b f
  by_cases e:g=f0/\a=k
  .obtain ⟨rfl,rfl⟩:=e;obtain ⟨a3,t',Y,rfl⟩:=K b f;exact ⟨a3.trans a1,t',Y,by rw[j,ς ⟨Z,Z⟩]⟩
  .exact ⟨(r g a e).trans a1,t,cs,by rw[j,κ e];exact a2⟩
def Tu(F:Fr)(Q:Exit->AS->Prop)(e:Exit)(act:Act)(w:World):Prop:=∃s ρ,Q e s/\SR F s ρ act w
def Qu(r:Option Nat):Fence:={Fence.wide with round:=r}
def Op.isDefer:Op->Bool
 | .defer _=>true
 | _=>false
theorem QQ(r:Option Nat)(a:Operand->Value)(o:Oper)(h:Op.isDefer o.op=false):o.semAt (Qu r).round a=execOp a o:=by
 cases r with
 | none=>exact Oper.semAt_none a o
 | some l=>exact Oper.semAt_some l a o λc b=>by rw[b] at h;cases h
theorem Vl{f:String}{R:Value->World->Prop}(h:Go.Rows P f A w R):RowsIn (Qu C) E P f A w R:=by
 have g:RowsIn Fence.wide E P f A w R:=λc j _=>let ⟨v,i,a,b⟩:=h c j;⟨v,i,a,stepsIn_wide.2 b⟩
 cases C with
 | none=>exact g
 | some l=>exact g
theorem NA{r:Option Nat}{f:FuncId}{R:Ending->World->Prop}(h:Calls P f A w R):CallsIn (Qu r) E P f A w R:=by
 cases r with
 | none=>exact callsIn_wide.2 h
 | some l=>exact CallsIn.inRound l (callsIn_wide.2 h)
theorem F8{o:Oper}{a:Act}{K:Act->World->Prop}{Q:Exit->Act->World->Prop}(j:Op.isDefer o.op=false)(h:o.wp P a w K (λ_ _ _=>False)):o.wpIn (Qu C) 0 P a w K Q:=by
 refine ⟨λ_ _=>trivial,?_⟩;rw[QQ C _ o j];unfold Oper.wp at h
 generalize (execOp a.eval o).run P w=c at h
 cases c with
 | ok x w=>
  cases x with
  | value v=>exact h
  | skip=>exact h
  | defer d=>exact h
  | enter f b=>
   rw[Oper.upon_enter] at h;refine ⟨(λh=>by cases h),NA (h.mono λe k g=>?_)⟩
   cases e with
   | returned v=>exact g
   | panicked _=>exact g.elim
   | outgrown=>obtain ⟨_,_,i⟩:=g;exact i.elim
  | row C b=>
   rw[Oper.upon_row] at h;exact ⟨(λh=>by cases h),Vl h⟩
  | _=>exact h.elim
 | halt x w=>
  cases x<;>exact h.elim
def CD(P:Program)(F:Fr)(c:Code)(Q:Exit->AS->Prop)(s:AS):Prop:=∀ρ act w,SR F s ρ act w->c.wpIn (Qu F.rnd) 0 P (Tu F Q) act w
def Ak(P:Program)(F:Fr)(ops:Array Oper)(l:List Oper)(Q:Exit->AS->Prop)(s:AS):Prop:=∀ρ act w,SR F s ρ act w->wpListIn (Qu F.rnd) 0 P ops (Tu F Q) l act w
def P8(P:Program)(F:Fr)(o:Oper)(s:AS)(T:AS->Prop):Prop:=∀ρ act w,SR F s ρ act w->o.wp P act w (Tu F (λe s'=>e= .normal/\T s') .normal) (λ_ _ _=>False)
theorem IW(h:Nat.blt G E=true):G<E:=Nat.lt_of_succ_le (by simpa [Nat.blt] using h)
def rR(K:AS->Prop)(Q:Exit->AS->Prop):Exit->AS->Prop
 | .normal,s=>K s
 | e,s=>Q e s
def YZ(id:Nat)(Q:Exit->AS->Prop):Exit->AS->Prop
 | .exit id',s=>match Nat.beq id' id with
  | true=>Q .normal s
  | false=>Q (.exit id') s
 | e,s=>Q e s
section
variable{P:Program}{F:Fr}{Q Q':Exit->AS->Prop}{s:AS}
variable{a:Array Oper}{c:List (Nat×List AM)}{f:List (Nat×AV)}{g:Nat->Nat->Value}{h:List Oper}{i:Array Edge}{j:String}{w:World}{k:TypeId}{o:Nat}{t:List (Nat×AV)}{u:Bool}{x:Operand}{y:Option Tmp}{z:Nat->Prop}{A:Op}{C:Nat->Nat->Bool}{E:Nat}{G:Code}{H:Oper}{I:Code}{K:Nat}{L:Code}{M:List Oper}{N:Act->World->Prop}{R:Act}{S:Value}{T:Act}{U:Nat}{W:AV}{X:Bool}
theorem CD.mono(h:CD P F I Q s)(g:∀e s,Q e s->Q' e s):CD P F I Q' s:=λa b w f=>
 Go.wpIn_mono (h a b w f) λe _ _ ⟨s,a,j,i⟩=>⟨s,a,g e s j,i⟩
theorem AW(h:Q .normal s):CD P F .skip Q s:=λa _ _ b=>wpIn_skip ⟨s,a,h,b⟩
theorem nS{l:Nat}(h:Q .normal s):CD P F (.label l) Q s:=λa c w b=>wpIn_label ⟨s,a,h,b⟩
theorem Aw{id:Nat}(h:Q (.exit id) s):CD P F (.exit id) Q s:=λa _ _ b=>wpIn_exit ⟨s,a,h,b⟩
theorem A2(h:Q .ret s):CD P F .ret Q s:=λa _ _ b=>wpIn_ret ⟨s,a,h,b⟩
theorem AC(h:CD P F G (rR (CD P F L Q) Q) s):CD P F (.seq G L) Q s:=λi c w k=>
 wpIn_seq (Go.wpIn_mono (h i c w k) λe a w ⟨j,b,g,f⟩=>by
  cases e with
  | normal=>exact g b a w f
  | _=>exact ⟨j,b,g,f⟩)
theorem AZ{id:Nat}(h:CD P F G (YZ id Q) s):CD P F (.block id G) Q s:=λk j w o=>
 wpIn_block (Go.wpIn_mono (h k j w o) λe a w ⟨f,b,c,i⟩=>by
  cases e with
  | exit l=>
   simp only[YZ] at c;simp only[Exit.inBlock]
   split at c
   .rename_i g;rw[ς (iG g)];exact ⟨f,b,c,i⟩
   .rename_i g;rw[κ (jF g)];exact ⟨f,b,c,i⟩
  | _=>exact ⟨f,b,c,i⟩)
def Iv(v:Value):Option AV:=match v.oneCell' with
 | false=>none
 | true=>match v with
  | .slice none 0 0=>some (.d (.sl (some true) []))
  | v=>some (.d (.raw v))
def AS.ev(s:AS):Operand->Option AV
 | .tmp t=>get s.env t
 | .const v=>Iv v
 | .func f=>some (.d (.raw (.func (.func f) #[] #[])))
 | .global _=>none
theorem Lp(h:Iv S=some W):A7 w z g W S/\S.oneCell'=true:=by
 unfold Iv at h
 split at h
 .cases h
 .rename_i c
  refine ⟨?_,c⟩
  split at h
  .injection h with h;subst h
   exact .d (.sl 1 (λb f=>by injection f) (λ_=>rfl) Z (Γ _) (by unfold maxLen;omega) (by simp) (by simp) (λb o h=>by cases h))
  .injection h with h;subst h
   exact .d (.raw c)
theorem SR.ev(h:SR F s g R w){x:Operand}{a:AV}(c:s.ev x=some a):A7 w (F.O g s.hp) g a (R.eval x):=by
 cases x with
 | tmp t=>exact h.env t a c
 | const v=>
  exact (Lp c).1
 | func f=>simp only[AS.ev,Option.some.injEq] at c;subst c;exact .d (.raw Z)
 | global b=>simp[AS.ev] at c
theorem JC(l:s.ev x=some (.d (.raw (.bool u))))(j:u=true->CD P F G Q s)(k:u=false->CD P F L Q s):CD P F (.cond x G L) Q s:=λg a w f=>by
 have h:=f.ev l
 cases h with
 | d h=>
  generalize i:a.eval x=v at h
  cases h with
  | raw h=>
   exact wpIn_cond_split i (λe=>j e g a w f) (λe=>k e g a w f)
theorem Bw(f:s.ev x=some (.d (.raw (.bool u))))(g:u=true)(a:CD P F G Q s):CD P F (.cond x G L) Q s:=by grind[JC]
theorem Cr(f:s.ev x=some (.d (.raw (.bool u))))(g:u=false)(a:CD P F L Q s):CD P F (.cond x G L) Q s:=by grind[JC]
theorem A6{p:Prop}[Decidable p](f:s.ev x=some (.d (.raw (.bool (decide p)))))(a:p->CD P F G Q s)(b:¬p->CD P F L Q s):CD P F (.cond x G L) Q s:=by grind[JC]
def AS.Le(s s':AS):Prop:=s'.n=s.n/\s'.hp=s.hp/\∀t a,get s'.env t=some a->get s.env t=some a
variable{B:AS}
theorem SR.le(h:SR F s g R w)(c:s.Le B):SR F B g R w:=by
 obtain ⟨j,b,i⟩:=c;refine ⟨j▸h.size,b▸h.defs,λt a f=>?_,b▸h.heap⟩;rw[b];exact h.env t a (i t a f)
theorem CD.le(h:CD P F I Q B)(g:s.Le B):CD P F I Q s:=λb a w f=>h b a w (f.le g)
theorem Ak.le(h:Ak P F a M Q B)(g:s.Le B):Ak P F a M Q s:=λc b w f=>h c b w (f.le g)
def Sd(env:List (Nat×AV)):List (Nat×AV)->Prop
 | []=>True
 | (t,a)::r=>get env t=some a/\Sd env r
theorem Sd.get{l:List (Nat×AV)}(h:Sd f l)(b:get l E=some W):Go.Proofs.YteifpcnphnhaoaaGreat.get f E=some W:=by
 induction l with
 | nil=>cases b
 | cons p r c=>
  grind[Mc,Sd]
theorem aV(h:Sd f t):AS.Le ⟨o,f,c⟩ ⟨o,t,c⟩:=⟨Z,Z,λ_ _=>h.get⟩
def pick(env:List (Nat×AV)):List Nat->Option (List (Nat×AV))
 | []=>some []
 | t::r=>match pick env r with
  | none=>none
  | some l=>match get env t with
   | none=>some l
   | some a=>some ((t,a)::l)
theorem UP{b:List Nat}(h:pick f b=some t):Sd f t:=by
 induction b generalizing t with
 | nil=>simp only[pick,Option.some.injEq] at h;subst h;exact trivial
 | cons a r c=>
  grind[pick,Sd]
theorem fh(a:List Nat)(b:pick f a=some t)(h:CD P F I Q ⟨o,t,c⟩):CD P F I Q ⟨o,f,c⟩:=h.le (aV (UP b))
theorem pt{b:List Oper}(g:List Nat)(i:pick f g=some t)(h:Ak P F a b Q ⟨o,t,c⟩):Ak P F a b Q ⟨o,f,c⟩:=h.le (aV (UP i))
theorem Gi{α:Type}(j:α->AS)(b:α->Prop)(k:α->Nat)(J:α)(U:b J)(R:s.Le (j J))(u:∀a,b a->CD P F I (rR (λB=>∃h,b h/\k h<k a/\B.Le (j h)) Q) (j a)):CD P F (.loop I) Q s:=λi f w v=>by
 have C:∀n a,k a=n->b a->∀i f w,SR F (j a) i f w->(Code.loop I).wpIn (Qu F.rnd) 0 P (Tu F Q) f w:=by
  intro n a _ D i f w v;refine wpIn_loop (λf w=>∃a i,b a/\SR F (j a) i f w) (λf w=>Classical.epsilon λm=>∃a i,b a/\SR F (j a) i f w/\k a=m/\∀h g,b h->SR F (j h) g f w->m<=k h) ⟨a,i,D,v⟩ ?_;intro f w D
  have o:∀f w,(∃a i,b a/\SR F (j a) i f w)->∃m,∃a i,b a/\SR F (j a) i f w/\k a=m/\∀h g,b h->SR F (j h) g f w->m<=k h:=λf w ⟨a,i,z,y⟩=>by
   have O:∀n a i,k a=n->b a->SR F (j a) i f w->∃m,∃a i,b a/\SR F (j a) i f w/\k a=m/\∀h g,b h->SR F (j h) g f w->m<=k h:=by
    intro n
    induction n using Nat.strongRecOn with
    | _ n N=>
     intro a i S z y
     by_cases l:∃h g,b h/\SR F (j h) g f w/\k h<n
     .obtain ⟨h,g,x,A,r⟩:=l;exact N _ r h g Z x A
     .refine ⟨n,a,i,z,y,S,λh g x A=>?_⟩;rcases Nat.lt_or_ge (k h) n with r | r
      .exact absurd ⟨h,g,x,A,r⟩ l
      .exact r
   exact O _ a i Z z y
  obtain ⟨a,i,z,y,x,A⟩:=Classical.epsilon_spec (o f w D);refine Go.wpIn_mono (u a z i f w y) λe t K ⟨B,g,r,E⟩=>?_
  cases e with
  | normal=>
   obtain ⟨h,M,T,L⟩:=r
   have l:∃a i,b a/\SR F (j a) i t K:=⟨h,g,M,E.le L⟩
   refine ⟨l,?_⟩;obtain ⟨_,_,_,_,_,H⟩:=Classical.epsilon_spec (o t K l);have G:=H h g M (E.le L);exact Nat.lt_of_le_of_lt G (by rw[<-x];exact T)
  | _=>exact ⟨B,g,r,E⟩
 exact C _ J Z U i f w (v.le R)
theorem AE{id:Nat}(h:Ak P F M.toArray M Q s):CD P F (.region id M.toArray false) Q s:=λb a w c=>wpIn_region_lit (h b a w c)
theorem AD(h:Q .normal s):Ak P F a [] Q s:=λb _ _ c=>wpListIn_nil ⟨s,b,h,c⟩
theorem Sl{P:Program}{K:Act->World->Prop}{Q:Exit->Act->World->Prop}{r:Result Next}(c:∀T w,K T w->N T w)(h:H.upon P T K (λ_ _ _=>False) r):H.upon P T N Q r:=by
 cases r with
 | ok x w=>
  cases x with
  | value v=>exact c _ _ h
  | skip=>exact c _ _ h
  | defer d=>exact c _ _ h
  | enter f b=>
   rw[Oper.upon_enter] at h⊢;refine h.mono λe j g=>?_
   cases e with
   | returned v=>exact c _ _ g
   | panicked _=>exact g.elim
   | outgrown=>obtain ⟨_,_,i⟩:=g;exact i.elim
  | row r b=>
   grind[Oper.upon_row,Go.Rows.mono]
  | _=>exact h.elim
 | halt x w=>
  cases x<;>exact h.elim
theorem nZ{P:Program}{K:Act->World->Prop}{Q:Exit->Act->World->Prop}(b:∀T w,K T w->N T w)(h:H.wp P T w K (λ_ _ _=>False)):H.wp P T w N Q:=Sl b h
theorem Ca{T:AS->Prop}(b:P8 P F H s T)(t:H.guard=none)(u:∀f,T f->Ak P F a h Q f)(i:Op.isDefer H.op=false:=by rfl):Ak P F a (H::h) Q s:=λk j w l=>
 wpListIn_plain t λ_ r=>F8 i (nZ (λc w ⟨f,g,⟨_,x⟩,v⟩=>r c w (u f x g c w v)) (b k j w l))
theorem P8.go(b:P8 P F ⟨y,A,k,j,i,none⟩ s (· =B))(f:Ak P F a h Q B)(c:Op.isDefer A=false:=by rfl):Ak P F a (⟨y,A,k,j,i,none⟩::h) Q s:=
 Ca b Z (λ_ e=>e▸f) c
def AG(P:Program)(F:Fr)(o:Oper)(s s':AS)(p:Nat->Nat->Bool):Prop:=∀ρ act w,SR F s ρ act w->o.wp P act w (λact' w'=>∃ρ',SR F s' ρ' act' w'/\∀f i,p f i=true->ρ' f i=ρ f i) (λ_ _ _=>False)
theorem AG.ostep(h:AG P F H s B C):P8 P F H s (· =B):=λc b w f=>
 nZ (λ_ _ ⟨a,g,_⟩=>⟨B,a,⟨Z,Z⟩,g⟩) (h c b w f)
theorem V{g:List (Nat×AV)}{l:List (Nat×List AM)}(b:AG P F ⟨y,A,k,j,i,none⟩ ⟨o,f,c⟩ ⟨o,g,l⟩ C)(t:Ak P F a h Q ⟨o,g,l⟩)(r:Op.isDefer A=false:=by rfl):Ak P F a (⟨y,A,k,j,i,none⟩::h) Q ⟨o,f,c⟩:=
 b.ostep.go t r
theorem AQ(D:(a[K]?).bind (·.dst)=some E)(C:get s.env E=some (.d (.raw (.bool X))))(G:X=u)(c:Ak P F a (⟨y,A,k,j,i,none⟩::h) Q s):Ak P F a (⟨y,A,k,j,i,some (K,u)⟩::h) Q s:=λz f w r=>by
 have l:=r.env E _ C
 have B:yielded a f.tmps K=some u:=by
  unfold yielded;rw[D]
  cases l with
  | d l=>
   generalize g:f.tmps.getD E undef=v at l
   cases l with
   | raw _=>
    simp only[jb];rw[ju] at g
    cases hh:f.tmps[E]? with
    | none=>rw[hh] at g;simp[undef] at g
    | some x=>rw[hh] at g;simp at g;subst g;simp[G]
 have o:=c z f w r;unfold wpListIn at o⊢;rw[ς (by simp[Region.wanted])] at o;rw[ς (by simp[Region.wanted,B])];exact o
theorem Lo:A7 w z g (.d (.tup [])) undef:= .d (.tup (vs:=[]) Z (by simp))
theorem ka(h:A7 w z g (.d (.tup [])) S):S=undef:=by
 cases h with
 | d h=>
  cases h with
  | @tup _ a b _=>
   have:a=[]:=je b;subst this;rfl
theorem Pi{b:Array Value}(f:(a[K]?).bind (·.dst)=some E)(c:b.getD E undef=undef):yielded a b K=none:=by
 unfold yielded;rw[f];simp only[jb];rw[ju] at c
 cases hh:b[E]? with
 | none=>rfl
 | some x=>rw[hh] at c;simp at c;subst c;rfl
theorem KJ(y:(a[K]?).bind (·.dst)=some E)(x:get f E=some (.d (.tup [])))(z:Nat.blt U o=true)(g:Ak P F a h Q (⟨o,(U,.d (.tup []))::f,c⟩)):Ak P F a (⟨some U,A,k,j,i,some (K,u)⟩::h) Q ⟨o,f,c⟩:=λr B w l=>by
 have v:=Pi y (ka (l.env E _ x));unfold wpListIn;rw[κ (by simp[Region.wanted,v])];refine ⟨λ_ _=>trivial,?_⟩;exact g r _ w (l.put (IW z) Lo)
theorem AI(G:(a[K]?).bind (·.dst)=some E)(D:get f E=some (.d (.raw (.bool X))))(I:X=!u)(H:Nat.blt U o=true)(g:Ak P F a h Q (⟨o,(U,.d (.tup []))::f,c⟩)):Ak P F a (⟨some U,A,k,j,i,some (K,u)⟩::h) Q ⟨o,f,c⟩:=λB l w z=>by
 have y:=z.env E _ D
 have C:yielded a l.tmps K=some (!u):=by
  unfold yielded;rw[G]
  cases y with
  | d y=>
   generalize r:l.tmps.getD E undef=v at y
   cases y with
   | raw _=>
    simp only[jb];rw[ju] at r
    cases hh:l.tmps[E]? with
    | none=>rw[hh] at r;simp[undef] at r
    | some x=>rw[hh] at r;simp at r;subst r;simp[I]
 unfold wpListIn;rw[κ (by cases u<;>simp[Region.wanted,C])];refine ⟨λ_ _=>trivial,?_⟩;exact g B _ w (z.put (IW H) Lo)
end
section
variable{P:Program}{F:Fr}{Q:Exit->AS->Prop}{n:Nat}{env:List (Nat×AV)}{hp:List (Nat×List AM)}{ops:Array Oper}{l:List Oper}{c:Code}
variable{a:Bool}{f:AV}
theorem JV{env:List (Nat×AV)}{t:Nat}(h:get env t=some f){b:Nat}{g:AV}(i:get ((t,f)::env) b=some g):get env b=some g:=by grind[Mc]
theorem CU(t:Nat){p:Prop}[Decidable p](a:get env t=some (.d (.raw (.bool (decide p)))))(b:p->Ak P F ops l Q ⟨n,(t,.d (.raw (.bool true)))::env,hp⟩)(f:¬p->Ak P F ops l Q ⟨n,(t,.d (.raw (.bool false)))::env,hp⟩):Ak P F ops l Q ⟨n,env,hp⟩:=by
 by_cases h:p
 .exact (b h).le ⟨Z,Z,λ_ _=>JV (by rw[gi h] at a;exact a)⟩
 .exact (f h).le ⟨Z,Z,λ_ _=>JV (by rw[gp h] at a;exact a)⟩
theorem Kf(t:Nat)(f:get env t=some (.d (.raw (.bool a))))(g:a=true->Ak P F ops l Q ⟨n,(t,.d (.raw (.bool true)))::env,hp⟩)(h:a=false->Ak P F ops l Q ⟨n,(t,.d (.raw (.bool false)))::env,hp⟩):Ak P F ops l Q ⟨n,env,hp⟩:=by
 cases a with
 | true=>exact (g Z).le ⟨Z,Z,λ_ _=>JV f⟩
 | false=>exact (h Z).le ⟨Z,Z,λ_ _=>JV f⟩
theorem Ey(t:Nat)(f:get env t=some (.d (.raw (.bool a))))(g:a=true)(h:Ak P F ops l Q ⟨n,(t,.d (.raw (.bool true)))::env,hp⟩):Ak P F ops l Q ⟨n,env,hp⟩:=by grind[Kf]
theorem Ds(t:Nat)(f:get env t=some (.d (.raw (.bool a))))(g:a=false)(h:Ak P F ops l Q ⟨n,(t,.d (.raw (.bool false)))::env,hp⟩):Ak P F ops l Q ⟨n,env,hp⟩:=by grind[Kf]
theorem Pq(t:Nat)(b:AV)(g:get env t=some f)(i:f=b)(h:Ak P F ops l Q ⟨n,(t,b)::env,hp⟩):Ak P F ops l Q ⟨n,env,hp⟩:=h.le ⟨Z,Z,λ_ _=>JV (by rw[<-i];exact g)⟩
theorem fj(t:Nat)(b:AV)(g:get env t=some f)(i:f=b)(h:CD P F c Q ⟨n,(t,b)::env,hp⟩):CD P F c Q ⟨n,env,hp⟩:=h.le ⟨Z,Z,λ_ _=>JV (by rw[<-i];exact g)⟩
end
variable{P:Program}{a:Array Edge}{c:String}{f:Nat}{g:TypeId}{F:Fr}{h:Op}{i:AV}{s:AS}
def AA(P:Program)(F:Fr)(o:Oper)(s:AS)(d:Nat)(a:AV):Prop:=Nat.blt d s.n=true/\o.dst=some d/\∀ρ act w,SR F s ρ act w→
 o.wp P act w (λact' w'=>∃v,act'=act.put (some d) v/\A7 w' (F.O ρ s.hp) ρ a v/\B9 F s.hp ρ w'/\w.heap.size<=w'.heap.size/\∀b,b<w.heap.size->w'.heap[b]? =w.heap[b]?) (λ_ _ _=>False)
theorem AA.ostep{o:Oper}(h:AA P F o s f i):P8 P F o s (· =s.put f i):=λk j w g=>by
 refine nZ ?_ (h.2.2 k j w g);rintro u B ⟨v,rfl,A,z,r,l⟩;exact ⟨_,k,⟨Z,Z⟩,SR.put ⟨g.size,g.defs.mono r (λb c _=>l b c) (λ_ _ h=>h),λt x y=>(g.env t x y).mono r (λb c _=>l b c) (λ_ _ h=>h) (λ_ _ _=>rfl),z⟩ (IW h.1) A⟩
theorem J{Q:Exit->AS->Prop}{n:Nat}{k:List (Nat×AV)}{r:List (Nat×List AM)}{l:Array Oper}{o:Option Tmp}{j:List Oper}(b:AA P F ⟨o,h,g,c,a,none⟩ ⟨n,k,r⟩ f i)(t:Ak P F l j Q ⟨n,(f,i)::k,r⟩)(s:Op.isDefer h=false:=by rfl):Ak P F l (⟨o,h,g,c,a,none⟩::j) Q ⟨n,k,r⟩:=
 b.ostep.go t s
theorem Cv{i:Option (Nat×Bool)}(j:AV)(r:Nat.blt f s.n=true)(b:∀l k w,SR F s l k w->∃v,(execOp k.eval ⟨some f,h,g,c,a,i⟩).run P w= .ok (.value v) w/\A7 w (F.O l s.hp) l j v):AA P F ⟨some f,h,g,c,a,i⟩ s f j:=by
 refine ⟨r,Z,λl k w o=>?_⟩;obtain ⟨v,u,t⟩:=b l k w o;unfold Oper.wp;rw[u];exact ⟨v,Z,t,o.heap,Γ _,λ_ _=>rfl⟩
end Go.Proofs.YteifpcnphnhaoaaGreat
