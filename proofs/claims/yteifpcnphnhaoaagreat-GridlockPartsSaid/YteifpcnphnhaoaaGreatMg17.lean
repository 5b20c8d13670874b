import Derived.Test.YteifpcnphnhaoaaGreatMg16
import Derived.Shelf.SlSortCmp.WholeK
import Derived.Shelf.SlSortCmp.NoneTotal
namespace Go.Proofs.YteifpcnphnhaoaaGreat
open Go.RowKit Go.Shelf
open Go.Sort (flatK putRow putRowK HoldsK Holds PermIn SortedIn SWO mapBlock onCells putCells)
variable {P:Program}
theorem Rn {g:FuncId} {l:List AV} {x:D} (h:AM P g l x) {w:World} {O:Nat ->Prop} (u:∀b,O b ->b<w.heap.size) {vs:List Value} (C:vs.length=l.length)
  (B:∀(i:Nat) a v,l[i]? =some a ->vs[i]? =some v ->A9 w O (λ_ _=>undef) a v):
  Calls P g vs.toArray w λe n=>∃v,e= .returned v/\A1 n O x v/\(n.os=w.os/\n.tape=w.tape/\n.output=w.output/\w.drawn<=n.drawn)/\w.heap.size<=n.heap.size/\∀b,b<w.heap.size ->n.heap[b]? =w.heap[b]?:=by
 have m:∀j b,¬BK j [] b:=λj b ⟨_,_,_,h,_⟩=>nomatch h
 let j:Nat ->Nat ->Value:=λ_ _=>undef
 let F:Fr:=Fr.mk none (.marks w.heap.size) w O (BK j []) (Cp j []) (λb q=>⟨u b q,m _ _⟩) [] (λ_ _ _ h=>D9 h)
 have y:∀j,F.O j []=O:=λj=>funext λb=>propext ⟨λh=>h.elim id λh=>(m j b h).elim,λh=> .inl h⟩
 have p:Ba F [] j w:=⟨(λf i o s=>nomatch s),(λf i L K o J b s=>nomatch s),λb q=>(m j b q).elim,Z,Z,Z,Γ _,λ_ _ _=>rfl,λf i b q=>ZcC q,Γ _⟩
 refine (h.2 F j vs Z Z ⟨Z,Z,Z⟩ p C (λi a v E A=>by rw [y];exact B i a v E A)).mono λe n ⟨v,r,M,z,I,⟨H,G⟩,c,k⟩=>?_;subst I H G;refine ⟨v,Z,?_,⟨k.os,k.tape,k.output,k.drawn⟩,k.size0,λb t=>k.keep b t (m j b)⟩
 cases c with
 | d c=>rw [y] at c;exact c
theorem PO {w a:World} (t:a.os=w.os/\a.tape=w.tape/\a.output=w.output/\w.drawn<=a.drawn) (s:w.heap.size<=a.heap.size) (r:∀b,b<w.heap.size ->a.heap[b]? =w.heap[b]?):∃q g,a=Go.Sort.grow (w.drewN q) g:=by
 refine ⟨a.drawn - w.drawn,a.heap.extract w.heap.size a.heap.size,?_⟩;obtain ⟨e,v,f,x,m⟩:=a;obtain ⟨c,l,d,n,h⟩:=w;obtain ⟨k,j,i,u⟩:=t;simp only at k j i u s r;subst k j i
 have o:e=c++e.extract c.size e.size:=by
  grind
 have p:f=d+(f - d):=by omega
 show World.mk e _ f _ _=World.mk (c++e.extract c.size e.size) _ (d+(f - d)) _ _;rw [World.mk.injEq];exact ⟨o,Z,p,Z,Z⟩
section
variable {ρr:Ren} {τ:Type}
variable {a:List Value} {w:World} {c:τ ->D} {k:Nat} {d:Type} {g:FuncId} {s:AS} {F:Fr} {n:Nat}
theorem ZcP [Inhabited d] {f:d ->List Value} {b c m:Nat} {i:Array d} {g:Array Obj} {a:Nat} (h:a≠b) (e:a<w.heap.size):(sortWorldK f k w b c m i g).heap[a]? =w.heap[a]?:=by
 unfold sortWorldK;rw [Go.Sort.heap_grow_old _ _ (by rw [Go.Sort.size_putRowK];exact e)];show (w.heap.modify b _)[a]? =_
 grind
theorem SR.writeG {c:Nat ->Nat ->Value} {r:Act} {g:World} (h:SR F s c r w) (f0 j:Nat) (o u:AN) {d:List (Nat×List AN)} (x:hget s.hp f0 j=some o)
  (k:∀f i,hget d f i=if f=f0/\i=j then some u else hget s.hp f i) (z:g.os=w.os) (m:g.tape=w.tape) (p:g.output=w.output) (y:w.heap.size<=g.heap.size) (hdr:w.drawn<=g.drawn)
  (H:∀b,b<w.heap.size ->Bu (c f0 j)≠some b ->g.heap[b]? =w.heap[b]?)
  (R:∀t K,o= .blk t K ->∃L G,u= .blk L G) (n:(∀A v,A9 w (F.O c s.hp) c A v ->A9 g (F.O c d) c A v) ->Av g (F.O c d) c u (c f0 j)):SR F ⟨s.n,s.env,d⟩ c r g:=by
 have I:∀b,F.O c d b ->F.O c s.hp b:=λb D=>by
  rcases D with D | ⟨f,i,M,E,J⟩
  .exact .inl D
  .refine .inr ?_
   by_cases e:f=f0/\i=j
   .obtain ⟨rfl,rfl⟩:=e;exact ⟨f,i,o,x,J⟩
   .rw [k,η e] at E;exact ⟨f,i,M,E,J⟩
 have q:∀b,b<w.heap.size ->¬F.O c s.hp b ->g.heap[b]? =w.heap[b]?:=λb C B=>H b C λe=>B (.inr ⟨f0,j,o,x,e⟩);have l:∀A v,A9 w (F.O c s.hp) c A v ->A9 g (F.O c d) c A v:=λA v O=>O.mono y q (λb _=>I b) λ_ _ _=>rfl;refine ⟨h.size,h.defs.mono y q (λb _=>I b),λt a S=>l _ _ (h.env t a S),?_⟩;refine h.heap.one f0 j u k (λ_ _ _=>rfl) (λb N=> .inl ⟨⟨o,x⟩,N⟩) z m p y hdr (λb C B=>H b C λe=>B ⟨⟨o,x⟩,e⟩) (.inl Z) (λb Q=>?_) (n l);obtain ⟨_,t,K,E⟩:=h.heap.pins f0 j b Q
 grind
def IK (us:List Value) (k n i:Nat):List Value:=(us.drop ((if i<n then i else 0)*k)).take k
theorem Mj {i:Nat} (c:0<n) (b:a.length=n*k):(IK a k n i).length=k:=by
 have:(if i<n then i else 0)<n:=by split<;>omega
 have d:=ψa k (Nat.succ_le_of_lt this)
 grind [IK]
theorem aS {i j:Nat} (_:0<n) (b:i<n) (c:j<k):(IK a k n i)[j]? =a[i*k+j]?:=by
 simp only [IK,ς b]
 grind
theorem MB {O:Nat ->Prop} {d:List τ} (n:d≠ []) (p:GG D.cells k (A1 w O) (d.map c) a) (t:∀x∈d.map c,∀b∈x.cells,b.one=true) (h:∀x,∃l,c x= .agg l) (q:τ) (i:Nat):
  A1 w O (c ((d[if i<d.length then i else 0]?).getD q)) (.agg (IK a k d.length i).toArray):=by
 have r:0<d.length:=χa.2 n;have f:(if i<d.length then i else 0)<d.length:=by split<;>omega
 rw [ω f];simp only [Option.getD_some];have m:a.length=d.length*k:=by have:=p.1;rwa [χ] at this
 obtain ⟨l,g⟩:=h d[if i<d.length then i else 0];have s:(d.map c)[if i<d.length then i else 0]? =some (.agg l):=by rw [ν,ω f,<-g];rfl
 have e:=ξ s;have o:l.length=k:=p.2.1 _ e;rw [g];refine .agg (by rw [Mj r m,o]) (t _ e) λj b v y u=>?_
 grind [IK,GG,D.cells]
theorem RE [Inhabited d] (l:List d) (j:Nat):l[j]! =(l[j]?).getD default:=List.getElem!_eq_getElem?_getD
theorem Ma:∀w O a v,A9 w O a (.d (.raw (.func (.func g) #[] #[]))) v ->v= .func (.func g) #[] #[]:=λw O a v h=>by
 cases h with
 | d h=>cases h with
  | raw _=>rfl
theorem Nf (L:SlLaysF0.n6 P ρr) {k:Nat} (hk:0<k) (aE:∀w,(isAgg (ρr.t 24)).run P w= .ok true w) (zE:∀w,(Go.sizeOf (ρr.t 24)).run P w= .ok k w) {E:TypeId} {g g6:FuncId} {fn:Func} (hfn:P.funcs[g]? =some fn) (hnm:(fn.name== "runtime.NumGoroutine")=false) {c:Code} (hbody:fn.body=some c)
  {B:τ ->D} (J:∀x,∃cs,B x= .agg cs) (cf:τ ->τ ->Int) (hO:SWO (ltOf cf)) (l ys0:List τ) (hsz:l.length<4611686018427387904) (hc:∀x∈l,∀y∈l,AM P g [.d (B x),.d (B y)] (.raw (.int .i64 (cf x y))))
  (hu:∀ys:List τ,ys.Perm l ->ys.Pairwise (λa b=>¬cf b a<0) ->ys=ys0)
  {F:Fr} {s:AS} {d:Nat} {x y:Operand} {ty:TypeId} {pos:String} {aft:Array Edge} {gd:Option (Nat×Bool)} {at_:Array TypeId} {f n:Nat} {fa:AV} {row:List D} {W:Hp}
  (hg:ρr.f 6=g6) (M:s.ev x=some (.own f 0 n)) (hy:s.ev y=some fa) (hfa:∀w O S v,A9 w O S fa v ->v= .func (.func g) #[] #[]) (ho:hget s.hp f 0=some (.rowD E k row)) (hrow:row=l.map B) (hn:n=l.length) (hh:B7 s.hp f 0 (.rowD E k (ys0.map B))=some W) (hd:Nat.blt d s.n=true):
  AG P F ⟨some d,.call {callee:= .value (.func g6),args:= #[x,y],argTypes:=at_},ty,pos,aft,gd⟩ s ⟨s.n,(d,.d (.tup []))::s.env,W⟩ (λ_ _=>true):=by
 subst hg hrow hn;intro S act w hs
 obtain ⟨fn6,hf1,hf2,hf3⟩:∃fn,P.funcs[ρr.f 6]? =some fn/\(fn.name== "runtime.NumGoroutine")=false/\fn.body.isSome=true:=by
  obtain ⟨nm,hn,hf⟩:=L.f6;exact ⟨_,hf,hn,Z⟩
 unfold Oper.wp;rw [show (#[x,y]:Array Operand)=[x,y].toArray from rfl,DJ hf1 hf2 hf3,Oper.upon_enter]
 suffices key:Calls P (ρr.f 6) ([x,y].map act.eval).toArray w λe w'=>e= .returned (.tuple #[])/\SR F ⟨s.n,s.env,W⟩ S act w' by
  refine key.mono λe w' ⟨K,hsr⟩=>?_;subst K;exact ⟨S,hsr.put (IS hd) (.d (.tup Z λi c v hc=>nomatch hc)),λ_ _ _=>rfl⟩
 have r0:=hs.ev M;have r1:=hfa _ _ _ _ (hs.ev hy);have hg0:=ho;have h3:=hs.heap;have U:=BB hh;obtain ⟨T,q1,q2,q3⟩:=h3.sim f 0 _ hg0;show Calls P (ρr.f 6) #[act.eval x,act.eval y] w _;rw [r1]
 generalize act.eval x=V0 at r0
 cases r0 with
 | own hρ hle=>
  rename_i N H a
  by_cases M:l=[]
  .subst M;refine (AnyF.slices_SortFunc_none L a H _ w).mono λe w' ⟨K,e2⟩=>?_;subst K e2;refine ⟨Z,hs.writeG f 0 _ _ ho U Z Z Z (Γ _) (Γ _) (λ_ _ _=>rfl) (λ_ _ e=>nomatch e) λhrep=>?_⟩;rw [<-hu [] (List.Perm.refl _) List.Pairwise.nil];exact ⟨T,q1,⟨by simpa using q2.1,λx M=>(nomatch M),λi x M=>by simp at M⟩,λx M=>(nomatch M)⟩
  .have hn:0<l.length:=χa.2 M;have hul:T.length=l.length*k:=by have:=q2.1;rwa [χ] at this
   have hblkeq:∃b C,a=some ⟨b,0,none⟩/\w.heap[b]? =some (.cells C E (0,0))/\C.size=N*0+H*k/\l.length<=H/\H<=maxLen/\C.toList.take (l.length*k)=T/\N=l.length:=by
    rcases q1.2 with ⟨_,h⟩ | ⟨b,cap',C,K,_,e2,e3,e4,e5,e6⟩
    .rw [χ] at h;omega
    .rw [hρ] at K;injection K with K e7 e8
     subst K e8;rw [χ] at e3 e6 e7;exact ⟨b,C,Z,e2,by omega,e3,e4,e6,e7⟩
   obtain ⟨b,C,rfl,p1,p2,p3,p3',p4,rfl⟩:=hblkeq;have hb:Bu (S f 0)=some b:=by rw [hρ];rfl
   have hOb:F.O S s.hp b:= .inr ⟨f,0,_,hg0,hb⟩;have hlt:b<w.heap.size:=(ωn.1 p1).1;have hOl:∀t,F.O S s.hp t ->t<w.heap.size:=λt h=>h3.ltO h
   let x0:τ:=l[0]
   let ix:Nat ->Nat:=λi=>if i<l.length then i else 0
   let el:Nat ->τ:=λi=>(l[ix i]?).getD x0
   have hel:∀i,el i∈l:=λi=>by
    have hix:ix i<l.length:=by show (if _ then _ else _)<_;split<;>omega
    show (l[ix i]?).getD x0∈l;rw [ω hix];exact ϑ hix
   let p:Nat ->List Value:=IK T k l.length
   let cf':Nat ->Nat ->Int:=λi j=>cf (el i) (el j)
   have hO':SWO (ltOf cf'):=⟨λx=>hO.irrefl (el x),λx y z=>hO.trans (el x) (el y) (el z),λx y z=>hO.ntrans (el x) (el y) (el z)⟩
   have hlen:∀x,(p x).length=k:=λx=>Mj hn hul
   have hus1:∀v∈T,v.oneCell'=true:=λv Q=>by
    obtain ⟨j,I⟩:=List.getElem?_of_mem Q;have hj':j<l.length*k:=by rw [<-hul];exact (φ.1 I).1
    have hd:j / k<l.length:=Nat.div_lt_of_lt_mul (by rw [φd];exact hj');have hm:(l.map B)[j / k]? =some (B l[j / k]):=by rw [ν,ω hd];rfl
    have hck:=q2.2.1 _ (ξ hm);have hjm:j % k<(B l[j / k]).cells.length:=by rw [hck];exact Nat.mod_lt _ hk
    obtain ⟨u,hu,hu1,_⟩:=q2.2.2 _ _ hm (j % k) _ (ω hjm);rw [show j / k*k+j % k=j by rw [φd];exact Nat.div_add_mod j k,I] at hu;injection hu with hu;subst hu;exact hu1
   have Y:∀x,∀v∈p x,v.oneCell'=true:=λx v Q=>hus1 v (List.mem_of_mem_drop (ωs Q));have hd0:∀i,i<l.length ->(Array.range l.length)[i]! =i:=λi hi=>by rw [getElem!_pos _ i (by simpa using hi)];simp
   have hH:HoldsK p k w b 0 (Array.range l.length):=by
    intro j I;simp only [Go.Sort.size_flatK,χu] at I;have hd:j / k<l.length:=Nat.div_lt_of_lt_mul (by rw [φd];exact I);have hm:j % k<k:=Nat.mod_lt _ hk;refine ⟨?_,?_⟩
    .rw [Go.Sort.get_flatK _ _ _ _ (by simpa using I),hd0 _ hd,RE,aS hn hd hm,show j / k*k+j % k=j by rw [φd];exact Nat.div_add_mod j k];have hj2:j<T.length:=by omega
     have hju:T[j]? =C.toList[j]?:=by rw [<-p4,ψn I]
     simp only [World.cell?,p1,ψu];rw [hju]
     have hjc:j<C.size:=by
      have:=(φ.1 (hju▸ω hj2)).1
      simpa using this
     simp [hjc]
    .simp only [World.frozen?,p1]
     simp
   have hcmp:CmpLays P g #[] p k cf' b 0 (Array.range l.length).size w:=by
    intro m os dk _ x y;have hW:∀t,t<w.heap.size ->¬F.O S s.hp t ->(sortWorldK p k w b 0 m dk os).heap[t]? =w.heap[t]?:=λt hl X=>ZcP (λe=>X (e▸hOb)) hl;have R:w.heap.size<=(sortWorldK p k w b 0 m dk os).heap.size:=size_sortWorldK_c _ _ _ _ _ _ _ _;have ra:=(MB M q2 q3 J x0 x).mono R hW (λ_ _ h=>h);have rb:=(MB M q2 q3 J x0 y).mono R hW (λ_ _ h=>h)
    refine (Rn (hc (el x) (hel x) (el y) (hel y)) (w:=sortWorldK p k w b 0 m dk os) (λt h=>ψf (hOl t h) R) (vs:=[.agg (p x).toArray,.agg (p y).toArray]) Z (λi a v ha Q=>?_)).mono λe w' ⟨v,K,e2,e3,e4,e5⟩=>⟨?_,PO e3 e4 e5⟩
    .match i,ha,Q with
     | 0,ha,Q=>injection ha with ha;injection Q with Q;subst ha Q;exact .d ra
     | 1,ha,Q=>injection ha with ha;injection Q with Q;subst ha Q;exact .d rb
    .cases e2 with
     | raw _=>exact K
   have eg:∀args w,(callFunc g args).run P w= .ok (.enter g args) w:=enters_of hfn hnm hbody;have key:=AnyQ.slices_SortFunc L k aE zE p hlen Y cf' hO' g #[] b 0 H (Array.range l.length) w eg hcmp hH hlt (by simpa using hsz);rw [χu] at key;refine key.mono λe w' ⟨K,G,n,os,hp,hsort,hw⟩=>?_;subst K hw;obtain ⟨s1,_,s3⟩:=hp;rw [χu] at s1
   have V:G.toList.Perm (List.range l.length):=by
    have K:G.extract 0 l.length=G:=by rw [<-s1];exact Array.extract_size
    have e2:(Array.range l.length).extract 0 l.length=Array.range l.length:=by
     conv=>lhs;arg 3;rw [<-χu (n:=l.length)]
     exact Array.extract_size
    rw [K,e2] at s3
    simpa using s3
   have hmem:∀i,i<l.length ->G[i]!<l.length:=λi hi=>by
    have:G[i]!∈G.toList:=by rw [getElem!_pos _ i (by omega)];exact Array.getElem_mem_toList (by omega)
    exact Ψ.1 (V.mem_iff.1 this)
   refine ⟨Z,?_⟩
   have hys:G.toList.map el=ys0:=by
    apply hu
    .refine (V.map el).trans (List.Perm.of_eq ?_)
     apply ψk (by simp)
     intro i h5 h6;simp only [ωp,φc];show (l[ix i]?).getD x0=_;rw [show ix i=i from ς h6,ω h6];rfl
    .rw [ωk];intro i j hi I hij;simp only [χ,χb] at hi I;have:=hsort i j (ζ _) hij (by omega);rw [getElem!_pos _ j I,getElem!_pos _ i hi] at this;simp only [ltOf,decide_eq_false_iff_not] at this
     simpa using this
   have R:w.heap.size<=(sortWorldK p k w b 0 n G os).heap.size:=size_sortWorldK_c _ _ _ _ _ _ _ _;have A:((G.toList.map el).map B).length=l.length:=by simp [s1]
   refine hs.writeG f 0 _ _ ho U Z Z Z R (Nat.le_add_right _ _) (λt hl X=>ZcP (λe=>X (by rw [e];exact hb)) hl) (λ_ _ e=>nomatch e) λhrep=>?_;rw [<-hys]
   have hO2:∀t,F.O S W t ->F.O S s.hp t:=λt h=>h.imp id λ⟨g,i,o,h1,h2⟩=>by
    rw [U] at h1
    split at h1
    .rename_i e;obtain ⟨rfl,rfl⟩:=e;exact ⟨g,0,_,hg0,h2⟩
    .exact ⟨g,i,o,h1,h2⟩
   have hW:∀t,t<w.heap.size ->¬F.O S s.hp t ->(sortWorldK p k w b 0 n G os).heap[t]? =w.heap[t]?:=λt hl X=>ZcP (λe=>X (e▸hOb)) hl;have hfs:(flatK p k G).size=l.length*k:=by rw [Go.Sort.size_flatK,s1]
   have hheap:(sortWorldK p k w b 0 n G os).heap[b]? =some (.cells (putCells id 0 (flatK p k G) C) E (0,0)):=by
    unfold sortWorldK;rw [Go.Sort.heap_grow_old _ _ (by rw [Go.Sort.size_putRowK];exact hlt)];show (w.heap.modify b _)[b]? =_;rw [ψy,ς Z,p1];rfl
   have hcs:(putCells id 0 (flatK p k G) C).size=H*k:=by simp only [putCells,Array.size_mapIdx];omega
   have hle2:l.length*k<=H*k:=ψa k p3;refine ⟨(flatK p k G).toList,⟨by rw [A,χb,hfs],.inr ⟨b,H,_,by rw [hρ,A],ζ _,hheap,by rw [A];exact p3,p3',hcs,?_⟩⟩,⟨by rw [A,χb,hfs],λx r=>?_,λi x r j c hc2=>?_⟩,λx r c hc2=>?_⟩
   .rw [A]
    apply χn
    intro i
    by_cases hi:i<l.length*k
    .rw [ψn hi,ψd,ψd,ωg (by omega),ωg (by omega)];simp only [putCells,Array.getElem_mapIdx];rw [ς ⟨ζ _,by omega⟩];simp only [id,Nat.sub_zero];rw [getElem!_pos _ i (by omega)]
    .rw [ψm (by rw [ϱ];omega),ψm (by rw [χb];omega)]
   .rw [ωt] at r;obtain ⟨i,_,rfl⟩:=Ξ.1 r;exact q2.2.1 _ (Ξ.2 ⟨_,hel i,Z⟩)
   .rw [ν,ν] at r
    cases hdi:G.toList[i]? with
    | none=>rw [hdi] at r;cases r
    | some q=>
     rw [hdi] at r;injection r with r;subst r
     have hiq:=(φ.1 hdi).1;rw [χb,s1] at hiq;have hq!:G[i]! =q:=by rw [getElem!_pos _ i (by omega)];rw [ψd,ωg (by omega)] at hdi;injection hdi
     have hck:(B (el q)).cells.length=k:=q2.2.1 _ (Ξ.2 ⟨_,hel q,Z⟩);have I:j<k:=by rw [<-hck];exact (φ.1 hc2).1
     have hr:=(MB M q2 q3 J x0 q).mono (O':=F.O S W) R hW (λt _=>hO2 t)
     change A1 _ _ (B (el q)) _ at hr
     obtain ⟨cs,hcs2⟩:=J (el q);rw [hcs2] at hr hc2
     generalize hV:Value.agg (IK T k l.length q).toArray=Qqq at hr
     cases hr with
     | agg hl2 _ hall=>
      rename_i ws _
      injection hV with hV
      have hws:IK T k l.length q=ws:=by simpa using hV
      subst hws;have hjl:j<(IK T k l.length q).length:=by rw [Mj hn hul];exact I
      refine ⟨(IK T k l.length q)[j],?_,Y q _ (ϑ hjl),hall j c _ hc2 (ω hjl)⟩
      have hlt3:i*k+j<l.length*k:=by
       have:=ψa k (Nat.succ_le_of_lt hiq);rw [Nat.succ_mul] at this;omega
      rw [ψd,ωg (by omega)];have hgf:=Go.Sort.get_flatK p k G (i*k+j) (by rw [s1];exact hlt3);rw [getElem!_pos _ _ (by omega)] at hgf;rw [hgf,show (i*k+j) / k=i by rw [φd,Nat.mul_add_div hk,Nat.div_eq_of_lt I];rfl,show (i*k+j) % k=j by rw [φd,Nat.mul_add_mod,Nat.mod_eq_of_lt I],hq!,RE];show some ((IK T k l.length q)[j]?.getD default)=_;rw [ω hjl];rfl
   .rw [ωt] at r;obtain ⟨i,_,rfl⟩:=Ξ.1 r;exact q3 _ (Ξ.2 ⟨_,hel i,Z⟩) c hc2
end
end Go.Proofs.YteifpcnphnhaoaaGreat
