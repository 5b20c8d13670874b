import Derived.Test.YteifpcnphnhaoaaGreatMg16
import Derived.Shelf.SlSortCmp.WholeK
import Derived.Shelf.SlSortCmp.NoneTotal
namespace Go.Proofs.YteifpcnphnhaoaaGreat
open Go.RowKit Go.Shelf
open Go.Sort (flatK putRow putRowK HoldsK Holds PermIn SortedIn SWO mapBlock onCells putCells)
variable {P:Program}
theorem QZ {g:FuncId} {l:List AV} {x:D} (h:AK P g l x) {w:World} {O:Nat ->Prop} (B:∀b,O b ->b<w.heap.size) {vs:List Value} (I:vs.length=l.length)
  (H:∀(i:Nat) a v,l[i]? =some a ->vs[i]? =some v ->AR w O (λ_ _=>undef) a v):
  Calls P g vs.toArray w λe t=>∃v,e= .returned v/\AN t O x v/\(t.os=w.os/\t.tape=w.tape/\t.output=w.output/\w.drawn<=t.drawn)/\w.heap.size<=t.heap.size/\∀b,b<w.heap.size ->t.heap[b]? =w.heap[b]?:=by
 have s:∀j b,¬Am j [] b:=λj b ⟨_,_,_,h,_⟩=>by cases h
 let j:Nat ->Nat ->Value:=λ_ _=>undef
 let F:Fr:=Fr.mk none (.marks w.heap.size) w O (Am j []) (CS j []) (λb y=>⟨B b y,s _ _⟩) [] (λ_ _ _ h=>DF h)
 have C:∀j,F.O j []=O:=λj=>funext λb=>propext ⟨λh=>h.elim id λh=>(s j b h).elim,λh=> .inl h⟩
 have u:BP F [] j w:=⟨(λf i o z=>by cases z),(λf i R Q o N b z=>by cases z),λb y=>(s j b y).elim,Z,Z,Z,ϖ _,λ_ _ _=>rfl,λf i b y=>mL y,ϖ _⟩
 refine (h.2 F j vs Z Z ⟨Z,Z,Z⟩ u I (λi a v J G=>by rw [C];exact H i a v J G)).mono λe t ⟨v,r,S,E,M,⟨L,K⟩,c,k⟩=>?_;subst M L K;refine ⟨v,Z,?_,⟨k.os,k.tape,k.output,k.drawn⟩,k.size0,λb A=>k.keep b A (s j b)⟩
 cases c with
 | d c=>rw [C] at c;exact c
theorem Nl {w a:World} (z:a.os=w.os/\a.tape=w.tape/\a.output=w.output/\w.drawn<=a.drawn) (y:w.heap.size<=a.heap.size) (x:∀b,b<w.heap.size ->a.heap[b]? =w.heap[b]?):∃q i,a=Go.Sort.grow (w.drewN q) i:=by
 refine ⟨a.drawn - w.drawn,a.heap.extract w.heap.size a.heap.size,?_⟩;obtain ⟨g,B,h,C,s⟩:=a;obtain ⟨c,r,f,t,j⟩:=w;obtain ⟨o,l,k,A⟩:=z;simp only at o l k A y x;subst o l k
 have u:g=c++g.extract c.size g.size:=by
  grind
 have v:h=f+(h - f):=by omega
 show World.mk g _ h _ _=World.mk (c++g.extract c.size g.size) _ (f+(h - f)) _ _;rw [World.mk.injEq];exact ⟨u,Z,v,Z,Z⟩
section
variable {ρr:Ren} {τ:Type}
variable {a:List Value} {w:World} {c:τ ->D} {k:Nat} {f:Type} {g:FuncId} {F:Fr} {s:AS} {h:Nat}
theorem uR [Inhabited f] {h:f ->List Value} {b c m:Nat} {l:Array f} {i:Array Obj} {a:Nat} (j:a≠b) (g:a<w.heap.size):(sortWorldK h k w b c m l i).heap[a]? =w.heap[a]?:=by
 unfold sortWorldK;rw [Go.Sort.heap_grow_old _ _ (by rw [Go.Sort.size_putRowK];exact g)];show (w.heap.modify b _)[a]? =_
 grind
theorem SR.writeG {c:Nat ->Nat ->Value} {B:Act} {j:World} (h:SR F s c B w) (f0 k:Nat) (o C:AI) {g:Hp} (D:dr s.hp f0 k=some o)
  (l:∀f i,dr g f i=if f=f0/\i=k then some C else dr s.hp f i) (G:j.os=w.os) (u:j.tape=w.tape) (y:j.output=w.output) (E:w.heap.size<=j.heap.size) (fE:w.drawn<=j.drawn)
  (M:∀b,b<w.heap.size ->B6 (c f0 k)≠some b ->j.heap[b]? =w.heap[b]?)
  (W:∀t Q,o= .blk t Q ->∃R L,C= .blk R L) (x:(∀A v,AR w (F.O c s.hp) c A v ->AR j (F.O c g) c A v) ->Ae j (F.O c g) c C (c f0 k)):SR F ⟨s.n,s.env,g⟩ c B j:=by
 have N:∀b,F.O c g b ->F.O c s.hp b:=λb J=>by
  rcases J with J | ⟨f,i,S,K,O⟩
  .exact .inl J
  .refine .inr ?_
   by_cases e:f=f0/\i=k
   .obtain ⟨rfl,rfl⟩:=e;exact ⟨f,i,o,D,O⟩
   .rw [l,θ e] at K;exact ⟨f,i,S,K,O⟩
 have z:∀b,b<w.heap.size ->¬F.O c s.hp b ->j.heap[b]? =w.heap[b]?:=λb I H=>M b I λe=>H (.inr ⟨f0,k,o,D,e⟩);have r:∀A v,AR w (F.O c s.hp) c A v ->AR j (F.O c g) c A v:=λA v U=>U.mono E z (λb _=>N b) λ_ _ _=>rfl;refine ⟨h.size,h.defs.mono E z (λb _=>N b),λt a X=>r _ _ (h.env t a X),?_⟩;refine h.heap.one f0 k C l (λ_ _ _=>rfl) (λb T=> .inl ⟨⟨o,D⟩,T⟩) G u y E fE (λb I H=>M b I λe=>H ⟨⟨o,D⟩,e⟩) (.inl Z) (λb V=>?_) (x r);obtain ⟨_,t,Q,K⟩:=h.heap.pins f0 k b V
 grind
def HK (us:List Value) (k n i:Nat):List Value:=(us.drop ((if i<n then i else 0)*k)).take k
theorem LN {i:Nat} (c:0<h) (b:a.length=h*k):(HK a k h i).length=k:=by
 have:(if i<h then i else 0)<h:=by split<;>omega
 have f:=gz k (Nat.succ_le_of_lt this)
 grind [HK]
theorem ZC {i j:Nat} (_:0<h) (b:i<h) (c:j<k):(HK a k h i)[j]? =a[i*k+j]?:=by
 simp only [HK,ϱ b]
 grind
theorem Kf {O:Nat ->Prop} {f:List τ} (t:f≠ []) (y:FQ D.cells k (AN w O) (f.map c) a) (C:∀x∈f.map c,∀b∈x.cells,b.one=true) (o:∀x,∃r,c x= .agg r) (z:τ) (i:Nat):
  AN w O (c ((f[if i<f.length then i else 0]?).getD z)) (.agg (HK a k f.length i).toArray):=by
 have A:0<f.length:=ic.2 t;have h:(if i<f.length then i else 0)<f.length:=by split<;>omega
 rw [ω h];simp only [Option.getD_some];have s:a.length=f.length*k:=by have:=y.1;rwa [ψ] at this
 obtain ⟨r,l⟩:=o f[if i<f.length then i else 0];have B:(f.map c)[if i<f.length then i else 0]? =some (.agg r):=by rw [η,ω h,<-l];rfl
 have g:=ϑ B;have u:r.length=k:=y.2.1 _ g;rw [l];refine .agg (by rw [LN A s,u]) (C _ g) λj b v F E=>?_
 grind [HK,FQ,D.cells]
theorem Pm [Inhabited f] (l:List f) (j:Nat):l[j]! =(l[j]?).getD default:=List.getElem!_eq_getElem?_getD
theorem LF:∀w O a v,AR w O a (.d (.raw (.func (.func g) #[] #[]))) v ->v= .func (.func g) #[] #[]:=λw O a v h=>by
 cases h with
 | d h=>cases h with
  | raw _=>rfl
theorem Lz (L:SlLaysF0.n6 P ρr) {k:Nat} (hk:0<k) (aE:∀w,(isAgg (ρr.t 24)).run P w= .ok true w) (zE:∀w,(Go.sizeOf (ρr.t 24)).run P w= .ok k w) {E:TypeId} {g6:FuncId} {fn:Func} (hfn:P.funcs[g]? =some fn) (hnm:(fn.name== "runtime.NumGoroutine")=false) {r:Code} (hbody:fn.body=some r)
 (M:∀x,∃cs,c x= .agg cs) (cf:τ ->τ ->Int) (hO:SWO (ltOf cf)) (t ys0:List τ) (hsz:t.length<4611686018427387904) (hc:∀x∈t,∀y∈t,AK P g [.d (c x),.d (c y)] (.raw (.int .i64 (cf x y))))
  (hu:∀ys:List τ,ys.Perm t ->ys.Pairwise (λa b=>¬cf b a<0) ->ys=ys0)
 {d:Nat} {x y:Operand} {ty:TypeId} {pos:String} {aft:Array Edge} {gd:Option (Nat×Bool)} {at_:Array TypeId} {f:Nat} {fa:AV} {row:List D} {Y:Hp}
  (hg:ρr.f 6=g6) (R:s.ev x=some (.own f 0 h)) (hy:s.ev y=some fa) (hfa:∀w O U v,AR w O U fa v ->v= .func (.func g) #[] #[]) (ho:dr s.hp f 0=some (.rowD E k row)) (hrow:row=t.map c) (hn:h=t.length) (hh:BL s.hp f 0 (.rowD E k (ys0.map c))=some Y) (hd:Nat.blt d s.n=true):
  AH P F ⟨some d,.call {callee:= .value (.func g6),args:= #[x,y],argTypes:=at_},ty,pos,aft,gd⟩ s ⟨s.n,(d,.d (.tup []))::s.env,Y⟩ (λ_ _=>true):=by
 subst hg hrow hn;intro U act w hs
 obtain ⟨fn6,hf1,hf2,hf3⟩:∃fn,P.funcs[ρr.f 6]? =some fn/\(fn.name== "runtime.NumGoroutine")=false/\fn.body.isSome=true:=by
  obtain ⟨nm,hn,hf⟩:=L.f6;exact ⟨_,hf,hn,Z⟩
 unfold Oper.wp;rw [show (#[x,y]:Array Operand)=[x,y].toArray from rfl,Cj hf1 hf2 hf3,Oper.upon_enter]
 suffices key:Calls P (ρr.f 6) ([x,y].map act.eval).toArray w λe w'=>e= .returned (.tuple #[])/\SR F ⟨s.n,s.env,Y⟩ U act w' by
  refine key.mono λe w' ⟨Q,hsr⟩=>?_;subst Q;exact ⟨U,hsr.put (IB hd) (.d (.tup Z λi r v hc=>by cases hc)),λ_ _ _=>rfl⟩
 have r0:=hs.ev R;have r1:=hfa _ _ _ _ (hs.ev hy);have hg0:=ho;have h3:=hs.heap;have W:=Ai hh;obtain ⟨V,q1,q2,q3⟩:=h3.sim f 0 _ hg0;show Calls P (ρr.f 6) #[act.eval x,act.eval y] w _;rw [r1]
 generalize act.eval x=V0 at r0
 cases r0 with
 | own hρ hle=>
  rename_i N J a
  by_cases R:t=[]
  .subst R;refine (AnyF.slices_SortFunc_none L a J _ w).mono λe w' ⟨Q,e2⟩=>?_;subst Q e2;refine ⟨Z,hs.writeG f 0 _ _ ho W Z Z Z (ϖ _) (ϖ _) (λ_ _ _=>rfl) (λ_ _ e=>by cases e) λhrep=>?_⟩;rw [<-hu [] (List.Perm.refl _) List.Pairwise.nil];exact ⟨V,q1,⟨by simpa using q2.1,λx R=>(by cases R),λi x R=>by simp at R⟩,λx R=>(by cases R)⟩
  .have hn:0<t.length:=ic.2 R;have hul:V.length=t.length*k:=by have:=q2.1;rwa [ψ] at this
   have hblkeq:∃b H,a=some ⟨b,0,none⟩/\w.heap[b]? =some (.cells H E (0,0))/\H.size=N*0+J*k/\t.length<=J/\J<=maxLen/\H.toList.take (t.length*k)=V/\N=t.length:=by
    rcases q1.2 with ⟨_,l⟩ | ⟨b,cap',H,Q,_,e2,e3,e4,e5,e6⟩
    .rw [ψ] at l;omega
    .rw [hρ] at Q;injection Q with Q e7 e8
     subst Q e8;rw [ψ] at e3 e6 e7;exact ⟨b,H,Z,e2,by omega,e3,e4,e6,e7⟩
   obtain ⟨b,H,rfl,p1,p2,p3,p3',p4,rfl⟩:=hblkeq;have hb:B6 (U f 0)=some b:=by rw [hρ];rfl
   have hOb:F.O U s.hp b:= .inr ⟨f,0,_,hg0,hb⟩;have hlt:b<w.heap.size:=(gr.1 p1).1;have hOl:∀C,F.O U s.hp C ->C<w.heap.size:=λC l=>h3.ltO l
   let x0:τ:=t[0]
   let ix:Nat ->Nat:=λi=>if i<t.length then i else 0
   let el:Nat ->τ:=λi=>(t[ix i]?).getD x0
   have hel:∀i,el i∈t:=λi=>by
    have hix:ix i<t.length:=by show (if _ then _ else _)<_;split<;>omega
    show (t[ix i]?).getD x0∈t;rw [ω hix];exact ξ hix
   let A:Nat ->List Value:=HK V k t.length
   let cf':Nat ->Nat ->Int:=λi j=>cf (el i) (el j)
   have hO':SWO (ltOf cf'):=⟨λx=>hO.irrefl (el x),λx y z=>hO.trans (el x) (el y) (el z),λx y z=>hO.ntrans (el x) (el y) (el z)⟩
   have hlen:∀x,(A x).length=k:=λx=>LN hn hul
   have hus1:∀v∈V,v.oneCell'=true:=λv S=>by
    obtain ⟨j,K⟩:=List.getElem?_of_mem S;have hj':j<t.length*k:=by rw [<-hul];exact (φ.1 K).1
    have hd:j / k<t.length:=Nat.div_lt_of_lt_mul (by rw [ig];exact hj');have hm:(t.map c)[j / k]? =some (c t[j / k]):=by rw [η,ω hd];rfl
    have hck:=q2.2.1 _ (ϑ hm);have hjm:j % k<(c t[j / k]).cells.length:=by rw [hck];exact Nat.mod_lt _ hk
    obtain ⟨u,hu,hu1,_⟩:=q2.2.2 _ _ hm (j % k) _ (ω hjm);rw [show j / k*k+j % k=j by rw [ig];exact Nat.div_add_mod j k,K] at hu;injection hu with hu;subst hu;exact hu1
   have henc1:∀x,∀v∈A x,v.oneCell'=true:=λx v S=>hus1 v (List.mem_of_mem_drop (gk S));have hd0:∀i,i<t.length ->(Array.range t.length)[i]! =i:=λi hi=>by rw [getElem!_pos _ i (by simpa using hi)];simp
   have hH:HoldsK A k w b 0 (Array.range t.length):=by
    intro j K;simp only [Go.Sort.size_flatK,ik] at K;have hd:j / k<t.length:=Nat.div_lt_of_lt_mul (by rw [ig];exact K);have hm:j % k<k:=Nat.mod_lt _ hk;refine ⟨?_,?_⟩
    .rw [Go.Sort.get_flatK _ _ _ _ (by simpa using K),hd0 _ hd,Pm,ZC hn hd hm,show j / k*k+j % k=j by rw [ig];exact Nat.div_add_mod j k];have hj2:j<V.length:=by omega
     have hju:V[j]? =H.toList[j]?:=by rw [<-p4,ii K]
     simp only [World.cell?,p1,gf];rw [hju]
     have hjc:j<H.size:=by
      have:=(φ.1 (hju▸ω hj2)).1
      simpa using this
     simp [hjc]
    .simp only [World.frozen?,p1]
     simp
   have hcmp:CmpLays P g #[] A k cf' b 0 (Array.range t.length).size w:=by
    intro m os dk _ x y;have hW:∀C,C<w.heap.size ->¬F.O U s.hp C ->(sortWorldK A k w b 0 m dk os).heap[C]? =w.heap[C]?:=λC hl hno=>uR (λe=>hno (e▸hOb)) hl;have T:w.heap.size<=(sortWorldK A k w b 0 m dk os).heap.size:=size_sortWorldK_c _ _ _ _ _ _ _ _;have ra:=(Kf R q2 q3 M x0 x).mono T hW (λ_ _ l=>l);have rb:=(Kf R q2 q3 M x0 y).mono T hW (λ_ _ l=>l)
    refine (QZ (hc (el x) (hel x) (el y) (hel y)) (w:=sortWorldK A k w b 0 m dk os) (λC l=>hU (hOl C l) T) (vs:=[.agg (A x).toArray,.agg (A y).toArray]) Z (λi a v ha S=>?_)).mono λe w' ⟨v,Q,e2,e3,e4,e5⟩=>⟨?_,Nl e3 e4 e5⟩
    .match i,ha,S with
     | 0,ha,S=>injection ha with ha;injection S with S;subst ha S;exact .d ra
     | 1,ha,S=>injection ha with ha;injection S with S;subst ha S;exact .d rb
    .cases e2 with
     | raw _=>exact Q
   have eg:∀args w,(callFunc g args).run P w= .ok (.enter g args) w:=enters_of hfn hnm hbody;have key:=AnyQ.slices_SortFunc L k aE zE A hlen henc1 cf' hO' g #[] b 0 J (Array.range t.length) w eg hcmp hH hlt (by simpa using hsz);rw [ik] at key;refine key.mono λe w' ⟨Q,I,h,os,hp,hsort,hw⟩=>?_;subst Q hw;obtain ⟨s1,_,s3⟩:=hp;rw [ik] at s1
   have X:I.toList.Perm (List.range t.length):=by
    have Q:I.extract 0 t.length=I:=by rw [<-s1];exact Array.extract_size
    have e2:(Array.range t.length).extract 0 t.length=Array.range t.length:=by
     conv=>lhs;arg 3;rw [<-ik (n:=t.length)]
     exact Array.extract_size
    rw [Q,e2] at s3
    simpa using s3
   have hmem:∀i,i<t.length ->I[i]!<t.length:=λi hi=>by
    have:I[i]!∈I.toList:=by rw [getElem!_pos _ i (by omega)];exact Array.getElem_mem_toList (by omega)
    exact Θ.1 (X.mem_iff.1 this)
   refine ⟨Z,?_⟩
   have hys:I.toList.map el=ys0:=by
    apply hu
    .refine (X.map el).trans (List.Perm.of_eq ?_)
     apply gu (by simp)
     intro i h5 h6;simp only [ft,List.getElem_range];show (t[ix i]?).getD x0=_;rw [show ix i=i from ϱ h6,ω h6];rfl
    .rw [gc];intro i j hi K hij;simp only [ψ,ib] at hi K;have:=hsort i j (υ _) hij (by omega);rw [getElem!_pos _ j K,getElem!_pos _ i hi] at this;simp only [ltOf,decide_eq_false_iff_not] at this
     simpa using this
   have T:w.heap.size<=(sortWorldK A k w b 0 h I os).heap.size:=size_sortWorldK_c _ _ _ _ _ _ _ _;have G:((I.toList.map el).map c).length=t.length:=by simp [s1]
   refine hs.writeG f 0 _ _ ho W Z Z Z T (Nat.le_add_right _ _) (λC hl hno=>uR (λe=>hno (by rw [e];exact hb)) hl) (λ_ _ e=>by cases e) λhrep=>?_;rw [<-hys]
   have hO2:∀C,F.O U Y C ->F.O U s.hp C:=λC l=>l.imp id λ⟨g,i,o,h1,h2⟩=>by
    rw [W] at h1
    split at h1
    .rename_i e;obtain ⟨rfl,rfl⟩:=e;exact ⟨g,0,_,hg0,h2⟩
    .exact ⟨g,i,o,h1,h2⟩
   have hW:∀C,C<w.heap.size ->¬F.O U s.hp C ->(sortWorldK A k w b 0 h I os).heap[C]? =w.heap[C]?:=λC hl hno=>uR (λe=>hno (e▸hOb)) hl;have hfs:(flatK A k I).size=t.length*k:=by rw [Go.Sort.size_flatK,s1]
   have hheap:(sortWorldK A k w b 0 h I os).heap[b]? =some (.cells (putCells id 0 (flatK A k I) H) E (0,0)):=by
    unfold sortWorldK;rw [Go.Sort.heap_grow_old _ _ (by rw [Go.Sort.size_putRowK];exact hlt)];show (w.heap.modify b _)[b]? =_;rw [iq,ϱ Z,p1];rfl
   have hcs:(putCells id 0 (flatK A k I) H).size=J*k:=by simp only [putCells,Array.size_mapIdx];omega
   have hle2:t.length*k<=J*k:=gz k p3;refine ⟨(flatK A k I).toList,⟨by rw [G,ib,hfs],.inr ⟨b,J,_,by rw [hρ,G],υ _,hheap,by rw [G];exact p3,p3',hcs,?_⟩⟩,⟨by rw [G,ib,hfs],λx B=>?_,λi x B j r hc2=>?_⟩,λx B r hc2=>?_⟩
   .rw [G]
    apply i8
    intro i
    by_cases hi:i<t.length*k
    .rw [ii hi,iE,iE,gS (by omega),gS (by omega)];simp only [putCells,Array.getElem_mapIdx];rw [ϱ ⟨υ _,by omega⟩];simp only [id,Nat.sub_zero];rw [getElem!_pos _ i (by omega)]
    .rw [iM (by rw [Ξ];omega),iM (by rw [ib];omega)]
   .rw [fS] at B;obtain ⟨i,_,rfl⟩:=κ.1 B;exact q2.2.1 _ (κ.2 ⟨_,hel i,Z⟩)
   .rw [η,η] at B
    cases fW:I.toList[i]? with
    | none=>rw [fW] at B;cases B
    | some q=>
     rw [fW] at B;injection B with B;subst B
     have hiq:=(φ.1 fW).1;rw [ib,s1] at hiq;have hq!:I[i]! =q:=by rw [getElem!_pos _ i (by omega)];rw [iE,gS (by omega)] at fW;injection fW
     have hck:(c (el q)).cells.length=k:=q2.2.1 _ (κ.2 ⟨_,hel q,Z⟩);have K:j<k:=by rw [<-hck];exact (φ.1 hc2).1
     have hr:=(Kf R q2 q3 M x0 q).mono (O':=F.O U Y) T hW (λC _=>hO2 C)
     change AN _ _ (c (el q)) _ at hr
     obtain ⟨cs,hcs2⟩:=M (el q);rw [hcs2] at hr hc2
     generalize hV:Value.agg (HK V k t.length q).toArray=Qqq at hr
     cases hr with
     | agg hl2 _ hall=>
      rename_i ws _
      injection hV with hV
      have hws:HK V k t.length q=ws:=by simpa using hV
      subst hws;have hjl:j<(HK V k t.length q).length:=by rw [LN hn hul];exact K
      refine ⟨(HK V k t.length q)[j],?_,henc1 q _ (ξ hjl),hall j r _ hc2 (ω hjl)⟩
      have hlt3:i*k+j<t.length*k:=by
       have:=gz k (Nat.succ_le_of_lt hiq);rw [Nat.succ_mul] at this;omega
      rw [iE,gS (by omega)];have hgf:=Go.Sort.get_flatK A k I (i*k+j) (by rw [s1];exact hlt3);rw [getElem!_pos _ _ (by omega)] at hgf;rw [hgf,show (i*k+j) / k=i by rw [ig,Nat.mul_add_div hk,Nat.div_eq_of_lt K];rfl,show (i*k+j) % k=j by rw [ig,Nat.mul_add_mod,Nat.mod_eq_of_lt K],hq!,Pm];show some ((HK V k t.length q)[j]?.getD default)=_;rw [ω hjl];rfl
   .rw [fS] at B;obtain ⟨i,_,rfl⟩:=κ.1 B;exact q3 _ (κ.2 ⟨_,hel i,Z⟩) r hc2
end
end Go.Proofs.YteifpcnphnhaoaaGreat
