import Derived.Test.YteifpcnphnhaoaaGreatMg5
import Derived.Orders
namespace Go.Proofs.YteifpcnphnhaoaaGreat
open Go.RowKit
variable{a:Nat->Nat->Bool}{c:Type}{f:List (Nat×AV)}{t:Nat}{R:List (List (Nat×c))}{g:List (Nat×Option (List AL))}{h:Nat->c}{i:List (List Nat)}{j:Type}{k:List (Nat×Option AV)}{o:Hp}{s:List (Nat×c)}{u:List AL}{w:List j}{K:Act->World->Prop}{x:Nat}{y:World}{z A:Nat}{P:Program}{C F:j}{G:Nat}{H:Oper}{I:Nat->Bool}{L:Act}{M:AL}{N:AV}{S:Nat}
def Bn{α:Type}:List (Nat×α)->Nat->Option α
 | [],_=>none
 | (k,a)::r,t=>match Nat.beq k t with
  | true=>some a
  | false=>Bn r t
def GS{α:Type}(base:Nat->α)(L:Nat->Bool):List (List (Nat×α))->Nat->α
 | [],t=>base t
 | ws::r,t=>match L r.length with
  | true=>(Bn ws t).getD (GS base L r t)
  | false=>GS base L r t
theorem Ij(h:w.reverse[z]? =some C):(F::w).reverse[z]? =some C:=by grind
theorem N0:(F::w).reverse[w.length]? =some F:=by simp
theorem jr(h:(F::w).reverse[z]? =some C):w.reverse[z]? =some C\/(z=w.length/\C=F):=by grind
theorem MY{r:List j}(h:r.reverse[z]? =some C):z<r.length:=by grind
theorem Gz{L:Nat->Bool}(a:∀k b,R.reverse[k]? =some b->Bn b t≠none->L k=I k):GS h L R t=GS h I R t:=by
 induction R with
 | nil=>rfl
 | cons b r g=>
  have f:=g λk b j i=>a k b (Ij j) i;simp only[GS]
  grind
theorem Ol{A a:List (List (Nat×c))}:GS h (λk=>decide (k<a.length)) (A++a) t=GS h (λ_=>true) a t:=by
 induction A with
 | nil=>exact Gz λk f b _=>by have:=MY (r:=a) b;simp[this]
 | cons x r g=>
  grind[GS]
theorem ke{base:Nat->c}{L:Nat->Bool}{R:List (List (Nat×c))}{t:Nat}:(GS base L R t=base t/\∀k b,R.reverse[k]? =some b->Bn b t≠none->L k=false)\/∃k b,R.reverse[k]? =some b/\L k=true/\Bn b t=some (GS base L R t):=by
 induction R with
 | nil=>exact .inl ⟨Z,λk b h=>by simp at h⟩
 | cons b r o=>
  cases hL:L r.length with
  | false=>
   grind[GS]
  | true=>
   cases hw:Bn b t with
   | some a=>
    have e:GS base L (b::r) t=a:=by simp only[GS,hL,hw,Option.getD_some]
    exact .inr ⟨r.length,b,N0,hL,by rw[e];exact hw⟩
   | none=>
    have e:GS base L (b::r) t=GS base L r t:=by simp only[GS,hL,hw,Option.getD_none]
    rw[e];rcases o with ⟨j,i⟩ | ⟨k,f,j,i,s⟩
    .refine .inl ⟨j,λk f g l=>?_⟩;rcases jr g with g | ⟨rfl,rfl⟩
     .exact i k f g l
     .exact absurd hw l
    .exact .inr ⟨k,f,Ij j,i,s⟩
theorem Ok{L:Nat->Bool}{i:Nat}{ws:List (Nat×c)}(v:R.reverse[i]? =some ws)(y:L i=false)(l:∀k,I k=if k=i then true else L k)(g:Bn ws t≠none->∀k f,R.reverse[k]? =some f->i<k->L k=true->Bn f t=none):GS h I R t=(Bn ws t).getD (GS h L R t):=by
 induction R with
 | nil=>simp at v
 | cons x r w=>
  rcases jr v with j | ⟨rfl,rfl⟩
  .have s:r.length≠i:=by have:=MY j;omega
   have b:=w j λo k f u=>g o k f (Ij u);simp only[GS,l,ν s]
   cases hLr:L r.length with
   | false=>exact b
   | true=>
    cases o:Bn ws t with
    | none=>rw[o] at b;simp only[Option.getD_none] at b⊢;rw[b]
    | some a=>
     rw[g (by rw[o];simp) r.length x N0 (MY j) hLr];rw[o] at b
     simpa using b
  .simp only[GS,l,if_true,y]
   congr 1
   refine Gz λk f u _=>?_;rw[l,ν (by have:=MY u;omega)]
structure Rc where
 rd:List Nat
 ws:List (Nat×Option AV)
 nm:List Nat
 fs:List (Nat×Option (List AL))
 eff:Bool
 ok:Nat->Nat->Bool
def HY{α:Type}(ws:List (Nat×α)):List Nat->Bool
 | []=>true
 | t::r=>(match Bn ws t with
  | none=>true
  | some _=>false) && HY ws r
theorem Ej{l:List Nat}(h:HY s l=true){t:Nat}(b:t∈l):Bn s t=none:=by
 induction l with
 | nil=>cases b
 | cons a r f=>
  grind[HY]
def P8{α:Type}:List (Nat×α)->List Nat
 | []=> []
 | (k,_)::r=>k::P8 r
theorem VO(h:Bn s t≠none):t∈P8 s:=by
 induction s with
 | nil=>exact absurd Z h
 | cons p r a=>
  grind[Bn,ki,P8]
def yP(p:Nat->Nat->Bool):AL->Bool
 | .blk _ cs=>ux p cs
 | .row _ _ xs=>xs.all λx=>aw p x.cells
 | .rowD _ _ _=>true
 | .loop L=>N8 p L.env
 | .map _ _=>true
 | .iter f i _ _=>p f i
 | .addr f i _=>p f i
 | .any=>true
 | .nb _ _ _=>true
 | .nr _ _ _ _ _=>true
 | .nm _ _ _=>true
 | .itz=>true
 | .multi _=>true
def Us(p:Nat->Nat->Bool):List AL->Bool
 | []=>true
 | o::r=>yP p o && Us p r
theorem fL(h:yP a M=true)(g:M.Refs G A):a G A=true:=by
 cases M with
 | blk t B=>obtain ⟨c,j,g⟩:=g;exact PX h j g
 | row t k s=>obtain ⟨x,v,c,j,g⟩:=g;exact GE (mo.1 h x v) j g
 | rowD t k s=>exact g.elim
 | loop L=>obtain ⟨t,b,w,g⟩:=g;exact PW h w g
 | map _ z=>exact g.elim
 | iter y u _ _=>obtain ⟨r,l⟩:=g;subst r l;exact h
 | addr y u _=>obtain ⟨r,l⟩:=g;subst r l;exact h
 | any=>exact g.elim
 | nb _ _ _=>exact g.elim
 | nr _ _ _ _ _=>exact g.elim
 | nm _ _ _=>exact g.elim
 | itz=>exact g.elim
 | multi _=>exact g.elim
theorem av(h:Us a u=true)(c:M∈u)(j:M.Refs G A):a G A=true:=by
 induction u with
 | nil=>cases c
 | cons b r g=>
  grind[Us,fL]
def XX(p:Nat->Nat->Bool)(ex:List (Nat×Option AV)):List (Nat×Option AV)->Bool
 | []=>true
 | (t,a)::r=>(match Bn ex t with
  | some _=>true
  | none=>match a with
   | none=>true
   | some a=>a.ok p) && XX p ex r
theorem R9{f:List (Nat×Option AV)}(h:XX a k f=true)(g:Bn f t=some (some N))(j:Bn k t=none):N.ok a=true:=by
 induction f with
 | nil=>cases g
 | cons q r i=>
  obtain ⟨c,b⟩:=q;simp only[XX,kO] at h
  grind[Bn,ki]
def XY(p:Nat->Nat->Bool)(ex:List (Nat×Option (List AL))):List (Nat×Option (List AL))->Bool
 | []=>true
 | (t,a)::r=>(match Bn ex t with
  | some _=>true
  | none=>match a with
   | none=>true
   | some l=>Us p l) && XY p ex r
theorem Ra{c:List (Nat×Option (List AL))}(h:XY a g c=true)(f:Bn c t=some (some u))(j:Bn g t=none):Us a u=true:=by
 induction c with
 | nil=>cases f
 | cons q r i=>
  obtain ⟨k,b⟩:=q;simp only[XY,kO] at h
  grind[Bn,ki]
def wP(p:Nat->Nat->Bool)(ex:List (Nat×Option AV)):List Nat->List (Nat×AV)->Bool
 | _,[]=>true
 | ks,(t,a)::r=>(match iB t ks with
  | true=>true
  | false=>match Bn ex t with
   | some _=>true
   | none=>a.ok p) && wP p ex (t::ks) r
theorem fN{g:List Nat}(h:wP a k g f=true)(i:get f t=some N)(l:t∉g)(s:Bn k t=none):N.ok a=true:=by
 induction f generalizing g with
 | nil=>cases i
 | cons q r o=>
  obtain ⟨c,b⟩:=q;simp only[wP,kO] at h;rcases NP i with ⟨rfl,rfl⟩ | ⟨j,i⟩
  .have:iB c g=false:=by
    cases hm:iB c g with
    | false=>rfl
    | true=>exact absurd (Gc.1 hm) l
   grind
  grind
def wO(p:Nat->Nat->Bool)(ex:List (Nat×Option (List AL))):Hp->Bool
 | []=>true
 | (f,l)::r=>(match Bn ex f with
  | some _=>true
  | none=>Us p l) && wO p ex r
theorem fM(h:wO a g o=true)(b:dr o G=some u)(i:Bn g G=none):Us a u=true:=by
 induction o with
 | nil=>cases b
 | cons q r c=>
  grind[wO,dr,ki]
def PP(ord:Bool)(rj ri:Rc):Bool:=
 (ord || (HY rj.ws ri.rd &&(HY rj.ws (P8 ri.ws) &&(HY ri.ws rj.rd &&(HY rj.fs ri.nm && HY ri.fs rj.nm))))) &&
 ((!ri.eff || (XX ri.ok ri.ws rj.ws && XY ri.ok ri.fs rj.fs)) &&(ord || (!rj.eff || (XX rj.ok rj.ws ri.ws && XY rj.ok rj.fs ri.fs))))
def ja:List (List Nat)->Nat->List Nat
 | [],_=> []
 | l::_,0=>l
 | _::r,i+1=>ja r i
def O4(pr:List Nat)(lo:Nat)(ri:Rc):List Rc->Bool
 | []=>true
 | rj::r=>PP (iB (lo+r.length) pr) rj ri && O4 pr lo ri r
def JP(pre:List (List Nat))(lo:Nat)(env:List (Nat×AV))(hp:Hp):List Rc->Bool
 | []=>true
 | ri::r=>O4 (ja pre (lo+r.length)) lo ri r &&((!ri.eff || (wP ri.ok ri.ws [] env && wO ri.ok ri.fs hp)) && JP pre lo env hp r)
variable{E Q:Rc}
theorem Th{b:List Nat}{r:List Rc}(h:O4 b x E r=true)(c:r.reverse[S]? =some Q):PP (iB (x+S) b) Q E=true:=by
 induction r with
 | nil=>simp at c
 | cons a r f=>
  grind[O4]
variable{B:List Rc}
theorem Ga(h:JP i x f o B=true)(c:B.reverse[A]? =some E)(k:B.reverse[S]? =some Q)(b:S<A):PP (iB (x+S) (ja i (x+A))) Q E=true:=by
 induction B with
 | nil=>simp at c
 | cons a r g=>
  grind[JP,jr,Th]
theorem Nm(h:JP i x f o B=true)(b:B.reverse[A]? =some E)(g:E.eff=true):wP E.ok E.ws [] f=true/\wO E.ok E.fs o=true:=by
 induction B with
 | nil=>simp at b
 | cons a r c=>
  grind[JP]
def RZ(ops:List Oper)(pre:List (List Nat)):List (List Nat)->List Oper->Nat->Bool
 | [],[],_=>true
 | l::ls,o::os,i=>(l.all λx=>o.after.toList.any λe=>Region.binds .any e &&(Nat.beq e.on x || iB x (ja pre e.on))) &&((o.after.toList.all λe=>!Region.binds .any e || Nat.blt e.on i) && RZ ops pre ls os (i+1))
 | _,_,_=>false
def Gx(P:Program)(ops:Array Oper)(o:Oper)(K:Act->World->Prop)(a:Act)(w:World):Prop:=
 if Region.wanted o (yielded ops a.tmps) then o.wp P a w K (λ_ _ _=>False) else K (a.put o.dst undef) w
theorem H6{b:Array Oper}{c:Act->World->Prop}(f:∀L y,K L y->c L y)(h:Gx P b H K L y):Gx P b H c L y:=by grind[Gx,qk]
theorem s0(h:H.wp P L y K (λ_ _ _=>False)):H.wp P L y (λc g=>K c g/\∃v,c.tmps=(L.put H.dst v).tmps) (λ_ _ _=>False):=by
 unfold Oper.wp at h⊢
 generalize (execOp L.eval H).run P y=r at h
 cases r with
 | ok x y=>
  cases x with
  | value v=>exact ⟨h,v,Z⟩
  | skip=>exact ⟨h,_,Z⟩
  | defer d=>
   refine ⟨h,undef,?_⟩
   cases H.dst<;>rfl
  | enter f b=>
   grind[Oper.upon_enter]
  | row r b=>
   grind[Oper.upon_row]
  | _=>exact h.elim
 | halt x y=>
  cases x<;>exact h.elim
abbrev MI:=Nat->Option (List AL)->Prop
abbrev C0:MI:=λ_ _=>True
def JX(P:Program)(ops:Array Oper)(n:Nat)(o:Oper)(rc:Rc)(C:MI)(kc:Nat->Option AV)(kd:Nat->Option (List AL)):Prop:=
 ∀F ρ act w env hp,SR F ⟨n,env,hp⟩ ρ act w->(∀f,C f (dr hp f))->(∀t∈rc.rd,get env t=kc t)->(∀f∈rc.nm,dr hp f=kd f)→
  (rc.eff=true->∀t a,get env t=some a->Bn rc.ws t=none->a.ok rc.ok=true)->(rc.eff=true->∀f l,dr hp f=some l->Bn rc.fs f=none->Us rc.ok l=true)→
  Gx P ops o (λact' w'=>∃ρ' env' hp',SR F ⟨n,env',hp'⟩ ρ' act' w'/\(∀t,get env' t=(Bn rc.ws t).getD (get env t))/\∀f,dr hp' f=(Bn rc.fs f).getD (dr hp f)) act w
def JZ(P:Program)(F:Fr)(ops:Array Oper)(o:Oper)(s:AS)(d:Nat)(a:AV):Prop:=d<s.n/\∀ρ act w,SR F s ρ act w→
 Gx P ops o (λact' w'=>∃v,act'=act.put (some d) v/\A8 w' (F.O ρ s.hp) ρ a v/\(w'.os=w.os/\w'.tape=w.tape/\w'.output=w.output/\F.w0.drawn<=w'.drawn)/\w.heap.size<=w'.heap.size/\∀b,b<w.heap.size->w'.heap[b]? =w.heap[b]?) act w
def jY(P:Program)(F:Fr)(ops:Array Oper)(o:Oper)(s s':AS)(p:Nat->Nat->Bool):Prop:=∀ρ act w,SR F s ρ act w→
 Gx P ops o (λact' w'=>∃ρ',SR F s' ρ' act' w'/\(∃v,act'.tmps=(act.put o.dst v).tmps)/\∀f i,p f i=true->ρ' f i=ρ f i) act w
theorem Bj.stay{F:Fr}{r:Nat->Nat->Value}{g:World}(h:Bj F o r y)(j:g.os=y.os/\g.tape=y.tape/\g.output=y.output/\F.w0.drawn<=g.drawn)(l:y.heap.size<=g.heap.size)(k:∀b,b<y.heap.size->g.heap[b]? =y.heap[b]?):Bj F o r g:=by
 refine ⟨λf i a j=>?_,h.inj,λb k=>⟨li (h.mine b k).1 l,(h.mine b k).2⟩,j.1.trans h.os,j.2.1.trans h.tape,j.2.2.1.trans h.output,jp h.size0 l,λb c t=>?_,h.pins,j.2.2.2⟩
 .exact (h.sim f i a j).mono l (λb c _=>k b c) (λ_ _ h=>h) (λb s=>k b (h.mine b ⟨f,i,a,j,s⟩).1) λ_ _ _=>rfl
 .rw[k b (li c h.size0)];exact h.keep b c t
theorem KX{b:Hp}{c:List Nat}(h:Be o c=some b):A6 c b=true/\∀g,g∈c->dr b g=dr o g:=by
 have i:∀(c:List Nat) (b:Hp),Be o c=some b->(∀g l,(g,l)∈b->g∈c)/\∀g,g∈c->dr b g=dr o g:=by
  intro c
  induction c with
  | nil=>intro b h;simp only[Be,Option.some.injEq] at h;subst h;exact ⟨(λg l h=>by cases h),(λg h=>by cases h)⟩
  | cons a r j=>
   intro b h;simp only[Be] at h
   split at h
   .cases h
   .rename_i l v
    obtain ⟨s,t⟩:=j l v
    split at h
    .rename_i u
     injection h with h;subst h
     refine ⟨λg x f=>kw _ (s g x f),λg f=>?_⟩;rcases jt.1 f with rfl | f
     .by_cases w:g∈r
      .grind
      .rw[u]
       cases hh:dr l g with
       | none=>rfl
       | some x=>
        have:∀(l:Hp) x,dr l g=some x->∃y,(g,y)∈l:=by
         intro l
         induction l with
         | nil=>intro x h;cases h
         | cons p q j=>
          grind[dr,ki]
        grind
     grind
    grind[dr,ki,lz]
 obtain ⟨s,t⟩:=i c b h;refine ⟨?_,t⟩
 clear h t i
 induction b with
 | nil=>rfl
 | cons p r j=>
  obtain ⟨k,l⟩:=p;simp only[A6,kO];exact ⟨Gc.2 (s k l k7),j λg l f=>s g l (kw _ f)⟩
theorem Fk{hp CH:Hp}{nm:List Nat}(h:∀g,g∈nm->dr hp g=dr CH g):C1 hp CH nm:=by
 induction nm with
 | nil=>trivial
 | cons a r b=>exact ⟨h a k7,b λg c=>h g (kw _ c)⟩
theorem PN{b:List (Nat×AV)}{rd:List Nat}{l:List (Nat×AV)}(c:pick b rd=some l):∀t a,get l t=some a->t∈rd/\get b t=some a:=by
 induction rd generalizing l with
 | nil=>intro t a f;simp only[pick,Option.some.injEq] at c;subst c;cases f
 | cons x r g=>
  intro t a f;simp only[pick] at c
  grind[NP,get]
section
variable{P:Program}{ops:Array Oper}{n:Nat}{o:Oper}
variable{a:List Nat}{c f:Nat->Nat->Bool}{g i:List (Nat×AV)}{j:AV}{C:MI}{k s t:Hp}{u w:Nat}
theorem JX.pure{rd J:List Nat}{l i:List (Nat×AV)}{u y:Hp}{d:Nat}{a:AV}{kc:Nat->Option AV}{kd:Nat->Option (List AL)}(T:pick i rd=some l)(U:Be y J=some u)(V:∀t a,get i t=some a->kc t=some a)(W:∀f,dr y f=kd f){C:MI}(h:∀F,JZ P F ops o ⟨n,l,u⟩ d a):JX P ops n o ⟨rd,[(d,some a)],J,[],false,λ_ _=>true⟩ C kc kd:=by
 intro F r B w k E c _ Y X _ _;obtain ⟨S,R⟩:=KX U;obtain ⟨A,Q,I⟩:=Fj F.lo c.heap J (Fk λg N=>by rw[X g N,<-W,R g N]) S;have z:=PN T
 have L:SR (Bz F F.lo E u r w A) ⟨n,l,u⟩ r B w:=by
  refine ⟨c.size,I▸c.defs,λt x K=>?_,Q⟩;obtain ⟨e1,e2⟩:=z t x K;rw[I];exact c.env t x (by show get k t=some x;rw[Y t e1];exact V t x e2)
 obtain ⟨g0,Z⟩:=h (Bz F F.lo E u r w A);refine H6 ?_ (Z r B w L);rintro O w' ⟨v,rfl,M,D,H,G⟩;refine ⟨r,(d,a)::k,E,SR.put (s:=⟨n,k,E⟩) ⟨c.size,c.defs.mono H (λb j _=>G b j) (λ_ _ h=>h),λt x K=>(c.env t x K).mono H (λb j _=>G b j) (λ_ _ h=>h) (λ_ _ _=>rfl),c.heap.stay ⟨D.1,D.2.1,D.2.2.1,jp c.heap.drawn D.2.2.2⟩ H G⟩ g0 (by rw[I] at M;exact M),λt=>?_,λf=>rfl⟩;simp only[Bn,get]
 grind
theorem JX.pure2{rd j:List Nat}{l y:List (Nat×AV)}{k I:Hp}{d f:Nat}{c1 c2:List AL}{a:AV}{kc:Nat->Option AV}{kd:Nat->Option (List AL)}(hl:pick y rd=some l)(hh:Be I j=some k)(hf:iB f j=false)(hS:∀t a,get y t=some a->kc t=some a)(hF:∀f,dr I f=kd f){C:MI}(hC:∀x,C f x->x=some c1\/x=some c2)(h1:∀F,JZ P F ops o ⟨n,l,(f,c1)::k⟩ d a)(h2:∀F,JZ P F ops o ⟨n,l,(f,c2)::k⟩ d a):JX P ops n o ⟨rd,[(d,some a)],j,[],false,λ_ _=>true⟩ C kc kd:=by
 intro F G E w u B i hCf g1 g2 g3 g4;obtain ⟨p1,p2⟩:=KX hh;have hfn:f∉j:=λhm=>by rw[Gc.2 hm] at hf;cases hf
 have S:∀c,dr B f=some c->(∀F,JZ P F ops o ⟨n,l,(f,c)::k⟩ d a)->Gx P ops o (λA X=>∃N z J,SR F ⟨n,z,J⟩ N A X/\(∀t,get z t=(Bn [(d,some a)] t).getD (get u t))/\∀f,dr J f=(Bn ([]:List (Nat×Option (List AL))) f).getD (dr B f)) E w:=λc hc h=>by
  have W:C1 B ((f,c)::k) (f::j):=Fk λg Z=>by
   rcases jt.1 Z with rfl | Z
   .simp[dr,hc]
   grind[dr,I9]
  have V:A6 (f::j) ((f,c)::k)=true:=by
   simp only[A6,kO];refine ⟨Gc.2 k7,?_⟩
   have S:∀(H:Hp),A6 j H=true->A6 (f::j) H=true:=by
    intro H
    induction H with
    | nil=>intro _;rfl
    | cons p r ih=>
     grind[A6,iB]
   grind
  obtain ⟨L,q1,R⟩:=Fj F.lo i.heap (f::j) W V;have K:=PN hl
  have U:SR (Bz F F.lo B ((f,c)::k) G w L) ⟨n,l,(f,c)::k⟩ G E w:=by
   refine ⟨i.size,R▸i.defs,λt x T=>?_,q1⟩;obtain ⟨e1,e2⟩:=K t x T;rw[R];exact i.env t x (by show get u t=some x;rw[g1 t e1];exact hS t x e2)
  obtain ⟨k0,k1⟩:=h (Bz F F.lo B ((f,c)::k) G w L);refine H6 ?_ (k1 G E w U);rintro A X ⟨v,rfl,Y,M,Q,O⟩;refine ⟨G,(d,a)::u,B,SR.put (s:=⟨n,u,B⟩) ⟨i.size,i.defs.mono Q (λb D _=>O b D) (λ_ _ h=>h),λt x T=>(i.env t x T).mono Q (λb D _=>O b D) (λ_ _ h=>h) (λ_ _ _=>rfl),i.heap.stay ⟨M.1,M.2.1,M.2.2.1,jp i.heap.drawn M.2.2.2⟩ Q O⟩ k0 (by rw[R] at Y;exact Y),λt=>?_,λf=>rfl⟩;simp only[Bn,get]
  grind
 grind
def AV.okK(ok:Nat->Nat->Bool)(b:Bool):AV->Bool
 | .top=>!b
 | a=>a.ok ok
theorem AV.okK_eq{b:Bool}(h:j≠ .top):j.okK c b=j.ok c:=by
 cases j<;>first | rfl | exact absurd rfl h
def Hr(ok:Nat->Nat->Bool)(xs:List Nat):List Nat->List (Nat×AV)->List (Nat×AV)
 | _,[]=> []
 | ks,(t,a)::r=>match iB t ks,a.okK ok (iB t xs) with
  | false,false=>(t,.top)::Hr ok xs (t::ks) r
  | _,_=>Hr ok xs (t::ks) r
variable{h:List (Nat×AV)}
theorem LU{g ks:List Nat}{t:Nat}:get (Hr c g ks h) t=match iB t ks,get h t with
  | false,some a=>match a.okK c (iB t g) with
   | true=>none
   | false=>some .top
  | _,_=>none:=by
 induction h generalizing ks with
 | nil=>simp only[Hr,get];cases iB t ks<;>rfl
 | cons q r l=>
  obtain ⟨k,b⟩:=q;have f:=l (ks:=k::ks);simp only[Hr]
  by_cases e:k=t
  .subst e;have i:iB k (k::ks)=true:=Gc.2 k7;rw[i] at f;have j:get ((k,b)::r) k=some b:=by simp only[get,lY]
   rw[j]
   cases h1:iB k ks with
   | true=>exact f
   | false=>
    cases h2:b.okK c (iB k g) with
    | true=>simp only[h2];exact f
    | false=>simp only[h2,get,lY]
  .have i:iB t (k::ks)=iB t ks:=by simp only[iB,I9 e,Bool.false_or]
   rw[i] at f;have j:get ((k,b)::r) t=get r t:=by simp only[get,I9 e]
   rw[j]
   split
   .simp only[get,I9 e];exact f
   .exact f
theorem X6{c:List (Nat×AV)}(b:CE f h=some c)(t:Nat):get c t=(get h t).map λa=>match a.ok f with
  | true=>a
  | false=> .top:=by
 induction h generalizing c with
 | nil=>simp only[CE,Option.some.injEq] at b;subst b;rfl
 | cons q r j=>
  obtain ⟨k,x⟩:=q;simp only[CE] at b
  split at b
  .cases b
  .rename_i s l
   have g:=j l
   split at b<;>(injection b with b;subst b)
   .rename_i i
    by_cases e:k=t
    .subst e;simp only[get,lY,lW,i]
    .simp only[get,I9 e];exact g
   .rename_i i
    by_cases e:k=t
    .subst e;simp only[get,lY,lW,i]
    .simp only[get,I9 e];exact g
def Zw:List (Nat×AV)->List (Nat×Option AV)
 | []=> []
 | (t,a)::r=>(t,some a)::Zw r
theorem ML(l:List (Nat×AV))(t:Nat):Bn (Zw l) t=(get l t).map some:=by
 induction l with
 | nil=>rfl
 | cons q r a=>
  grind[Zw,Bn,get]
theorem Jh(l a:List (Nat×AV))(t:Nat):get (l++a) t=(get l t).or (get a t):=by
 induction l with
 | nil=>rfl
 | cons q r b=>
  grind[get]
def Q8(hs':Hp):List Nat->List (Nat×Option (List AL))
 | []=> []
 | f::r=>(f,dr hs' f)::Q8 hs' r
theorem Jc:Bn (Q8 t a) w=if w∈a then some (dr t w) else none:=by
 induction a with
 | nil=>simp[Q8,Bn]
 | cons b r c=>
  simp only[Q8,Bn]
  by_cases e:b=w
  .subst e;simp
  grind[I9]
def Lp(nm:List Nat):Hp->Hp
 | []=> []
 | (g,l)::r=>match iB g nm with
  | true=>Lp nm r
  | false=>(g,l)::Lp nm r
theorem Kh{b:Hp}(f:Nat):dr (Lp a b) f=if f∈a then none else dr b f:=by
 induction b with
 | nil=>simp[Lp,dr]
 | cons q r g=>
  obtain ⟨k,l⟩:=q;simp only[Lp]
  by_cases e:k=f
  .subst e
   cases hm:iB k a with
   | true=>simp only[g,ϱ (Gc.1 hm)]
   | false=>
    have c:k∉a:=λh=>by rw[Gc.2 h] at hm;cases hm
    simp[dr,c]
  grind[dr,I9]
theorem V3{H b:Hp}(h:A6 a H=true)(f:Nat)(j:f∈a->dr b f=none):dr (H++b) f=if f∈a then dr H f else dr b f:=by
 have c:∀H:Hp,dr (H++b) f=(dr H f).or (dr b f):=by
  intro H
  induction H with
  | nil=>rfl
  | cons p r i=>
   grind[dr]
 rw[c]
 split
 .grind
 .rename_i g
  cases hh:dr H f with
  | none=>rfl
  | some l=>exact absurd (G1 h hh) g
def PT(nm:List Nat)(p:Nat->Nat->Bool)(f i:Nat):Bool:=!(iB f nm) || p f i
def kb(dv:List (Nat×AV))(nm:List Nat)(p:Nat->Nat->Bool)(env0:List (Nat×AV))(xs:List Nat):List (Nat×AV):=dv++Hr (PT nm p) xs [] env0
theorem JX.eff{rd R:List Nat}{l' M:List (Nat×AV)}{kc:Nat->Option AV}{kd:Nat->Option (List AL)}(hl:pick g rd=some i)(hh:Be k a=some s)(hS:∀c z,get g c=some z->kc c=some z)(hF:∀u,dr k u=kd u)(h:∀F,jY P F ops o ⟨n,i,s⟩ ⟨n,l',t⟩ f)(hdv:(M=[]/\o.dst=none)\/∃d z,M=[(d,z)]/\o.dst=some d/\Nat.blt d n=true/\get l' d=some z/\z.ok (Jy a)=true)(n1:A6 a t=true)(n2:GK a t=true):
  JX P ops n o ⟨rd,Zw (kb M a f g R),a,Q8 t a,true,PT a f⟩ C kc kd:=by
 intro F ρ V w J hp D _ h1 h2 h3 h4;obtain ⟨p1,p2⟩:=KX hh;have Y:=Fk (hp:=hp) (CH:=s) (nm:=a) λr hg=>by rw[h2 r hg,<-hF,p2 r hg]
 obtain ⟨T,q1,q2⟩:=Fj F.lo D.heap a Y p1;have X:=PN hl
 have hsm:SR (Bz F F.lo hp s ρ w T) ⟨n,i,s⟩ ρ V w:=by
  refine ⟨D.size,q2▸D.defs,λc x hx=>?_,q1⟩;obtain ⟨O,U⟩:=X c x hx;rw[q2];exact D.env c x (by show get J c=some x;rw[h1 c O];exact hS c x U)
 refine H6 ?_ (h (Bz F F.lo hp s ρ w T) ρ V w hsm);rintro Q w' ⟨ρ',N,⟨v,hv⟩,hp'⟩
 have H:∀r j,cj (Lp a hp) r j=if r∈a then none else cj hp r j:=λr j=>by
  simp only[cj,Kh]
  split<;>rfl
 have I:∀r j K,cj (Lp a hp) r j=some K->K.Less (PT a f) K:=λr j K B=>by
  rw[H] at B
  split at B
  .cases B
  .rename_i hg
   simp only[cj] at B
   cases hfa:dr hp r with
   | none=>rw[hfa] at B;cases B
   | some lo=>
    rw[hfa] at B;have G:=h4 Z r lo hfa (by rw[Jc,ν hg]);exact ⟨λ_ _ _ _ h=>h,λu j hr=>(mQ B).elim (λhm=>av G hm hr) (λ⟨_,m,_,_,e⟩=>absurd (e▸hr) Au.norefs),λc cs e=>⟨cs,e⟩,λc cs e=>⟨cs,e⟩⟩
 obtain ⟨W,a1,a2,a3,a4,a5,_,a6⟩:=Rw (ok:=PT a f) D.heap a Y p1 H (λr j K B=>⟨K,B,I r j K B⟩) (λr j K B=>⟨K,B,I r j K B⟩) T q1 N.heap n1 n2
  (λu j S G=>hp' u j (by simpa only[PT,Gc.2 S,Bool.not_true,Bool.false_or] using G))
 have E:Q.tmps.size=n/\∀c,get M c=none->Q.tmps.getD c undef=V.tmps.getD c undef:=by
  refine ⟨N.size,λc ht=>?_⟩;rcases hdv with ⟨O,U⟩ | ⟨d,z,O,U,e3,_⟩
  .rw[hv,U];rfl
  .rw[hv,U];refine Ni λe=>?_;subst e;rw[O] at ht;simp[get] at ht
 refine ⟨W,kb M a f g R++J,t++Lp a hp,⟨E.1,N.defs.mono (Θ _) (λ_ _ _=>rfl) (λb _=>a6 b),λc x hx=>?_,a1⟩,λc=>?_,λu=>?_⟩
 .have A:get (kb M a f g R++J) c=some x:=hx;rw[Jh,kb,Jh] at A
  cases L:get M c with
  | some y=>
   rw[L] at A
   simp at A
   subst A;rcases hdv with ⟨O,U⟩ | ⟨d,z,O,U,e3,e4,e5⟩
   .rw[O] at L;cases L
   .rw[O] at L;rcases NP L with ⟨rfl,rfl⟩ | ⟨_,L⟩
    .exact a2 _ _ (λu j S=>Gc.1 (AV.ok_spec e5 S)) (N.env d z e4)
    .cases L
  | none=>
   rw[L] at A;simp only[Option.none_or] at A
   cases hk:get (Hr (PT a f) R [] g) c with
   | some y=>
    rw[hk] at A
    simp at A
    subst A;rw[LU] at hk
    have:y=AV.top:=by
     split at hk
     .split at hk
      .cases hk
      .injection hk with hk;exact hk.symm
     .cases hk
    rw[this];exact .top
   | none=>
    rw[hk] at A;simp only[Option.none_or] at A;have G:=h3 Z c x A (by rw[ML,kb,Jh,L,hk];rfl);rw[E.2 c L];exact a3 _ _ (λu j S=>AV.ok_spec G S) (D.env c x A)
 .show get (kb M a f g R++J) c=(Bn (Zw (kb M a f g R)) c).getD (get J c);rw[ML,Jh]
  cases get (kb M a f g R) c<;>rfl
 .show dr (t++Lp a hp) u=(Bn (Q8 t a) u).getD (dr hp u);rw[V3 n1 u (λS=>by rw[Kh,ϱ S]),Jc,Kh]
  split<;>simp
end
variable{a:List (List Nat)}{c:Array Oper}{L:Nat->Bool}
def Lf(listed:Array Bool)(k:Nat):Bool:=listed.getD k false
def cnt(L:Nat->Bool):Nat->Nat
 | 0=>0
 | n+1=>cnt L n+(match L n with
  | true=>0
  | false=>1)
theorem py{a:Nat->Bool}{i n:Nat}(j:L i=false)(f:∀k,a k=if k=i then true else L k)(g:i<n):cnt a n+1=cnt L n:=by
 induction n with
 | zero=>omega
 | succ n b=>
  have c:∀m,m<=i->cnt a m=cnt L m:=by
   intro m
   induction m with
   | zero=>intro _;rfl
   | succ m b=>intro h;simp only[cnt,b (by omega),f,ν (show ¬m=i by omega)]
  grind[cnt]
theorem pz{i n:Nat}(c:L i=false)(b:i<n):0<cnt L n:=by
 induction n with
 | zero=>omega
 | succ n a=>
  grind[cnt]
theorem uu{listed:Array Bool}{i:Nat}(a:i<listed.size)(k:Nat):Lf (listed.setIfInBounds i true) k=if k=i then true else Lf listed k:=by
 unfold Lf
 by_cases e:k=i
 .simp_all
 .rw[ν e];simp[Array.getElem?_setIfInBounds_ne (λh=>e h.symm)]
structure Fc (ops:Array Oper) (pre:List (List Nat)):Prop where
 preds:∀(j:Nat) o,ops[j]? =some o->∀x∈ja pre j,∃e∈o.after,Region.binds .any e=true/\(e.on=x\/x∈ja pre e.on)
 back:∀(j:Nat) o,ops[j]? =some o->∀e∈o.after,Region.binds .any e=true->e.on<j
 nod:∀(j:Nat) o,ops[j]? =some o->Op.isDefer o.op=false
theorem XQ(h:RZ c.toList a a c.toList 0=true)(s:c.toList.all (λo=>!Op.isDefer o.op)=true):Fc c a:=by
 have r:∀(g:List (List Nat)) (f:List Oper) (i:Nat),RZ c.toList a g f i=true->(∀j,ja g j=ja a (i+j))->∀(j:Nat) o,f[j]? =some o→
   (∀x∈ja a (i+j),∃e∈o.after,Region.binds .any e=true/\(e.on=x\/x∈ja a e.on))/\∀e∈o.after,Region.binds .any e=true->e.on<i+j:=by
  intro g
  induction g with
  | nil=>intro f i h _ j o b;cases f with
   | nil=>simp at b
   | cons _ _=>simp[RZ] at h
  | cons l g y=>
   intro f i h v j o b
   cases f with
   | nil=>simp at b
   | cons C f=>
    simp only[RZ,kO] at h;obtain ⟨B,A,z⟩:=h
    cases j with
    | zero=>
     simp at b;subst b
     have w:=v 0;simp only[ja,l7] at w;refine ⟨λx u=>?_,λe t k=>?_⟩
     .rw[l7,<-w] at u;have:=mo.1 B x u;obtain ⟨e,t,k⟩:=List.any_eq_true.1 this;simp only[kO,Bool.or_eq_true] at k;exact ⟨e,Array.mem_toList_iff.1 t,k.1,k.2.imp ki Gc.1⟩
     .have:=mo.1 A e (Array.mem_toList_iff.2 t);rw[k] at this
      simpa using I4 (by simpa using this)
    | succ j=>
     have:=y f (i+1) z (λj=>by have:=v (j+1);simp only[ja] at this;rw[this];congr 1;omega) j o (by simpa using b);rw[show i+1+j=i+(j+1) by omega] at this;exact this
 have D:=r a c.toList 0 h (λj=>by rw[lU]);refine ⟨λj o b=>?_,λj o b=>?_,λj o b=>by simpa using mo.1 s o (Array.mem_toList_iff.2 (Array.mem_of_getElem? b))⟩
 .grind
 simp_all
theorem Fc.lt(h:Fc c a):∀j,j<c.size->∀x∈ja a j,x<j:=by
 intro j
 induction j using Nat.strongRecOn with
 | _ j l=>
  intro b x g;obtain ⟨e,i,k,f⟩:=h.preds j _ (lJ b) x g;have:=h.back j _ (lJ b) e i k
  grind
section
variable{P:Program}{ops:Array Oper}{pre:List (List Nat)}{r:Option Nat}{Q:Exit->Act->World->Prop}
variable{K:Act->World->Prop}{w:World}{o:Oper}{a:Act}
theorem Fo{s:Act->World->Prop}{Q k:Exit->Act->World->Prop}(g:∀a w,K a w->s a w)(f:∀e a w,e≠ .normal->Q e a w->k e a w)(b:o.wpIn (SC r) 0 P a w K Q):o.wpIn (SC r) 0 P a w s k:=by
 unfold Oper.wpIn at*;refine ⟨b.1,?_⟩;have b:=b.2
 generalize (o.semAt (SC r).round a.eval).run P w=j at*
 have l:LetsOut Q->LetsOut k:=λ⟨a,w,h⟩=>⟨a,w,f _ _ _ (by simp) h⟩
 cases j with
 | ok x t=>
  cases x<;>simp only[Oper.uponIn] at b⊢<;>
   first
    | exact g _ _ b
    | exact ⟨b.1,CallsIn.mono b.2 (λe i c=>by cases e<;>first | exact g _ _ c | exact f _ _ _ (by simp) c | exact l c)⟩
    | exact ⟨b.1,RowsIn.mono b.2 (λ_ _ c=>g _ _ c)⟩
    | exact ⟨b.1,RoundIn.mono b.2 (λe i c=>by cases e<;>first | exact g _ _ c | exact f _ _ _ (by simp) c | exact l c)⟩
 | halt x t=>cases x<;>simp only[Oper.uponIn] at b⊢<;>first | exact f _ _ _ (by simp) b | exact b
def Em(P:Program)(r:Option Nat)(ops:Array Oper)(o:Oper)(Q:Exit->Act->World->Prop)(K:Act->World->Prop)(a:Act)(w:World):Prop:=
 if Region.wanted o (yielded ops a.tmps) then o.wpIn (SC r) 0 P a w K Q else K (a.put o.dst undef) w
theorem Wj(b:Op.isDefer o.op=false)(h:Gx P ops o K a w):Em P r ops o Q K a w:=by grind[Gx,Em,Fn]
theorem MM(Z:Fc ops pre)(D v:Nat)(hhi:v<=ops.size)(O:∀j,v<=j->j<ops.size->∀x,D<=x->x<v->x∈ja pre j)(Inv:(Nat->Bool)->Act->World->Prop)(step:∀(L:Nat->Bool) a w i,D<=i->i<v->L i=false->(∀x∈ja pre i,L x=true)->(∀j,j<ops.size->L j=true->∀x∈ja pre j,L x=true)->Inv L a w->∃o,ops[i]? =some o/\Em P r ops o Q (Inv λk=>if k=i then true else L k) a w)(fin:∀listed a w,listed.size=ops.size->(∀k,Lf listed k=decide (k<v))->Inv (Lf listed) a w->wpAnyIn (SC r) 0 P .any ops Q (cnt (Lf listed) ops.size) listed a w):
  ∀b (listed:Array Bool) a w,listed.size=ops.size->b=cnt (Lf listed) ops.size->(∀j,j<ops.size->Lf listed j=true->∀x∈ja pre j,Lf listed x=true)->(∀k,k<D->Lf listed k=true)->(∀k,v<=k->Lf listed k=false)->Inv (Lf listed) a w->wpAnyIn (SC r) 0 P .any ops Q b listed a w:=by
 intro b
 induction b with
 | zero=>
  grind[Lf,pz]
 | succ b ih=>
  intro listed a w Y hf B G J hI
  by_cases t:∀k,D<=k->k<v->Lf listed k=true
  .grind
  .have hmr:∀{j},j∈Region.ready .any ops listed->j<ops.size/\Lf listed j=false/\∀x∈ja pre j,Lf listed x=true:=λ{j} C=>by
    obtain ⟨u,o,l,R⟩:=mem_ready.1 C;have A:j<ops.size:=(ld.1 l).1;refine ⟨A,?_,λx T=>?_⟩
    .unfold Lf;rw[mg,lJ (by omega)] at u⊢;exact u
    .obtain ⟨e,U,V,z⟩:=Z.preds j o l x T;have N:=R e U V;rcases z with rfl | z
     .exact N
     .exact B e.on (by have:=Z.back j o l e U V;omega) N x z
   have hne:Region.ready .any ops listed≠ []:=by
    have hex:∃k,k<ops.size/\Lf listed k=false:=by
     refine Classical.byContradiction λM=>t λk I H=>?_
     cases y:Lf listed k with
     | true=>rfl
     | false=>exact absurd ⟨k,by omega,y⟩ M
    obtain ⟨k,s⟩:=hex
    have E:∃k,(k<ops.size/\Lf listed k=false)/\∀j,j<k->¬(j<ops.size/\Lf listed j=false):=by
     revert s
     induction k using Nat.strongRecOn with
     | _ k W=>
      intro s
      by_cases C:∃j,j<k/\(j<ops.size/\Lf listed j=false)
      .obtain ⟨j,u,l⟩:=C;exact W j u l
      .exact ⟨k,s,λj u l=>C ⟨j,u,l⟩⟩
    obtain ⟨k,s,hkm⟩:=E
    have hr:k∈Region.ready .any ops listed:=by
     refine mem_ready.2 ⟨?_,ops[k],lJ s.1,λe U V=>?_⟩
     .have:=s.2;unfold Lf at this;rw[mg,lJ (by omega)] at this⊢;exact this
     .have A:=Z.back k _ (lJ s.1) e U V
      cases y:Lf listed e.on with
      | true=>exact y
      | false=>exact absurd ⟨by omega,y⟩ (hkm e.on A)
    intro h0;rw[h0] at hr;cases hr
   refine ⟨λh0=>absurd h0 hne,λi hi'=>?_⟩;obtain ⟨u,l,R⟩:=hmr hi';have F:D<=i:=Nat.le_of_not_lt λM=>by rw[G i M] at l;cases l
   have K:i<v:=Nat.lt_of_not_le λM=>t λk I H=>R k (O i M u k I H);obtain ⟨o,ho,f⟩:=step (Lf listed) a w i F K l R B hI;have c:=uu (listed:=listed) (i:=i) (by omega)
   have next:∀g S,Inv (λk=>if k=i then true else Lf listed k) g S->wpAnyIn (SC r) 0 P .any ops Q b (listed.setIfInBounds i true) g S:=λg S hI'=>by
    refine ih _ g S (by simpa using Y) ?_ (λj C y x T=>?_) (λk s=>?_) (λk s=>?_) ?_
    .have:=py l c u;omega
    .rw[c] at y⊢
     by_cases e:x=i
     .rw[ϱ e]
     .rw[ν e]
      by_cases e2:j=i
      .subst e2;exact R x T
      .rw[ν e2] at y;exact B j C y x T
    .rw[c];split
     .rfl
     .exact G k s
    .rw[c,ν (by omega)];exact J k s
    .have:Lf (listed.setIfInBounds i true)=λk=>if k=i then true else Lf listed k:=funext c
     rw[this];exact hI'
   unfold wpOpIn;rw[ho];simp only[];unfold Em at f
   split
   .rename_i X
    rw[ϱ X] at f;exact Fo next (λ_ _ _ _ h=>h) f
   .rename_i X
    rw[ν X] at f;exact ⟨λ_ _=>trivial,next _ _ f⟩
end
section
variable{P:Program}{F:Fr}{ops:Array Oper}{pre:List (List Nat)}{Q:Exit->AS->Prop}
variable{a:Nat}{s:AS}{R:List Rc}{C:MI}{c:Nat}
def nR(P:Program)(F:Fr)(ops:Array Oper)(lo:Nat)(Q:Exit->AS->Prop)(s:AS):Prop:=∀ρ act w listed,SR F s ρ act w->listed.size=ops.size->(∀k,Lf listed k=decide (k<lo))->wpAnyIn (SC F.rnd) 0 P .any ops (VG F Q) (cnt (Lf listed) ops.size) listed act w
theorem SR.drew{j:Nat->Nat->Value}{f:Act}{w a:World}(h:SR F s j f w)(k:a.heap=w.heap)(u:a.os=w.os)(r:a.tape=w.tape)(o:a.output=w.output)(v:w.drawn<=a.drawn:=by first | exact Nat.le_succ _ | exact Θ _):SR F s j f a:=by
 have g:w.heap.size<=a.heap.size:=by rw[k];exact Θ _
 have i:∀b,b<w.heap.size->a.heap[b]? =w.heap[b]?:=λb _=>by rw[k]
 exact ⟨h.size,h.defs.mono g (λb c _=>i b c) (λ_ _ h=>h),λt x l=>(h.env t x l).mono g (λb c _=>i b c) (λ_ _ h=>h) (λ_ _ _=>rfl),h.heap.stay ⟨u,r,o,jp h.heap.drawn v⟩ g i⟩
theorem ui{id:Nat}{l:List Oper}(i:P.follows .mixedOrders=true)(h:nR P F l.toArray 0 Q s):CK P F (.region id l.toArray true) Q s:=λc a w g=>by
 refine wpIn_region_any i ?_
 have b:∀k,Lf (Array.replicate l.toArray.size false) k=false:=λk=>by
  unfold Lf;rw[mg,Array.getElem?_replicate]
  split<;>rfl
 have j:∀n,cnt (Lf (Array.replicate l.toArray.size false)) n=n:=by
  intro n
  induction n with
  | zero=>rfl
  | succ n f=>simp only[cnt,f,b]
 have:=h c a {w with drawn:=w.drawn+1} (Array.replicate l.toArray.size false) (g.drew Z Z Z Z) (by simp) (λk=>by rw[b];simp)
 rwa [j] at this
def SG(pre:List (List Nat))(lo hi:Nat):Nat->Nat->Bool
 | _,0=>true
 | j,m+1=>inAll lo (hi-lo) (ja pre j) && SG pre lo hi (j+1) m
where inAll (x:Nat):Nat->List Nat->Bool
 | 0,_=>true
 | m+1,l=>iB x l && inAll (x+1) m l
theorem Xb{x m:Nat}{l:List Nat}(h:SG.inAll x m l=true):∀y,x<=y->y<x+m->y∈l:=by
 induction m generalizing x with
 | zero=>intro y b a;omega
 | succ m c=>
  simp only[SG.inAll,kO] at h;intro y b a
  by_cases e:x=y
  .subst e;exact Gc.1 h.1
  grind
theorem Xk{b m:Nat}(i:a<=c)(h:SG pre a c b m=true):∀j,b<=j->j<b+m->∀x,a<=x->x<c->x∈ja pre j:=by
 induction m generalizing b with
 | zero=>intro j o l;omega
 | succ m g=>
  simp only[SG,kO] at h;intro j o l x f k
  by_cases e:b=j
  .subst e;exact Xb h.1 x f (by omega)
  .exact g h.2 j (by omega) (by omega) x f k
def Vw(pre:List (List Nat))(n lo hi:Nat):Bool:=Nat.ble lo hi &&(Nat.ble hi n && SG pre lo hi hi (n-hi))
theorem NG{n:Nat}(h:Vw pre n a c=true):a<=c/\c<=n/\∀j,c<=j->j<n->∀x,a<=x->x<c->x∈ja pre j:=by
 simp only[Vw,kO] at h;have f:=Nat.le_of_ble_eq_true h.1;have b:=Nat.le_of_ble_eq_true h.2.1
 grind[Xk]
theorem Gk(g:Fc ops pre){b:Array Bool}(i:∀k,Lf b k=decide (k<a)):∀j,j<ops.size->Lf b j=true->∀x∈ja pre j,Lf b x=true:=λj h c x f=>by
 rw[i] at c⊢;have:=lK c;have:=g.lt j h x f;exact Υ (by omega)
theorem uQ{o:Oper}(I:Fc ops pre)(N:ops[a]? =some o)(T:Vw pre ops.size a (a+1)=true)(h:An P F ops [o] (λe l=>e= .normal/\nR P F ops (a+1) Q l) s):nR P F ops a Q s:=λK t w r M D B=>by
 obtain ⟨_,V,U⟩:=NG T;have f:=h K t w M;refine MM I a (a+1) V U (λL g x=>((L a=false/\g=t/\x=w)\/(L a=true/\∃l c,nR P F ops (a+1) Q l/\SR F l c g x))) ?_ ?_ _ r t w D Z (Gk I B) (λk J=>by rw[B];exact Υ J) (λk J=>by rw[B];exact kC (by omega)) (.inl ⟨by rw[B];simp,Z,Z⟩)
 .intro L g x i R O G _ _ H;have:i=a:=by omega
  subst this;rcases H with ⟨_,rfl,rfl⟩ | ⟨z,_⟩
  .refine ⟨o,N,?_⟩;unfold wpListIn at f;unfold Em
   split
   .rename_i C
    rw[ϱ C] at f;refine Fo ?_ ?_ f
    .rintro b w ⟨l,c,⟨_,v⟩,u⟩;exact .inr ⟨by simp,l,c,v,u⟩
    .rintro e b w E ⟨l,c,⟨S,v⟩,u⟩;exact absurd S E
   .rename_i C
    rw[ν C] at f;obtain ⟨_,l,c,⟨_,v⟩,u⟩:=f;exact .inr ⟨by simp,l,c,v,u⟩
  .rw[G] at z;cases z
 .intro j g x y A H;rcases H with ⟨z,_⟩ | ⟨_,l,c,v,u⟩
  .rw[A] at z;simp at z
  .exact v c g x j u y A
abbrev RS(R:List Rc):=R.map Rc.ws
abbrev RF(R:List Rc):=R.map Rc.fs
def kc(base:AS)(R:List Rc):Nat->Option AV:=GS (get base.env) (λ_=>true) (RS R)
def kd(base:AS)(R:List Rc):Nat->Option (List AL):=GS (dr base.hp) (λ_=>true) (RF R)
def Zt(P:Program)(ops:Array Oper)(lo:Nat)(base:AS)(C:MI):List Rc->Prop
 | []=>True
 | rc::r=>Zt P ops lo base C r/\(∃o,ops[lo+r.length]? =some o/\JX P ops base.n o rc C (kc base r) (kd base r))/\(∀f,Bn rc.fs f≠none->f∈rc.nm)/\∀f c,Bn rc.fs f=some c->C f c
theorem Zt.at{b:AS}(h:Zt P ops a b C R){k:Nat}{g:Rc}(i:R.reverse[k]? =some g):∃A r,R=A++g::r/\r.length=k/\(∃o,ops[a+k]? =some o/\JX P ops b.n o g C (kc b r) (kd b r))/\(∀f,Bn g.fs f≠none->f∈g.nm)/\∀f c,Bn g.fs f=some c->C f c:=by
 induction R with
 | nil=>simp at i
 | cons x r l=>
  rcases jr i with i | ⟨rfl,rfl⟩
  .obtain ⟨A,j,t,s⟩:=l h.1 i;exact ⟨x::A,j,by rw[t];rfl,s⟩
  .exact ⟨[],r,Z,Z,h.2.1,h.2.2⟩
def uv(P:Program)(F:Fr)(ops:Array Oper)(lo:Nat)(Q:Exit->AS->Prop)(C:MI)(base:AS)(R:List Rc)(env:List (Nat×AV))(hp:Hp):Prop:=
 (∀f,C f (dr base.hp f))->Zt P ops lo base C R->(∀t a,get env t=some a->kc base R t=some a)->(∀f,dr hp f=kd base R f)->nR P F ops lo Q base
theorem iS(b:∀f,C f (dr s.hp f))(h:uv P F ops a Q C s [] s.env s.hp):nR P F ops a Q s:=h b trivial (λ_ _ h=>h) λ_=>rfl
structure lQ (pre:List (List Nat)) (lo i j:Nat) (ri rj:Rc):Prop where
 race:(lo+j)∉ja pre (lo+i)->HY rj.ws ri.rd=true/\HY rj.ws (P8 ri.ws)=true/\HY ri.ws rj.rd=true/\HY rj.fs ri.nm=true/\HY ri.fs rj.nm=true
 late:ri.eff=true->XX ri.ok ri.ws rj.ws=true/\XY ri.ok ri.fs rj.fs=true
 early:(lo+j)∉ja pre (lo+i)->rj.eff=true->XX rj.ok rj.ws ri.ws=true/\XY rj.ok rj.fs ri.fs=true
theorem G0{i j:Nat}{f c:Rc}(h:PP (iB (a+j) (ja pre (a+i))) c f=true):lQ pre a i j f c:=by
 have k:(a+j)∉ja pre (a+i)->iB (a+j) (ja pre (a+i))=false:=λb=>by
  cases hh:iB (a+j) (ja pre (a+i)) with
  | false=>rfl
  | true=>exact absurd (Gc.1 hh) b
 simp only[PP,kO,Bool.or_eq_true,Bool.not_eq_true'] at h;refine ⟨λb=>?_,λg=>?_,λb g=>?_⟩
 all_goals (grind)
theorem iT{j hi:Nat}{C:MI}{s:AS}{R:List Rc}{env:List (Nat×AV)}{hp:Hp}(hps:Fc ops pre)(hhi:Nat.beq (j+R.length) hi=true)(hc:Vw pre ops.size j hi=true)(G:JP pre j s.env s.hp R=true)(h:nR P F ops hi Q ⟨s.n,env,hp⟩):uv P F ops j Q C s R env hp:=λhC hV hE hH=>by
 intro ρ act w H hs hsz hL;have hhi':=ki hhi;subst hhi';obtain ⟨_,c2,c3⟩:=NG hc
 let Inv:(Nat->Bool)->Act->World->Prop:=λL act w=>∃ρ env hp,SR F ⟨s.n,env,hp⟩ ρ act w/\(∀t,get env t=GS (get s.env) (λk=>L (j+k)) (RS R) t)/\∀f,dr hp f=GS (dr s.hp) (λk=>L (j+k)) (RF R) f
 have hnone:∀{α:Type} (base:Nat->α) (R:List (List (Nat×α))) t,GS base (λk=>Lf H (j+k)) R t=base t:=by
  intro α base R t
  induction R with
  | nil=>rfl
  | cons ws r ih=>
   have h0:Lf H (j+r.length)=false:=by rw[hL];exact kC (by omega)
   simp only[GS,h0];exact ih
 refine MM hps j (j+R.length) c2 c3 Inv ?_ ?_ _ H act w hsz Z (Gk hps hL) (λk u=>by rw[hL];exact Υ u) (λk u=>by rw[hL];exact kC (by omega)) ⟨ρ,s.env,s.hp,hs,λt=>(hnone _ _ t).symm,λf=>(hnone _ _ f).symm⟩
 .intro L act w i' hi1 hi2 M hpre hcl ⟨ρ,env1,hp1,hsr,hE1,hH1⟩
  obtain ⟨i,rfl⟩:∃i,i'=j+i:=⟨i'-j,by omega⟩
  have hiR:i<R.length:=by omega
  have D:R.reverse[i]? =some (R.reverse[i]'(by simpa using hiR)):=ω (by simpa using hiR)
  generalize R.reverse[i]'(by simpa using hiR)=rc at D
  obtain ⟨A,r,e1,e2,⟨o,ho,hsound⟩,hfk,_⟩:=hV.at D
  -- the order against others
  have S:∀{k ws},(RS R).reverse[k]? =some ws->∃B:Rc,R.reverse[k]? =some B/\B.ws=ws:=λ{k ws} u=>by
   rw[<-List.map_reverse,ς] at u
   cases hh:R.reverse[k]? with
   | none=>rw[hh] at u;cases u
   | some B=>rw[hh] at u;injection u with u;exact ⟨B,hh,u⟩
  have J:∀{k ws},(RF R).reverse[k]? =some ws->∃B:Rc,R.reverse[k]? =some B/\B.fs=ws:=λ{k ws} u=>by
   rw[<-List.map_reverse,ς] at u
   cases hh:R.reverse[k]? with
   | none=>rw[hh] at u;cases u
   | some B=>rw[hh] at u;injection u with u;exact ⟨B,hh,u⟩
  have X:∀{k B},R.reverse[k]? =some B->k<i->L (j+k)=false->lQ pre j i k rc B/\(j+k)∉ja pre (j+i):=λ{k B} u v c=>
   ⟨G0 (Ga G D u v),λhm=>by rw[hpre _ hm] at c;cases c⟩
  have z:∀{k B},R.reverse[k]? =some B->i<k->L (j+k)=true->lQ pre j k i B rc/\(j+i)∉ja pre (j+k):=λ{k B} u v c=>
   ⟨G0 (Ga G u D v),λhm=>by
    have hkR:=MY u
    rw[hcl (j+k) (by omega) c _ hm] at M;cases M⟩
  have hR:RS R=(RS (A++ [rc]))++RS r/\RF R=(RF (A++ [rc]))++RF r:=by
   rw[e1];simp[RS,RF]
  have hsame:∀t∈rc.rd,GS (get s.env) (λk=>L (j+k)) (RS R) t=kc s r t:=λt ht=>by
   have V:GS (get s.env) (λk=>L (j+k)) (RS R) t=GS (get s.env) (λk=>decide (k<(RS r).length)) (RS R) t:=by
    refine Gz λk ws u I=>?_;obtain ⟨B,y,rfl⟩:=S u;have W:(RS r).length=i:=by simp[RS,e2]
    rw[W];rcases Nat.lt_trichotomy k i with v | U | T
    .rw[Υ v]
     cases c:L (j+k) with
     | true=>rfl
     | false=>
      obtain ⟨O,N⟩:=X y v c;exact absurd (Ej (O.race N).1 ht) I
    .subst U;rw[kC (ml _)];exact M
    .rw[kC (by omega)]
     cases c:L (j+k) with
     | false=>rfl
     | true=>
      obtain ⟨O,N⟩:=z y T c;exact absurd (Ej (O.race N).2.2.1 ht) I
   rw[V,hR.1,Ol];rfl
  have hsameF:∀f∈rc.nm,GS (dr s.hp) (λk=>L (j+k)) (RF R) f=kd s r f:=λf hf=>by
   have V:GS (dr s.hp) (λk=>L (j+k)) (RF R) f=GS (dr s.hp) (λk=>decide (k<(RF r).length)) (RF R) f:=by
    refine Gz λk ws u I=>?_;obtain ⟨B,y,rfl⟩:=J u;have W:(RF r).length=i:=by simp[RF,e2]
    rw[W];rcases Nat.lt_trichotomy k i with v | U | T
    .rw[Υ v]
     cases c:L (j+k) with
     | true=>rfl
     | false=>
      obtain ⟨O,N⟩:=X y v c;exact absurd (Ej (O.race N).2.2.2.1 hf) I
    .subst U;rw[kC (ml _)];exact M
    .rw[kC (by omega)]
     cases c:L (j+k) with
     | false=>rfl
     | true=>
      obtain ⟨O,N⟩:=z y T c;exact absurd (Ej (O.race N).2.2.2.2 hf) I
   rw[V,hR.2,Ol];rfl
  refine ⟨o,ho,Wj (hps.nod _ _ ho)<| H6 ?_ (hsound F ρ act w env1 hp1 hsr (λf=>by
   rw[hH1];rcases ke (base:=dr s.hp) (L:=λk=>L (j+k)) (R:=RF R) (t:=f) with ⟨V,_⟩ | ⟨k,ws,u,c,I⟩
   .rw[V];exact hC f
   .obtain ⟨B,y,rfl⟩:=J u;obtain ⟨_,_,_,_,_,_,hc⟩:=hV.at y
    exact hc f _ I) (λt ht=>by rw[hE1,hsame t ht]) (λf hf=>by rw[hH1,hsameF f hf]) (λhe t a ha hl=>?_) (λhe f l hf hl=>?_))⟩
  .rintro act' w' ⟨Y,env',hp',E,hE',hH'⟩
   have hset:∀k,(λk=>if j+k=j+i then true else L (j+k)) k=if k=i then true else L (j+k):=λk=>by
    by_cases e:k=i
    .subst e;simp
    .have:¬(j+k=j+i):=by omega
     simp[e]
   refine ⟨Y,env',hp',E,λt=>?_,λf=>?_⟩
   .rw[hE',hE1];refine (Ok (i:=i) (ws:=rc.ws) (by rw[<-List.map_reverse,ς,D];rfl) M hset λI k ws' u v c=>?_).symm;obtain ⟨B,y,rfl⟩:=S u;obtain ⟨O,N⟩:=z y v c;have:=Ej (t:=t) (O.race N).2.1
    cases hh:Bn B.ws t with
    | none=>rfl
    | some x=>exact absurd (this (VO (by rw[hh];simp))) I
   .rw[hH',hH1];refine (Ok (i:=i) (ws:=rc.fs) (by rw[<-List.map_reverse,ς,D];rfl) M hset λI k ws' u v c=>?_).symm;obtain ⟨B,y,rfl⟩:=J u;obtain ⟨O,N⟩:=z y v c;exact Ej (O.race N).2.2.2.2 (hfk f I)
  .rw[hE1] at ha;rcases ke (base:=get s.env) (L:=λk=>L (j+k)) (R:=RS R) (t:=t) with ⟨V,_⟩ | ⟨k,ws,u,c,I⟩
   .rw[V] at ha;exact fN (Nm G D he).1 ha (λh=>by cases h) hl
   .rw[ha] at I;obtain ⟨B,y,rfl⟩:=S u;rcases Nat.lt_trichotomy k i with v | U | T
    .exact R9 ((G0 (Ga G D y v)).late he).1 I hl
    .subst U;rw[M] at c;cases c
    .obtain ⟨O,N⟩:=z y T c;exact R9 (O.early N he).1 I hl
  .rw[hH1] at hf;rcases ke (base:=dr s.hp) (L:=λk=>L (j+k)) (R:=RF R) (t:=f) with ⟨V,_⟩ | ⟨k,ws,u,c,I⟩
   .rw[V] at hf;exact fM (Nm G D he).2 hf hl
   .rw[hf] at I;obtain ⟨B,y,rfl⟩:=J u;rcases Nat.lt_trichotomy k i with v | U | T
    .exact Ra ((G0 (Ga G D y v)).late he).2 I hl
    .subst U;rw[M] at c;cases c
    .obtain ⟨O,N⟩:=z y T c;exact Ra (O.early N he).2 I hl
 .intro K act' w' hsz' hL' ⟨Y,env',hp',E,hE',hH'⟩
  have hall:∀{α:Type} (base:Nat->α) (R':List (List (Nat×α))) t,R'.length=R.length->GS base (λk=>Lf K (j+k)) R' t=GS base (λ_=>true) R' t:=λbase R' t W=>
   Gz λk ws u _=>by rw[hL',Υ];have:=MY u;omega
  have hHh:∀f i,cj hp' f i=cj hp f i:=λf i=>by
   simp only[cj,hH',hH,hall _ (RF R) f (by simp[RF])];rfl
  have hheap:Bj F hp Y w':=E.heap.less (λg i o' ho=>⟨o',by show cj hp' g i=some o';rw[hHh];exact ho,λ_ _ _ h=>h⟩) λg i o ho=>⟨o,by rw[<-hHh];exact ho,λt cs e=>⟨cs,e⟩⟩
  have hO:F.O Y hp'=F.O Y hp:=funext λb=>propext ⟨λh=>h.imp id λ⟨f,i,o,V,h2⟩=>⟨f,i,o,by rw[<-hHh];exact V,h2⟩,λh=>h.imp id λ⟨f,i,o,V,h2⟩=>⟨f,i,o,by rw[hHh];exact V,h2⟩⟩;refine h Y act' w' K ⟨E.size,hO▸E.defs,λt a ha=>?_,hheap⟩ hsz' hL';have V:=hE t a ha;have h2:=E.env t a (by show get env' t=some a;rw[hE',hall _ (RS R) t (by simp[RS])];exact V);rw[<-hO];exact h2
end
section
variable{P:Program}{F:Fr}{ops:Array Oper}{Q:Exit->AS->Prop}
def Dw(P:Program)(F:Fr)(ops:Array Oper)(pre:List (List Nat))(lo:Nat)(rest:List Oper)(Q:Exit->AS->Prop)(s:AS):Prop:=Fc ops pre->(∀k:Nat,rest[k]? =ops[lo+k]?)->nR P F ops lo Q s
def Tv(P:Program)(F:Fr)(ops:Array Oper)(pre:List (List Nat))(lo:Nat)(rest:List Oper)(Q:Exit->AS->Prop)(C:MI)(base:AS)(R:List Rc)(env:List (Nat×AV))(hp:Hp):Prop:=Fc ops pre->(∀k:Nat,rest[k]? =ops[lo+R.length+k]?)->uv P F ops lo Q C base R env hp
theorem Bq{id:Nat}{l:List Oper}{s:AS}(a:List (List Nat))(f:P.follows .mixedOrders=true)(b:RZ l a a l 0=true)(h:Dw P F l.toArray a 0 l Q s)(c:l.all (λo=>!Op.isDefer o.op)=true:=by rfl):CK P F (.region id l.toArray true) Q s:=
 ui f (h (XQ (by simpa using b) (by simpa using c)) λk=>by simp)
variable{pre:List (List Nat)}{lo:Nat}{rest:List Oper}{s:AS}{o:Oper}
variable{a:List (Nat×AV)}{c:Hp}{f:Nat}
theorem Bb(h:Q .normal s):Dw P F ops pre lo [] Q s:=λt b f A w a g r y=>by
 have l:=b 0
 have v:ops.size<=lo:=by
  simp at l
  exact l
 have b:Region.ready .any ops a=[]:=by
  refine List.eq_nil_iff_forall_not_mem.2 λj x=>?_;obtain ⟨c,o,z,_⟩:=mem_ready.1 x;have u:j<ops.size:=(ld.1 z).1;have:=y j;rw[Υ (by omega)] at this;unfold Lf at this;rw[mg,lJ (by omega)] at c this
  simp at c this
  rw[this] at c;cases c
 cases cnt (Lf a) ops.size with
 | zero=>exact ⟨b,s,f,h,g⟩
 | succ n=>exact ⟨λ_=>⟨s,f,h,g⟩,λi k=>by rw[b] at k;cases k⟩
theorem A0(x:Nat)(y:Nat.beq (lo+1) x=true)(G:Vw pre (lo+(rest.length+1)) lo x=true)(h:An P F ops [o] (λe b=>e= .normal/\Dw P F ops pre x rest Q b) s):Dw P F ops pre lo (o::rest) Q s:=λf l=>by
 have g:=ki y;subst g;have E:ops[lo]? =some o:=by have:=l 0;simpa using this.symm
 have v:ops.size=lo+(rest.length+1):=by
  have j:=l (rest.length+1);have i:=l rest.length;have B:(o::rest)[rest.length]?≠none:=by simp
  rw[i] at B;have I:lo+rest.length<ops.size:=Nat.lt_of_not_le λc=>B (Array.getElem?_eq_none c);have H:ops[lo+(rest.length+1)]? =none:=by rw[<-j];simp
  have:=Array.getElem?_eq_none_iff.1 H;omega
 refine uQ f E (by rw[v];exact G) (λC A w D=>?_)
 have t:∀(e:Exit) b,(e= .normal/\Dw P F ops pre (lo+1) rest Q b)->(e= .normal/\nR P F ops (lo+1) Q b):=λe b ⟨j,i⟩=>⟨j,i f λk=>by
  have:=l (k+1);rw[List.getElem?_cons_succ] at this
  rw[this];congr 1;omega⟩
 have c:=h C A w D;unfold wpListIn at c⊢
 have z:∀e a w,VG F (λe b=>e= .normal/\Dw P F ops pre (lo+1) rest Q b) e a w->VG F (λe b=>e= .normal/\nR P F ops (lo+1) Q b) e a w:=λe a w ⟨b,r,j,i⟩=>⟨b,r,t e b j,i⟩
 split
 .rename_i u
  rw[ϱ u] at c;exact Fo (λa w h=>z _ _ _ h) (λe a w _ h=>z e a w h) c
 .rename_i u
  rw[ν u] at c;exact ⟨c.1,z _ _ _ c.2⟩
theorem B2(h:Tv P F ops pre lo rest Q C0 ⟨f,a,c⟩ [] a c):Dw P F ops pre lo rest Q ⟨f,a,c⟩:=λb g=>iS (λ_=>trivial) (h b g)
abbrev C2(f:Nat)(c1 c2:List AL):MI:=λg x=>g=f->x=some c1\/x=some c2
theorem be(b:Nat){j:List AL}(t:List AL)(r:dr c b=some j)(h:Tv P F ops pre lo rest Q (C2 b j t) ⟨f,a,c⟩ [] a c):Dw P F ops pre lo rest Q ⟨f,a,c⟩:=λi k=>iS (λg l=>by subst l;exact .inl r) (h i k)
variable{C:MI}{base:AS}{R:List Rc}{env:List (Nat×AV)}{hp:Hp}
variable{a:List (Nat×AV)}{c:Array Edge}{f:Nat->Nat->Bool}{g:String}{h:TypeId}{i:Option Tmp}{j:AV}{k:Hp}{t:Op}{u:Nat}{w:Bool}{x:Rc}{y z A:Nat}
theorem yE(g:Nat)(k:Nat.beq (lo+(x::R).length) g=true)(y:Vw pre (g+rest.length) lo g=true)(f:JP pre lo base.env base.hp (x::R)=true)(h:Dw P F ops pre g rest Q ⟨base.n,env,hp⟩):Tv P F ops pre lo rest Q C base (x::R) env hp:=λb j=>by
 have c:=ki k;subst c
 have a:ops.size<=lo+(x::R).length+rest.length:=by
  have G:=j rest.length;have D:ops[lo+(x::R).length+rest.length]? =none:=by rw[<-G];simp
  exact Array.getElem?_eq_none_iff.1 D
 intro B hV A z
 have w:lo+(x::R).length<=ops.size:=by
  obtain ⟨o,u,_⟩:=hV.2.1;have:=(ld.1 u).1;simp only[mH];omega
 have i:ops.size=lo+(x::R).length+rest.length:=by
  rcases hrl:rest with _ | ⟨o,r⟩
  .rw[hrl] at a;simp only[lT,l7] at a⊢;omega
  .have t:=j r.length;rw[hrl] at t a;have l:(o::r)[r.length]?≠none:=by simp
   rw[t] at l;have E:lo+(x::R).length+r.length<ops.size:=Nat.lt_of_not_le λv=>l (Array.getElem?_eq_none v);simp only[mH] at a E⊢;omega
 exact iT b (lY _) (by rw[i];exact y) f (h b j) B hV A z
theorem Aa(b:AA P F ⟨i,t,h,g,c,none⟩ s A j):JZ P F ops ⟨i,t,h,g,c,none⟩ s A j:=by
 refine ⟨I4 b.1,λu l w f=>?_⟩;unfold Gx;rw[ϱ (by simp[Region.wanted])];refine qk ?_ (b.2.2 u l w f);rintro r D ⟨v,B,z,k,y,x⟩;exact ⟨v,B,z,⟨k.os.trans f.heap.os.symm,k.tape.trans f.heap.tape.symm,k.output.trans f.heap.output.symm,k.drawn⟩,y,x⟩
theorem Rx{f:Nat->Nat->Value}{b:Act}{a:World}(h:SR F s f b a)(i:(ops[z]?).bind (·.dst)=some y)(g:get s.env y=some (.d (.raw (.bool w)))):yielded ops b.tmps z=some w:=by
 have c:=h.env y _ g;unfold yielded;rw[i]
 cases c with
 | d c=>
  generalize k:b.tmps.getD y undef=v at c
  cases c with
  | raw _=>
   simp only[mW];rw[mg] at k
   grind[undef]
theorem BR{b:Bool}(E:(ops[z]?).bind (·.dst)=some y)(D:get s.env y=some (.d (.raw (.bool w))))(G:w=b)(k:AA P F ⟨i,t,h,g,c,some (z,b)⟩ s A j):JZ P F ops ⟨i,t,h,g,c,some (z,b)⟩ s A j:=by
 refine ⟨I4 k.1,λB u f l=>?_⟩;unfold Gx;rw[ϱ (by simp[Region.wanted,Rx l E D,G])];refine qk ?_ (k.2.2 B u f l);rintro x L ⟨v,K,J,r,I,H⟩;exact ⟨v,K,J,⟨r.os.trans l.heap.os.symm,r.tape.trans l.heap.tape.symm,r.output.trans l.heap.output.symm,r.drawn⟩,I,H⟩
theorem Bw{b:Bool}(k:(ops[z]?).bind (·.dst)=some y)(i:get s.env y=some (.d (.raw (.bool w))))(r:w=!b)(l:Nat.blt u s.n=true):JZ P F ops ⟨some u,t,h,g,c,some (z,b)⟩ s u (.d (.tup [])):=by
 refine ⟨I4 l,λx v a f=>?_⟩;unfold Gx;rw[ν (by cases b<;>simp[Region.wanted,Rx f k i,r])];exact ⟨_,Z,M0,⟨Z,Z,Z,f.heap.drawn⟩,Θ _,λ_ _=>rfl⟩
theorem Cg{b:AS}(a:AH P F ⟨i,t,h,g,c,none⟩ s b f):jY P F ops ⟨i,t,h,g,c,none⟩ s b f:=by grind[Gx,Region.wanted,qk,s0,AH,jY]
theorem Mh{lo:Nat}{R:List Rc}{rc:Rc}(a:∀k:Nat,(o::rest)[k]? =ops[lo+R.length+k]?):ops[lo+R.length]? =some o/\∀k:Nat,rest[k]? =ops[lo+(rc::R).length+k]?:=by
 refine ⟨by have:=a 0;simpa using this.symm,λk=>?_⟩;have:=a (k+1)
 grind
def kg(rd nm:List Nat)(d:Nat)(a:AV):Rc:=⟨rd,[(d,some a)],nm,[],false,λ_ _=>true⟩
theorem A1(rd b:List Nat)(B:pick env rd=some a)(D:Be hp b=some k)(h:∀F,JZ P F ops o ⟨base.n,a,k⟩ u j)(H:Tv P F ops pre lo rest Q C base (kg rd b u j::R) ((u,j)::env) hp):Tv P F ops pre lo (o::rest) Q C base R env hp:=λr z I hV y w=>by
 obtain ⟨A,i⟩:=Mh (rc:=kg rd b u j) z;refine H r i I ⟨hV,⟨o,A,JX.pure B D y w h⟩,λf E=>absurd Z E,λf c G=>by cases G⟩ (λt x g=>?_) λf=>?_
 .show GS _ _ (RS (kg rd b u j::R)) t=_;simp only[RS,k6,GS,kg,Bn];rcases NP g with ⟨rfl,rfl⟩ | ⟨v,g⟩
  .simp
  .rw[I9 v];exact y t x g
 .show _=GS _ _ (RF (kg rd b u j::R)) f;simp only[RF,k6,GS,kg,Bn];exact w f
theorem Jo(rd b:List Nat){f:Nat}{y w:List AL}(E:pick env rd=some a)(G:Be hp b=some k)(v:iB f b=false)(L:∀F,JZ P F ops o ⟨base.n,a,(f,y)::k⟩ u j)(K:∀F,JZ P F ops o ⟨base.n,a,(f,w)::k⟩ u j)(I:Tv P F ops pre lo rest Q (C2 f y w) base (kg rd b u j::R) ((u,j)::env) hp):Tv P F ops pre lo (o::rest) Q (C2 f y w) base R env hp:=λi B J hV A z=>by
 obtain ⟨D,h⟩:=Mh (rc:=kg rd b u j) B;refine I i h J ⟨hV,⟨o,D,JX.pure2 E G v A z (λx g=>g Z) L K⟩,λf v=>absurd Z v,λf c H=>by cases H⟩ (λt x g=>?_) λf=>?_
 .show GS _ _ (RS (kg rd b u j::R)) t=_;simp only[RS,k6,GS,kg,Bn];rcases NP g with ⟨rfl,rfl⟩ | ⟨r,g⟩
  .simp
  .rw[I9 r];exact A t x g
 .show _=GS _ _ (RF (kg rd b u j::R)) f;simp only[RF,k6,GS,kg,Bn];exact z f
theorem Ay(rd:List Nat)(b:pick env rd=some a)(c:Be hp (lV base.hp)=some k)(h:∀F,JZ P F ops o ⟨base.n,a,k⟩ u j)(f:Tv P F ops pre lo rest Q C base (kg rd (lV base.hp) u j::R) ((u,j)::env) hp):Tv P F ops pre lo (o::rest) Q C base R env hp:=A1 rd _ b c h f
def mP(rd nm:List Nat)(dv:List (Nat×AV))(p:Nat->Nat->Bool)(env:List (Nat×AV))(hs':Hp)(xs:List Nat):Rc:=⟨rd,Zw (kb dv nm p env xs),nm,Q8 hs' nm,true,PT nm p⟩
theorem Kj(M:List Nat)(rd z:List Nat)(I:List (Nat×AV)){l' H:List (Nat×AV)}{u E N:Hp}(hl:pick env rd=some a)(hh:Be hp z=some k)(h:∀F,jY P F ops o ⟨base.n,a,k⟩ ⟨base.n,l',u⟩ f)(V:(I=[]/\o.dst=none)\/∃d j,I=[(d,j)]/\o.dst=some d/\Nat.blt d base.n=true/\get l' d=some j/\j.ok (Jy z)=true)(n1:A6 z u=true)(n2:GK z u=true)(X:CE (PT z f) env=some H)(w:Cj z hp=some E)(K:some (u++E)=some N)(hK:Tv P F ops pre lo rest Q C base (mP rd z I f env u M::R) (I++H) N)(Y:∀i c,Bn (Q8 u z) i=some c->C i c:=by intro _ _ _;trivial):Tv P F ops pre lo (o::rest) Q C base R env hp:=λT hr hC hV O W=>by
 injection K with K
 subst K;obtain ⟨ho,D⟩:=Mh (rc:=mP rd z I f env u M) hr
 have A:∀i,dr E i=if i∈z then none else dr hp i:=by
  clear hK W O hr D hh
  intro i
  induction hp generalizing E with
  | nil=>simp only[Cj,Option.some.injEq] at w;subst w;simp[dr]
  | cons q r ih=>
   obtain ⟨g,x⟩:=q;simp only[Cj] at w
   split at w
   .cases w
   .rename_i r' D
    have J:=ih D
    split at w<;>(injection w with w;subst w)
    .rename_i B
     by_cases e:g=i
     .subst e;rw[J,ϱ (Gc.1 B),ϱ (Gc.1 B)]
     .simp only[dr,I9 e];exact J
    .rename_i B
     by_cases e:g=i
     .subst e;have:g∉z:=λh=>by rw[Gc.2 h] at B;cases B
      simp[dr,this]
     .simp only[dr,I9 e];exact J
 refine hK T D hC ⟨hV,⟨o,ho,JX.eff hl hh O W h V n1 n2⟩,λi U=>?_,Y⟩ (λt x v=>?_) λi=>?_
 .have L:Bn (Q8 u z) i≠none:=U;rw[Jc] at L
  by_cases B:i∈z
  .exact B
  .rw[ν B] at L;exact absurd Z L
 .show GS _ _ (RS (mP rd z I f env u M::R)) t=_;simp only[RS,k6,GS,mP];rw[ML,kb,Jh];rw[Jh] at v
  cases hd:get I t with
  | some y=>rw[hd] at v;simp at v;subst v;simp
  | none=>
   rw[hd] at v;simp only[Option.none_or] at v⊢;rw[X6 X] at v;rw[LU];have B:iB t []=false:=rfl;rw[B]
   cases hg:get env t with
   | none=>rw[hg] at v;cases v
   | some b=>
    rw[hg] at v;simp only[lW,Option.some.injEq] at v
    by_cases G:b= .top
    .subst G
     have S:x= .top:=by
      cases hq:AV.top.ok (PT z f)<;>(rw[hq] at v;exact v.symm)
     subst S
     cases hm2:iB t M with
     | true=>
      simp only[AV.okK,Bool.not_true,lW,Option.getD_some]
     | false=>
      simp only[AV.okK,Bool.not_false,mZ,Option.getD_none];exact O t _ hg
    simp only[AV.okK_eq G]
    cases hb:b.ok (PT z f) with
    | true=>
     rw[hb] at v;simp only at v;subst v;simp only[mZ,Option.getD_none];exact O t b hg
    | false=>
     rw[hb] at v;simp only at v;subst v;simp only[lW,Option.getD_some]
 .show _=GS _ _ (RF (mP rd z I f env u M::R)) i;simp only[RF,k6,GS,mP];rw[V3 n1 i (λU=>by rw[A,ϱ U]),Jc,A]
  split
  .simp
  .simp only[Option.getD_none];exact W i
theorem Cv(rd j:List Nat)(v:List (Nat×AV)){A r:List (Nat×AV)}{i t u:Hp}(E:pick env rd=some a)(G:Be hp j=some k)(h:∀F,jY P F ops o ⟨base.n,a,k⟩ ⟨base.n,A,i⟩ f)(y:(v=[]/\o.dst=none)\/∃d g,v=[(d,g)]/\o.dst=some d/\Nat.blt d base.n=true/\get A d=some g/\g.ok (Jy j)=true)(D:A6 j i=true)(B:GK j i=true)(z:CE (PT j f) env=some r)(w:Cj j hp=some t)(x:some (i++t)=some u)(H:Tv P F ops pre lo rest Q C base (mP rd j v f env i []::R) (v++r) u)(hCn:∀b c,Bn (Q8 i j) b=some c->C b c:=by intro _ _ _;trivial):Tv P F ops pre lo (o::rest) Q C base R env hp:=Kj [] rd j v E G h y D B z w x H hCn
theorem BV(c:Nat){n:Nat}{a:List (Nat×AV)}{b:Hp}(g:Nat.beq (lo+(x::R).length) c=true)(i:Vw pre (c+rest.length) lo c=true)(f:JP pre lo a b (x::R)=true)(h:Dw P F ops pre c rest Q ⟨n,env,hp⟩):Tv P F ops pre lo rest Q C ⟨n,a,b⟩ (x::R) env hp:=yE c g i f h
end
abbrev rg(n:Nat):List Nat:=List.range n
section
variable{P:Program}{ops:Array Oper}{Q:Exit->AS->Prop}{F:Fr}{pre:List (List Nat)}{lo:Nat}{rest:List Oper}{C:MI}{base:AS}{R:List Rc}{env:List (Nat×AV)}{hp:Hp}
variable{a:Array Edge}{c:String}{f:TypeId}{g:Nat}{h:AV}
theorem AK(rd:List Nat){l:List (Nat×AV)}{j:Option Tmp}{i:Op}(k:pick env rd=some l)(b:∀{F},AA P F ⟨j,i,f,c,a,none⟩ ⟨base.n,l,[]⟩ g h)(o:Tv P F ops pre lo rest Q C base (kg rd [] g h::R) ((g,h)::env) hp):
  Tv P F ops pre lo (⟨j,i,f,c,a,none⟩::rest) Q C base R env hp:=A1 rd [] k Z (λ_=>Aa b) o
theorem A7(t:Nat)(b:get env t=some h)(i:Nat.blt g base.n=true)(j:Tv P F ops pre lo rest Q C base (kg [t] [] g h::R) ((g,h)::env) hp):
  Tv P F ops pre lo (⟨some g,.move (.tmp t),f,c,a,none⟩::rest) Q C base R env hp:=
 AK [t] (l:=[(t,h)]) (by simp[pick,b]) (FW (by simp[AS.ev,get]) i) j
end
theorem CK.code{P:Program}{F:Fr}{Q:Exit->AS->Prop}{s:AS}{c a:Code}(e:c=a)(h:CK P F a Q s):CK P F c Q s:=e▸h
end Go.Proofs.YteifpcnphnhaoaaGreat
