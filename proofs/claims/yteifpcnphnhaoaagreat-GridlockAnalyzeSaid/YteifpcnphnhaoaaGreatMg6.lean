import Derived.Test.YteifpcnphnhaoaaGreatMg5
import Derived.Orders
namespace Go.Proofs.YteifpcnphnhaoaaGreat
open Go.RowKit
variable{a:Nat->Nat->Bool}{c:Type}{f:List (Nat×AV)}{t:Nat}{R:List (List (Nat×c))}{g:List (Nat×Option (List AM))}{h:Nat->c}{i:List (List Nat)}{j:Type}{k:List (Nat×Option AV)}{o:Hp}{s:List (Nat×c)}{u:List AM}{w:List j}{K:Act->World->Prop}{x:Nat}{y:World}{z A:Nat}{P:Program}{C F:j}{G:Nat}{H:Oper}{I:Nat->Bool}{L:Act}{M:AV}{N:AM}{S:Nat}
def Bo{α:Type}:List (Nat×α)->Nat->Option α
 | [],_=>none
 | (k,a)::r,t=>match Nat.beq k t with
  | true=>some a
  | false=>Bo r t
def GR{α:Type}(base:Nat->α)(L:Nat->Bool):List (List (Nat×α))->Nat->α
 | [],t=>base t
 | ws::r,t=>match L r.length with
  | true=>(Bo ws t).getD (GR base L r t)
  | false=>GR base L r t
theorem Id(h:w.reverse[z]? =some C):(F::w).reverse[z]? =some C:=by grind
theorem NW:(F::w).reverse[w.length]? =some F:=by simp
theorem js(h:(F::w).reverse[z]? =some C):w.reverse[z]? =some C\/(z=w.length/\C=F):=by grind
theorem MW{r:List j}(h:r.reverse[z]? =some C):z<r.length:=by grind
theorem Gx{L:Nat->Bool}(a:∀k b,R.reverse[k]? =some b->Bo b t≠none->L k=I k):GR h L R t=GR h I R t:=by
 induction R with
 | nil=>rfl
 | cons b r g=>
  have f:=g λk b j i=>a k b (Id j) i;simp only[GR]
  grind
theorem Oe{A a:List (List (Nat×c))}:GR h (λk=>decide (k<a.length)) (A++a) t=GR h (λ_=>true) a t:=by
 induction A with
 | nil=>exact Gx λk f b _=>by have:=MW (r:=a) b;simp[this]
 | cons x r g=>
  grind[GR]
theorem kf{base:Nat->c}{L:Nat->Bool}{R:List (List (Nat×c))}{t:Nat}:(GR base L R t=base t/\∀k b,R.reverse[k]? =some b->Bo b t≠none->L k=false)\/∃k b,R.reverse[k]? =some b/\L k=true/\Bo b t=some (GR base L R t):=by
 induction R with
 | nil=>exact .inl ⟨Z,λk b h=>by simp at h⟩
 | cons b r o=>
  cases hL:L r.length with
  | false=>
   grind[GR]
  | true=>
   cases hw:Bo b t with
   | some a=>
    have e:GR base L (b::r) t=a:=by simp only[GR,hL,hw,Option.getD_some]
    exact .inr ⟨r.length,b,NW,hL,by rw[e];exact hw⟩
   | none=>
    have e:GR base L (b::r) t=GR base L r t:=by simp only[GR,hL,hw,Option.getD_none]
    rw[e];rcases o with ⟨j,i⟩ | ⟨k,f,j,i,s⟩
    .refine .inl ⟨j,λk f g l=>?_⟩;rcases js g with g | ⟨rfl,rfl⟩
     .exact i k f g l
     .exact absurd hw l
    .exact .inr ⟨k,f,Id j,i,s⟩
theorem Od{L:Nat->Bool}{i:Nat}{ws:List (Nat×c)}(v:R.reverse[i]? =some ws)(y:L i=false)(l:∀k,I k=if k=i then true else L k)(g:Bo ws t≠none->∀k f,R.reverse[k]? =some f->i<k->L k=true->Bo f t=none):GR h I R t=(Bo ws t).getD (GR h L R t):=by
 induction R with
 | nil=>simp at v
 | cons x r w=>
  rcases js v with j | ⟨rfl,rfl⟩
  .have s:r.length≠i:=by have:=MW j;omega
   have b:=w j λo k f u=>g o k f (Id u);simp only[GR,l,υ s]
   cases hLr:L r.length with
   | false=>exact b
   | true=>
    cases o:Bo ws t with
    | none=>rw[o] at b;simp only[Option.getD_none] at b⊢;rw[b]
    | some a=>
     rw[g (by rw[o];simp) r.length x NW (MW j) hLr];rw[o] at b
     simpa using b
  .simp only[GR,l,if_true,y]
   congr 1
   refine Gx λk f u _=>?_;rw[l,υ (by have:=MW u;omega)]
structure Rc where
 rd:List Nat
 ws:List (Nat×Option AV)
 nm:List Nat
 fs:List (Nat×Option (List AM))
 eff:Bool
 ok:Nat->Nat->Bool
def HV{α:Type}(ws:List (Nat×α)):List Nat->Bool
 | []=>true
 | t::r=>(match Bo ws t with
  | none=>true
  | some _=>false) && HV ws r
theorem Eg{l:List Nat}(h:HV s l=true){t:Nat}(b:t∈l):Bo s t=none:=by
 induction l with
 | nil=>cases b
 | cons a r f=>
  grind[HV]
def P3{α:Type}:List (Nat×α)->List Nat
 | []=> []
 | (k,_)::r=>k::P3 r
theorem VP(h:Bo s t≠none):t∈P3 s:=by
 induction s with
 | nil=>exact absurd Z h
 | cons p r a=>
  grind[Bo,kn,P3]
def yV(p:Nat->Nat->Bool):AM->Bool
 | .blk _ cs=>vE p cs
 | .row _ _ xs=>xs.all λx=>av p x.cells
 | .rowD _ _ _=>true
 | .loop L=>NZ p L.env
 | .map _ _=>true
 | .iter f i _ _=>p f i
 | .addr f i _=>p f i
 | .any=>true
 | .nb _ _ _=>true
 | .nr _ _ _ _ _=>true
 | .nm _ _ _=>true
 | .itz=>true
 | .multi _=>true
def Us(p:Nat->Nat->Bool):List AM->Bool
 | []=>true
 | o::r=>yV p o && Us p r
theorem fK(h:yV a N=true)(g:N.Refs G A):a G A=true:=by
 cases N with
 | blk t B=>obtain ⟨c,j,g⟩:=g;exact PR h j g
 | row t k s=>obtain ⟨x,v,c,j,g⟩:=g;exact GD (ms.1 h x v) j g
 | rowD t k s=>exact g.elim
 | loop L=>obtain ⟨t,b,w,g⟩:=g;exact PQ h w g
 | map _ z=>exact g.elim
 | iter y u _ _=>obtain ⟨r,l⟩:=g;subst r l;exact h
 | addr y u _=>obtain ⟨r,l⟩:=g;subst r l;exact h
 | any=>exact g.elim
 | nb _ _ _=>exact g.elim
 | nr _ _ _ _ _=>exact g.elim
 | nm _ _ _=>exact g.elim
 | itz=>exact g.elim
 | multi _=>exact g.elim
theorem au(h:Us a u=true)(c:N∈u)(j:N.Refs G A):a G A=true:=by
 induction u with
 | nil=>cases c
 | cons b r g=>
  grind[Us,fK]
def XS(p:Nat->Nat->Bool)(ex:List (Nat×Option AV)):List (Nat×Option AV)->Bool
 | []=>true
 | (t,a)::r=>(match Bo ex t with
  | some _=>true
  | none=>match a with
   | none=>true
   | some a=>a.ok p) && XS p ex r
theorem R1{f:List (Nat×Option AV)}(h:XS a k f=true)(g:Bo f t=some (some M))(j:Bo k t=none):M.ok a=true:=by
 induction f with
 | nil=>cases g
 | cons q r i=>
  obtain ⟨c,b⟩:=q;simp only[XS,kQ] at h
  grind[Bo,kn]
def XT(p:Nat->Nat->Bool)(ex:List (Nat×Option (List AM))):List (Nat×Option (List AM))->Bool
 | []=>true
 | (t,a)::r=>(match Bo ex t with
  | some _=>true
  | none=>match a with
   | none=>true
   | some l=>Us p l) && XT p ex r
theorem R2{c:List (Nat×Option (List AM))}(h:XT a g c=true)(f:Bo c t=some (some u))(j:Bo g t=none):Us a u=true:=by
 induction c with
 | nil=>cases f
 | cons q r i=>
  obtain ⟨k,b⟩:=q;simp only[XT,kQ] at h
  grind[Bo,kn]
def wW(p:Nat->Nat->Bool)(ex:List (Nat×Option AV)):List Nat->List (Nat×AV)->Bool
 | _,[]=>true
 | ks,(t,a)::r=>(match iG t ks with
  | true=>true
  | false=>match Bo ex t with
   | some _=>true
   | none=>a.ok p) && wW p ex (t::ks) r
theorem fM{g:List Nat}(h:wW a k g f=true)(i:get f t=some M)(l:t∉g)(s:Bo k t=none):M.ok a=true:=by
 induction f generalizing g with
 | nil=>cases i
 | cons q r o=>
  obtain ⟨c,b⟩:=q;simp only[wW,kQ] at h;rcases NL i with ⟨rfl,rfl⟩ | ⟨j,i⟩
  .have:iG c g=false:=by
    cases hm:iG c g with
    | false=>rfl
    | true=>exact absurd (Gb.1 hm) l
   grind
  grind
def wV(p:Nat->Nat->Bool)(ex:List (Nat×Option (List AM))):Hp->Bool
 | []=>true
 | (f,l)::r=>(match Bo ex f with
  | some _=>true
  | none=>Us p l) && wV p ex r
theorem fL(h:wV a g o=true)(b:ek o G=some u)(i:Bo g G=none):Us a u=true:=by
 induction o with
 | nil=>cases b
 | cons q r c=>
  grind[wV,ek,kn]
def PJ(ord:Bool)(rj ri:Rc):Bool:=
 (ord || (HV rj.ws ri.rd &&(HV rj.ws (P3 ri.ws) &&(HV ri.ws rj.rd &&(HV rj.fs ri.nm && HV ri.fs rj.nm))))) &&
 ((!ri.eff || (XS ri.ok ri.ws rj.ws && XT ri.ok ri.fs rj.fs)) &&(ord || (!rj.eff || (XS rj.ok rj.ws ri.ws && XT rj.ok rj.fs ri.fs))))
def ja:List (List Nat)->Nat->List Nat
 | [],_=> []
 | l::_,0=>l
 | _::r,i+1=>ja r i
def OY(pr:List Nat)(lo:Nat)(ri:Rc):List Rc->Bool
 | []=>true
 | rj::r=>PJ (iG (lo+r.length) pr) rj ri && OY pr lo ri r
def JI(pre:List (List Nat))(lo:Nat)(env:List (Nat×AV))(hp:Hp):List Rc->Bool
 | []=>true
 | ri::r=>OY (ja pre (lo+r.length)) lo ri r &&((!ri.eff || (wW ri.ok ri.ws [] env && wV ri.ok ri.fs hp)) && JI pre lo env hp r)
variable{E Q:Rc}
theorem Tc{b:List Nat}{r:List Rc}(h:OY b x E r=true)(c:r.reverse[S]? =some Q):PJ (iG (x+S) b) Q E=true:=by
 induction r with
 | nil=>simp at c
 | cons a r f=>
  grind[OY]
variable{B:List Rc}
theorem G9(h:JI i x f o B=true)(c:B.reverse[A]? =some E)(k:B.reverse[S]? =some Q)(b:S<A):PJ (iG (x+S) (ja i (x+A))) Q E=true:=by
 induction B with
 | nil=>simp at c
 | cons a r g=>
  grind[JI,js,Tc]
theorem Ni(h:JI i x f o B=true)(b:B.reverse[A]? =some E)(g:E.eff=true):wW E.ok E.ws [] f=true/\wV E.ok E.fs o=true:=by
 induction B with
 | nil=>simp at b
 | cons a r c=>
  grind[JI]
def RU(ops:List Oper)(pre:List (List Nat)):List (List Nat)->List Oper->Nat->Bool
 | [],[],_=>true
 | l::ls,o::os,i=>(l.all λx=>o.after.toList.any λe=>Region.binds .any e &&(Nat.beq e.on x || iG x (ja pre e.on))) &&((o.after.toList.all λe=>!Region.binds .any e || Nat.blt e.on i) && RU ops pre ls os (i+1))
 | _,_,_=>false
def Gv(P:Program)(ops:Array Oper)(o:Oper)(K:Act->World->Prop)(a:Act)(w:World):Prop:=
 if Region.wanted o (yielded ops a.tmps) then o.wp P a w K (λ_ _ _=>False) else K (a.put o.dst undef) w
theorem H4{b:Array Oper}{c:Act->World->Prop}(f:∀L y,K L y->c L y)(h:Gv P b H K L y):Gv P b H c L y:=by grind[Gv,qr]
theorem sa(h:H.wp P L y K (λ_ _ _=>False)):H.wp P L y (λc g=>K c g/\∃v,c.tmps=(L.put H.dst v).tmps) (λ_ _ _=>False):=by
 unfold Oper.wp at h⊢
 generalize (execOp L.eval H).run P y=r at h
 cases r with
 | ok x y=>
  cases x with
  | value v=>exact ⟨h,v,Z⟩
  | skip=>exact ⟨h,_,Z⟩
  | defer d=>
   refine ⟨h,undef,?_⟩
   cases H.dst<;>rfl
  | enter f b=>
   grind[Oper.upon_enter]
  | row r b=>
   grind[Oper.upon_row]
  | _=>exact h.elim
 | halt x y=>
  cases x<;>exact h.elim
abbrev MG:=Nat->Option (List AM)->Prop
abbrev C0:MG:=λ_ _=>True
def JT(P:Program)(ops:Array Oper)(n:Nat)(o:Oper)(rc:Rc)(C:MG)(kd:Nat->Option AV)(ke:Nat->Option (List AM)):Prop:=
 ∀F ρ act w env hp,SR F ⟨n,env,hp⟩ ρ act w->(∀f,C f (ek hp f))->(∀t∈rc.rd,get env t=kd t)->(∀f∈rc.nm,ek hp f=ke f)→
  (rc.eff=true->∀t a,get env t=some a->Bo rc.ws t=none->a.ok rc.ok=true)->(rc.eff=true->∀f l,ek hp f=some l->Bo rc.fs f=none->Us rc.ok l=true)→
  Gv P ops o (λact' w'=>∃ρ' env' hp',SR F ⟨n,env',hp'⟩ ρ' act' w'/\(∀t,get env' t=(Bo rc.ws t).getD (get env t))/\∀f,ek hp' f=(Bo rc.fs f).getD (ek hp f)) act w
def JV(P:Program)(F:Fr)(ops:Array Oper)(o:Oper)(s:AS)(d:Nat)(a:AV):Prop:=d<s.n/\∀ρ act w,SR F s ρ act w→
 Gv P ops o (λact' w'=>∃v,act'=act.put (some d) v/\A8 w' (F.O ρ s.hp) ρ a v/\(w'.os=w.os/\w'.tape=w.tape/\w'.output=w.output/\F.w0.drawn<=w'.drawn)/\w.heap.size<=w'.heap.size/\∀b,b<w.heap.size->w'.heap[b]? =w.heap[b]?) act w
def jZ(P:Program)(F:Fr)(ops:Array Oper)(o:Oper)(s s':AS)(p:Nat->Nat->Bool):Prop:=∀ρ act w,SR F s ρ act w→
 Gv P ops o (λact' w'=>∃ρ',SR F s' ρ' act' w'/\(∃v,act'.tmps=(act.put o.dst v).tmps)/\∀f i,p f i=true->ρ' f i=ρ f i) act w
theorem Bj.stay{F:Fr}{r:Nat->Nat->Value}{g:World}(h:Bj F o r y)(j:g.os=y.os/\g.tape=y.tape/\g.output=y.output/\F.w0.drawn<=g.drawn)(l:y.heap.size<=g.heap.size)(k:∀b,b<y.heap.size->g.heap[b]? =y.heap[b]?):Bj F o r g:=by
 refine ⟨λf i a j=>?_,h.inj,λb k=>⟨ln (h.mine b k).1 l,(h.mine b k).2⟩,j.1.trans h.os,j.2.1.trans h.tape,j.2.2.1.trans h.output,jq h.size0 l,λb c t=>?_,h.pins,j.2.2.2⟩
 .exact (h.sim f i a j).mono l (λb c _=>k b c) (λ_ _ h=>h) (λb s=>k b (h.mine b ⟨f,i,a,j,s⟩).1) λ_ _ _=>rfl
 .rw[k b (ln c h.size0)];exact h.keep b c t
theorem KV{b:Hp}{c:List Nat}(h:Bg o c=some b):A6 c b=true/\∀g,g∈c->ek b g=ek o g:=by
 have i:∀(c:List Nat) (b:Hp),Bg o c=some b->(∀g l,(g,l)∈b->g∈c)/\∀g,g∈c->ek b g=ek o g:=by
  intro c
  induction c with
  | nil=>intro b h;simp only[Bg,Option.some.injEq] at h;subst h;exact ⟨(λg l h=>by cases h),(λg h=>by cases h)⟩
  | cons a r j=>
   intro b h;simp only[Bg] at h
   split at h
   .cases h
   .rename_i l v
    obtain ⟨s,t⟩:=j l v
    split at h
    .rename_i u
     injection h with h;subst h
     refine ⟨λg x f=>kx _ (s g x f),λg f=>?_⟩;rcases ju.1 f with rfl | f
     .by_cases w:g∈r
      .grind
      .rw[u]
       cases hh:ek l g with
       | none=>rfl
       | some x=>
        have:∀(l:Hp) x,ek l g=some x->∃y,(g,y)∈l:=by
         intro l
         induction l with
         | nil=>intro x h;cases h
         | cons p q j=>
          grind[ek,kn]
        grind
     grind
    grind[ek,kn,mH]
 obtain ⟨s,t⟩:=i c b h;refine ⟨?_,t⟩
 clear h t i
 induction b with
 | nil=>rfl
 | cons p r j=>
  obtain ⟨k,l⟩:=p;simp only[A6,kQ];exact ⟨Gb.2 (s k l k8),j λg l f=>s g l (kx _ f)⟩
theorem Fg{hp CH:Hp}{nm:List Nat}(h:∀g,g∈nm->ek hp g=ek CH g):C1 hp CH nm:=by
 induction nm with
 | nil=>trivial
 | cons a r b=>exact ⟨h a k8,b λg c=>h g (kx _ c)⟩
theorem PH{b:List (Nat×AV)}{rd:List Nat}{l:List (Nat×AV)}(c:pick b rd=some l):∀t a,get l t=some a->t∈rd/\get b t=some a:=by
 induction rd generalizing l with
 | nil=>intro t a f;simp only[pick,Option.some.injEq] at c;subst c;cases f
 | cons x r g=>
  intro t a f;simp only[pick] at c
  grind[NL,get]
section
variable{P:Program}{ops:Array Oper}{n:Nat}{o:Oper}
variable{a:List Nat}{c f:Nat->Nat->Bool}{g i:List (Nat×AV)}{j:AV}{C:MG}{k s t:Hp}{u w:Nat}
theorem JT.pure{rd J:List Nat}{l i:List (Nat×AV)}{u y:Hp}{d:Nat}{a:AV}{kd:Nat->Option AV}{ke:Nat->Option (List AM)}(T:pick i rd=some l)(U:Bg y J=some u)(V:∀t a,get i t=some a->kd t=some a)(W:∀f,ek y f=ke f){C:MG}(h:∀F,JV P F ops o ⟨n,l,u⟩ d a):JT P ops n o ⟨rd,[(d,some a)],J,[],false,λ_ _=>true⟩ C kd ke:=by
 intro F r B w k E c _ Y X _ _;obtain ⟨S,R⟩:=KV U;obtain ⟨A,Q,I⟩:=Ff F.lo c.heap J (Fg λg N=>by rw[X g N,<-W,R g N]) S;have z:=PH T
 have L:SR (By F F.lo E u r w A) ⟨n,l,u⟩ r B w:=by
  refine ⟨c.size,I▸c.defs,λt x K=>?_,Q⟩;obtain ⟨e1,e2⟩:=z t x K;rw[I];exact c.env t x (by show get k t=some x;rw[Y t e1];exact V t x e2)
 obtain ⟨g0,Z⟩:=h (By F F.lo E u r w A);refine H4 ?_ (Z r B w L);rintro O w' ⟨v,rfl,M,D,H,G⟩;refine ⟨r,(d,a)::k,E,SR.put (s:=⟨n,k,E⟩) ⟨c.size,c.defs.mono H (λb j _=>G b j) (λ_ _ h=>h),λt x K=>(c.env t x K).mono H (λb j _=>G b j) (λ_ _ h=>h) (λ_ _ _=>rfl),c.heap.stay ⟨D.1,D.2.1,D.2.2.1,jq c.heap.drawn D.2.2.2⟩ H G⟩ g0 (by rw[I] at M;exact M),λt=>?_,λf=>rfl⟩;simp only[Bo,get]
 grind
theorem JT.pure2{rd j:List Nat}{l y:List (Nat×AV)}{k I:Hp}{d f:Nat}{c1 c2:List AM}{a:AV}{kd:Nat->Option AV}{ke:Nat->Option (List AM)}(hl:pick y rd=some l)(hh:Bg I j=some k)(hf:iG f j=false)(hS:∀t a,get y t=some a->kd t=some a)(hF:∀f,ek I f=ke f){C:MG}(hC:∀x,C f x->x=some c1\/x=some c2)(h1:∀F,JV P F ops o ⟨n,l,(f,c1)::k⟩ d a)(h2:∀F,JV P F ops o ⟨n,l,(f,c2)::k⟩ d a):JT P ops n o ⟨rd,[(d,some a)],j,[],false,λ_ _=>true⟩ C kd ke:=by
 intro F G E w u B i hCf g1 g2 g3 g4;obtain ⟨p1,p2⟩:=KV hh;have hfn:f∉j:=λhm=>by rw[Gb.2 hm] at hf;cases hf
 have S:∀c,ek B f=some c->(∀F,JV P F ops o ⟨n,l,(f,c)::k⟩ d a)->Gv P ops o (λA X=>∃N z J,SR F ⟨n,z,J⟩ N A X/\(∀t,get z t=(Bo [(d,some a)] t).getD (get u t))/\∀f,ek J f=(Bo ([]:List (Nat×Option (List AM))) f).getD (ek B f)) E w:=λc hc h=>by
  have W:C1 B ((f,c)::k) (f::j):=Fg λg Z=>by
   rcases ju.1 Z with rfl | Z
   .simp[ek,hc]
   grind[ek,I3]
  have V:A6 (f::j) ((f,c)::k)=true:=by
   simp only[A6,kQ];refine ⟨Gb.2 k8,?_⟩
   have S:∀(H:Hp),A6 j H=true->A6 (f::j) H=true:=by
    intro H
    induction H with
    | nil=>intro _;rfl
    | cons p r ih=>
     grind[A6,iG]
   grind
  obtain ⟨L,q1,R⟩:=Ff F.lo i.heap (f::j) W V;have K:=PH hl
  have U:SR (By F F.lo B ((f,c)::k) G w L) ⟨n,l,(f,c)::k⟩ G E w:=by
   refine ⟨i.size,R▸i.defs,λt x T=>?_,q1⟩;obtain ⟨e1,e2⟩:=K t x T;rw[R];exact i.env t x (by show get u t=some x;rw[g1 t e1];exact hS t x e2)
  obtain ⟨k0,k1⟩:=h (By F F.lo B ((f,c)::k) G w L);refine H4 ?_ (k1 G E w U);rintro A X ⟨v,rfl,Y,M,Q,O⟩;refine ⟨G,(d,a)::u,B,SR.put (s:=⟨n,u,B⟩) ⟨i.size,i.defs.mono Q (λb D _=>O b D) (λ_ _ h=>h),λt x T=>(i.env t x T).mono Q (λb D _=>O b D) (λ_ _ h=>h) (λ_ _ _=>rfl),i.heap.stay ⟨M.1,M.2.1,M.2.2.1,jq i.heap.drawn M.2.2.2⟩ Q O⟩ k0 (by rw[R] at Y;exact Y),λt=>?_,λf=>rfl⟩;simp only[Bo,get]
  grind
 grind
def AV.okK(ok:Nat->Nat->Bool)(b:Bool):AV->Bool
 | .top=>!b
 | a=>a.ok ok
theorem AV.okK_eq{b:Bool}(h:j≠ .top):j.okK c b=j.ok c:=by
 cases j<;>first | rfl | exact absurd rfl h
def Ho(ok:Nat->Nat->Bool)(xs:List Nat):List Nat->List (Nat×AV)->List (Nat×AV)
 | _,[]=> []
 | ks,(t,a)::r=>match iG t ks,a.okK ok (iG t xs) with
  | false,false=>(t,.top)::Ho ok xs (t::ks) r
  | _,_=>Ho ok xs (t::ks) r
variable{h:List (Nat×AV)}
theorem LV{g ks:List Nat}{t:Nat}:get (Ho c g ks h) t=match iG t ks,get h t with
  | false,some a=>match a.okK c (iG t g) with
   | true=>none
   | false=>some .top
  | _,_=>none:=by
 induction h generalizing ks with
 | nil=>simp only[Ho,get];cases iG t ks<;>rfl
 | cons q r l=>
  obtain ⟨k,b⟩:=q;have f:=l (ks:=k::ks);simp only[Ho]
  by_cases e:k=t
  .subst e;have i:iG k (k::ks)=true:=Gb.2 k8;rw[i] at f;have j:get ((k,b)::r) k=some b:=by simp only[get,l6]
   rw[j]
   cases h1:iG k ks with
   | true=>exact f
   | false=>
    cases h2:b.okK c (iG k g) with
    | true=>simp only[h2];exact f
    | false=>simp only[h2,get,l6]
  .have i:iG t (k::ks)=iG t ks:=by simp only[iG,I3 e,Bool.false_or]
   rw[i] at f;have j:get ((k,b)::r) t=get r t:=by simp only[get,I3 e]
   rw[j]
   split
   .simp only[get,I3 e];exact f
   .exact f
theorem X2{c:List (Nat×AV)}(b:CD f h=some c)(t:Nat):get c t=(get h t).map λa=>match a.ok f with
  | true=>a
  | false=> .top:=by
 induction h generalizing c with
 | nil=>simp only[CD,Option.some.injEq] at b;subst b;rfl
 | cons q r j=>
  obtain ⟨k,x⟩:=q;simp only[CD] at b
  split at b
  .cases b
  .rename_i s l
   have g:=j l
   split at b<;>(injection b with b;subst b)
   .rename_i i
    by_cases e:k=t
    .subst e;simp only[get,l6,l0,i]
    .simp only[get,I3 e];exact g
   .rename_i i
    by_cases e:k=t
    .subst e;simp only[get,l6,l0,i]
    .simp only[get,I3 e];exact g
def Zs:List (Nat×AV)->List (Nat×Option AV)
 | []=> []
 | (t,a)::r=>(t,some a)::Zs r
theorem MJ(l:List (Nat×AV))(t:Nat):Bo (Zs l) t=(get l t).map some:=by
 induction l with
 | nil=>rfl
 | cons q r a=>
  grind[Zs,Bo,get]
theorem Jf(l a:List (Nat×AV))(t:Nat):get (l++a) t=(get l t).or (get a t):=by
 induction l with
 | nil=>rfl
 | cons q r b=>
  grind[get]
def Q6(hs':Hp):List Nat->List (Nat×Option (List AM))
 | []=> []
 | f::r=>(f,ek hs' f)::Q6 hs' r
theorem J9:Bo (Q6 t a) w=if w∈a then some (ek t w) else none:=by
 induction a with
 | nil=>simp[Q6,Bo]
 | cons b r c=>
  simp only[Q6,Bo]
  by_cases e:b=w
  .subst e;simp
  grind[I3]
def Lp(nm:List Nat):Hp->Hp
 | []=> []
 | (g,l)::r=>match iG g nm with
  | true=>Lp nm r
  | false=>(g,l)::Lp nm r
theorem Kg{b:Hp}(f:Nat):ek (Lp a b) f=if f∈a then none else ek b f:=by
 induction b with
 | nil=>simp[Lp,ek]
 | cons q r g=>
  obtain ⟨k,l⟩:=q;simp only[Lp]
  by_cases e:k=f
  .subst e
   cases hm:iG k a with
   | true=>simp only[g,ϱ (Gb.1 hm)]
   | false=>
    have c:k∉a:=λh=>by rw[Gb.2 h] at hm;cases hm
    simp[ek,c]
  grind[ek,I3]
theorem V1{H b:Hp}(h:A6 a H=true)(f:Nat)(j:f∈a->ek b f=none):ek (H++b) f=if f∈a then ek H f else ek b f:=by
 have c:∀H:Hp,ek (H++b) f=(ek H f).or (ek b f):=by
  intro H
  induction H with
  | nil=>rfl
  | cons p r i=>
   grind[ek]
 rw[c]
 split
 .grind
 .rename_i g
  cases hh:ek H f with
  | none=>rfl
  | some l=>exact absurd (G1 h hh) g
def PO(nm:List Nat)(p:Nat->Nat->Bool)(f i:Nat):Bool:=!(iG f nm) || p f i
def kc(dv:List (Nat×AV))(nm:List Nat)(p:Nat->Nat->Bool)(env0:List (Nat×AV))(xs:List Nat):List (Nat×AV):=dv++Ho (PO nm p) xs [] env0
theorem JT.eff{rd R:List Nat}{l' M:List (Nat×AV)}{kd:Nat->Option AV}{ke:Nat->Option (List AM)}(hl:pick g rd=some i)(hh:Bg k a=some s)(hS:∀c z,get g c=some z->kd c=some z)(hF:∀u,ek k u=ke u)(h:∀F,jZ P F ops o ⟨n,i,s⟩ ⟨n,l',t⟩ f)(hdv:(M=[]/\o.dst=none)\/∃d z,M=[(d,z)]/\o.dst=some d/\Nat.blt d n=true/\get l' d=some z/\z.ok (Ju a)=true)(n1:A6 a t=true)(n2:GG a t=true):
  JT P ops n o ⟨rd,Zs (kc M a f g R),a,Q6 t a,true,PO a f⟩ C kd ke:=by
 intro F ρ V w J hp D _ h1 h2 h3 h4;obtain ⟨p1,p2⟩:=KV hh;have Y:=Fg (hp:=hp) (CH:=s) (nm:=a) λr hg=>by rw[h2 r hg,<-hF,p2 r hg]
 obtain ⟨T,q1,q2⟩:=Ff F.lo D.heap a Y p1;have X:=PH hl
 have hsm:SR (By F F.lo hp s ρ w T) ⟨n,i,s⟩ ρ V w:=by
  refine ⟨D.size,q2▸D.defs,λc x hx=>?_,q1⟩;obtain ⟨O,U⟩:=X c x hx;rw[q2];exact D.env c x (by show get J c=some x;rw[h1 c O];exact hS c x U)
 refine H4 ?_ (h (By F F.lo hp s ρ w T) ρ V w hsm);rintro Q w' ⟨ρ',N,⟨v,hv⟩,hp'⟩
 have H:∀r j,dd (Lp a hp) r j=if r∈a then none else dd hp r j:=λr j=>by
  simp only[dd,Kg]
  split<;>rfl
 have I:∀r j K,dd (Lp a hp) r j=some K->K.Less (PO a f) K:=λr j K B=>by
  rw[H] at B
  split at B
  .cases B
  .rename_i hg
   simp only[dd] at B
   cases hfa:ek hp r with
   | none=>rw[hfa] at B;cases B
   | some lo=>
    rw[hfa] at B;have G:=h4 Z r lo hfa (by rw[J9,υ hg]);exact ⟨λ_ _ _ _ h=>h,λu j hr=>(mX B).elim (λhm=>au G hm hr) (λ⟨_,m,_,_,e⟩=>absurd (e▸hr) Au.norefs),λc cs e=>⟨cs,e⟩,λc cs e=>⟨cs,e⟩⟩
 obtain ⟨W,a1,a2,a3,a4,a5,_,a6⟩:=Rq (ok:=PO a f) D.heap a Y p1 H (λr j K B=>⟨K,B,I r j K B⟩) (λr j K B=>⟨K,B,I r j K B⟩) T q1 N.heap n1 n2
  (λu j S G=>hp' u j (by simpa only[PO,Gb.2 S,Bool.not_true,Bool.false_or] using G))
 have E:Q.tmps.size=n/\∀c,get M c=none->Q.tmps.getD c undef=V.tmps.getD c undef:=by
  refine ⟨N.size,λc ht=>?_⟩;rcases hdv with ⟨O,U⟩ | ⟨d,z,O,U,e3,_⟩
  .rw[hv,U];rfl
  .rw[hv,U];refine Nc λe=>?_;subst e;rw[O] at ht;simp[get] at ht
 refine ⟨W,kc M a f g R++J,t++Lp a hp,⟨E.1,N.defs.mono (Θ _) (λ_ _ _=>rfl) (λb _=>a6 b),λc x hx=>?_,a1⟩,λc=>?_,λu=>?_⟩
 .have A:get (kc M a f g R++J) c=some x:=hx;rw[Jf,kc,Jf] at A
  cases L:get M c with
  | some y=>
   rw[L] at A
   simp at A
   subst A;rcases hdv with ⟨O,U⟩ | ⟨d,z,O,U,e3,e4,e5⟩
   .rw[O] at L;cases L
   .rw[O] at L;rcases NL L with ⟨rfl,rfl⟩ | ⟨_,L⟩
    .exact a2 _ _ (λu j S=>Gb.1 (AV.ok_spec e5 S)) (N.env d z e4)
    .cases L
  | none=>
   rw[L] at A;simp only[Option.none_or] at A
   cases hk:get (Ho (PO a f) R [] g) c with
   | some y=>
    rw[hk] at A
    simp at A
    subst A;rw[LV] at hk
    have:y=AV.top:=by
     split at hk
     .split at hk
      .cases hk
      .injection hk with hk;exact hk.symm
     .cases hk
    rw[this];exact .top
   | none=>
    rw[hk] at A;simp only[Option.none_or] at A;have G:=h3 Z c x A (by rw[MJ,kc,Jf,L,hk];rfl);rw[E.2 c L];exact a3 _ _ (λu j S=>AV.ok_spec G S) (D.env c x A)
 .show get (kc M a f g R++J) c=(Bo (Zs (kc M a f g R)) c).getD (get J c);rw[MJ,Jf]
  cases get (kc M a f g R) c<;>rfl
 .show ek (t++Lp a hp) u=(Bo (Q6 t a) u).getD (ek hp u);rw[V1 n1 u (λS=>by rw[Kg,ϱ S]),J9,Kg]
  split<;>simp
end
variable{a:List (List Nat)}{c:Array Oper}{L:Nat->Bool}
def Lf(listed:Array Bool)(k:Nat):Bool:=listed.getD k false
def cnt(L:Nat->Bool):Nat->Nat
 | 0=>0
 | n+1=>cnt L n+(match L n with
  | true=>0
  | false=>1)
theorem qD{a:Nat->Bool}{i n:Nat}(j:L i=false)(f:∀k,a k=if k=i then true else L k)(g:i<n):cnt a n+1=cnt L n:=by
 induction n with
 | zero=>omega
 | succ n b=>
  have c:∀m,m<=i->cnt a m=cnt L m:=by
   intro m
   induction m with
   | zero=>intro _;rfl
   | succ m b=>intro h;simp only[cnt,b (by omega),f,υ (show ¬m=i by omega)]
  grind[cnt]
theorem qE{i n:Nat}(c:L i=false)(b:i<n):0<cnt L n:=by
 induction n with
 | zero=>omega
 | succ n a=>
  grind[cnt]
theorem vB{listed:Array Bool}{i:Nat}(a:i<listed.size)(k:Nat):Lf (listed.setIfInBounds i true) k=if k=i then true else Lf listed k:=by
 unfold Lf
 by_cases e:k=i
 .simp_all
 .rw[υ e];simp[Array.getElem?_setIfInBounds_ne (λh=>e h.symm)]
structure F9 (ops:Array Oper) (pre:List (List Nat)):Prop where
 preds:∀(j:Nat) o,ops[j]? =some o->∀x∈ja pre j,∃e∈o.after,Region.binds .any e=true/\(e.on=x\/x∈ja pre e.on)
 back:∀(j:Nat) o,ops[j]? =some o->∀e∈o.after,Region.binds .any e=true->e.on<j
 nod:∀(j:Nat) o,ops[j]? =some o->Op.isDefer o.op=false
theorem XK(h:RU c.toList a a c.toList 0=true)(s:c.toList.all (λo=>!Op.isDefer o.op)=true):F9 c a:=by
 have r:∀(g:List (List Nat)) (f:List Oper) (i:Nat),RU c.toList a g f i=true->(∀j,ja g j=ja a (i+j))->∀(j:Nat) o,f[j]? =some o→
   (∀x∈ja a (i+j),∃e∈o.after,Region.binds .any e=true/\(e.on=x\/x∈ja a e.on))/\∀e∈o.after,Region.binds .any e=true->e.on<i+j:=by
  intro g
  induction g with
  | nil=>intro f i h _ j o b;cases f with
   | nil=>simp at b
   | cons _ _=>simp[RU] at h
  | cons l g y=>
   intro f i h v j o b
   cases f with
   | nil=>simp at b
   | cons C f=>
    simp only[RU,kQ] at h;obtain ⟨B,A,z⟩:=h
    cases j with
    | zero=>
     simp at b;subst b
     have w:=v 0;simp only[ja,li] at w;refine ⟨λx u=>?_,λe t k=>?_⟩
     .rw[li,<-w] at u;have:=ms.1 B x u;obtain ⟨e,t,k⟩:=List.any_eq_true.1 this;simp only[kQ,Bool.or_eq_true] at k;exact ⟨e,Array.mem_toList_iff.1 t,k.1,k.2.imp kn Gb.1⟩
     .have:=ms.1 A e (Array.mem_toList_iff.2 t);rw[k] at this
      simpa using I0 (by simpa using this)
    | succ j=>
     have:=y f (i+1) z (λj=>by have:=v (j+1);simp only[ja] at this;rw[this];congr 1;omega) j o (by simpa using b);rw[show i+1+j=i+(j+1) by omega] at this;exact this
 have D:=r a c.toList 0 h (λj=>by rw[lY]);refine ⟨λj o b=>?_,λj o b=>?_,λj o b=>by simpa using ms.1 s o (Array.mem_toList_iff.2 (Array.mem_of_getElem? b))⟩
 .grind
 simp_all
theorem F9.lt(h:F9 c a):∀j,j<c.size->∀x∈ja a j,x<j:=by
 intro j
 induction j using Nat.strongRecOn with
 | _ j l=>
  intro b x g;obtain ⟨e,i,k,f⟩:=h.preds j _ (lM b) x g;have:=h.back j _ (lM b) e i k
  grind
section
variable{P:Program}{ops:Array Oper}{pre:List (List Nat)}{r:Option Nat}{Q:Exit->Act->World->Prop}
variable{K:Act->World->Prop}{w:World}{o:Oper}{a:Act}
theorem Fm{s:Act->World->Prop}{Q k:Exit->Act->World->Prop}(g:∀a w,K a w->s a w)(f:∀e a w,e≠ .normal->Q e a w->k e a w)(b:o.wpIn (Rv r) 0 P a w K Q):o.wpIn (Rv r) 0 P a w s k:=by
 unfold Oper.wpIn at*;refine ⟨b.1,?_⟩;have b:=b.2
 generalize (o.semAt (Rv r).round a.eval).run P w=j at*
 have l:LetsOut Q->LetsOut k:=λ⟨a,w,h⟩=>⟨a,w,f _ _ _ (by simp) h⟩
 cases j with
 | ok x t=>
  cases x<;>simp only[Oper.uponIn] at b⊢<;>
   first
    | exact g _ _ b
    | exact ⟨b.1,CallsIn.mono b.2 (λe i c=>by cases e<;>first | exact g _ _ c | exact f _ _ _ (by simp) c | exact l c)⟩
    | exact ⟨b.1,RowsIn.mono b.2 (λ_ _ c=>g _ _ c)⟩
    | exact ⟨b.1,RoundIn.mono b.2 (λe i c=>by cases e<;>first | exact g _ _ c | exact f _ _ _ (by simp) c | exact l c)⟩
 | halt x t=>cases x<;>simp only[Oper.uponIn] at b⊢<;>first | exact f _ _ _ (by simp) b | exact b
def Ej(P:Program)(r:Option Nat)(ops:Array Oper)(o:Oper)(Q:Exit->Act->World->Prop)(K:Act->World->Prop)(a:Act)(w:World):Prop:=
 if Region.wanted o (yielded ops a.tmps) then o.wpIn (Rv r) 0 P a w K Q else K (a.put o.dst undef) w
theorem We(b:Op.isDefer o.op=false)(h:Gv P ops o K a w):Ej P r ops o Q K a w:=by grind[Gv,Ej,Fl]
theorem MK(Z:F9 ops pre)(D v:Nat)(hhi:v<=ops.size)(O:∀j,v<=j->j<ops.size->∀x,D<=x->x<v->x∈ja pre j)(Inv:(Nat->Bool)->Act->World->Prop)(step:∀(L:Nat->Bool) a w i,D<=i->i<v->L i=false->(∀x∈ja pre i,L x=true)->(∀j,j<ops.size->L j=true->∀x∈ja pre j,L x=true)->Inv L a w->∃o,ops[i]? =some o/\Ej P r ops o Q (Inv λk=>if k=i then true else L k) a w)(fin:∀listed a w,listed.size=ops.size->(∀k,Lf listed k=decide (k<v))->Inv (Lf listed) a w->wpAnyIn (Rv r) 0 P .any ops Q (cnt (Lf listed) ops.size) listed a w):
  ∀b (listed:Array Bool) a w,listed.size=ops.size->b=cnt (Lf listed) ops.size->(∀j,j<ops.size->Lf listed j=true->∀x∈ja pre j,Lf listed x=true)->(∀k,k<D->Lf listed k=true)->(∀k,v<=k->Lf listed k=false)->Inv (Lf listed) a w->wpAnyIn (Rv r) 0 P .any ops Q b listed a w:=by
 intro b
 induction b with
 | zero=>
  grind[Lf,qE]
 | succ b ih=>
  intro listed a w Y hf B G J hI
  by_cases t:∀k,D<=k->k<v->Lf listed k=true
  .grind
  .have hmr:∀{j},j∈Region.ready .any ops listed->j<ops.size/\Lf listed j=false/\∀x∈ja pre j,Lf listed x=true:=λ{j} C=>by
    obtain ⟨u,o,l,R⟩:=mem_ready.1 C;have A:j<ops.size:=(ll.1 l).1;refine ⟨A,?_,λx T=>?_⟩
    .unfold Lf;rw[mm,lM (by omega)] at u⊢;exact u
    .obtain ⟨e,U,V,z⟩:=Z.preds j o l x T;have N:=R e U V;rcases z with rfl | z
     .exact N
     .exact B e.on (by have:=Z.back j o l e U V;omega) N x z
   have hne:Region.ready .any ops listed≠ []:=by
    have hex:∃k,k<ops.size/\Lf listed k=false:=by
     refine Classical.byContradiction λM=>t λk I H=>?_
     cases y:Lf listed k with
     | true=>rfl
     | false=>exact absurd ⟨k,by omega,y⟩ M
    obtain ⟨k,s⟩:=hex
    have E:∃k,(k<ops.size/\Lf listed k=false)/\∀j,j<k->¬(j<ops.size/\Lf listed j=false):=by
     revert s
     induction k using Nat.strongRecOn with
     | _ k W=>
      intro s
      by_cases C:∃j,j<k/\(j<ops.size/\Lf listed j=false)
      .obtain ⟨j,u,l⟩:=C;exact W j u l
      .exact ⟨k,s,λj u l=>C ⟨j,u,l⟩⟩
    obtain ⟨k,s,hkm⟩:=E
    have hr:k∈Region.ready .any ops listed:=by
     refine mem_ready.2 ⟨?_,ops[k],lM s.1,λe U V=>?_⟩
     .have:=s.2;unfold Lf at this;rw[mm,lM (by omega)] at this⊢;exact this
     .have A:=Z.back k _ (lM s.1) e U V
      cases y:Lf listed e.on with
      | true=>exact y
      | false=>exact absurd ⟨by omega,y⟩ (hkm e.on A)
    intro h0;rw[h0] at hr;cases hr
   refine ⟨λh0=>absurd h0 hne,λi hi'=>?_⟩;obtain ⟨u,l,R⟩:=hmr hi';have F:D<=i:=Nat.le_of_not_lt λM=>by rw[G i M] at l;cases l
   have K:i<v:=Nat.lt_of_not_le λM=>t λk I H=>R k (O i M u k I H);obtain ⟨o,ho,f⟩:=step (Lf listed) a w i F K l R B hI;have c:=vB (listed:=listed) (i:=i) (by omega)
   have next:∀g S,Inv (λk=>if k=i then true else Lf listed k) g S->wpAnyIn (Rv r) 0 P .any ops Q b (listed.setIfInBounds i true) g S:=λg S hI'=>by
    refine ih _ g S (by simpa using Y) ?_ (λj C y x T=>?_) (λk s=>?_) (λk s=>?_) ?_
    .have:=qD l c u;omega
    .rw[c] at y⊢
     by_cases e:x=i
     .rw[ϱ e]
     .rw[υ e]
      by_cases e2:j=i
      .subst e2;exact R x T
      .rw[υ e2] at y;exact B j C y x T
    .rw[c];split
     .rfl
     .exact G k s
    .rw[c,υ (by omega)];exact J k s
    .have:Lf (listed.setIfInBounds i true)=λk=>if k=i then true else Lf listed k:=funext c
     rw[this];exact hI'
   unfold wpOpIn;rw[ho];simp only[];unfold Ej at f
   split
   .rename_i X
    rw[ϱ X] at f;exact Fm next (λ_ _ _ _ h=>h) f
   .rename_i X
    rw[υ X] at f;exact ⟨λ_ _=>trivial,next _ _ f⟩
end
section
variable{P:Program}{F:Fr}{ops:Array Oper}{pre:List (List Nat)}{Q:Exit->AS->Prop}
variable{a:Nat}{s:AS}{R:List Rc}{C:MG}{c:Nat}
def nS(P:Program)(F:Fr)(ops:Array Oper)(lo:Nat)(Q:Exit->AS->Prop)(s:AS):Prop:=∀ρ act w listed,SR F s ρ act w->listed.size=ops.size->(∀k,Lf listed k=decide (k<lo))->wpAnyIn (Rv F.rnd) 0 P .any ops (VG F Q) (cnt (Lf listed) ops.size) listed act w
theorem SR.drew{j:Nat->Nat->Value}{f:Act}{w a:World}(h:SR F s j f w)(k:a.heap=w.heap)(u:a.os=w.os)(r:a.tape=w.tape)(o:a.output=w.output)(v:w.drawn<=a.drawn:=by first | exact Nat.le_succ _ | exact Θ _):SR F s j f a:=by
 have g:w.heap.size<=a.heap.size:=by rw[k];exact Θ _
 have i:∀b,b<w.heap.size->a.heap[b]? =w.heap[b]?:=λb _=>by rw[k]
 exact ⟨h.size,h.defs.mono g (λb c _=>i b c) (λ_ _ h=>h),λt x l=>(h.env t x l).mono g (λb c _=>i b c) (λ_ _ h=>h) (λ_ _ _=>rfl),h.heap.stay ⟨u,r,o,jq h.heap.drawn v⟩ g i⟩
theorem uq{id:Nat}{l:List Oper}(i:P.follows .mixedOrders=true)(h:nS P F l.toArray 0 Q s):CK P F (.region id l.toArray true) Q s:=λc a w g=>by
 refine wpIn_region_any i ?_
 have b:∀k,Lf (Array.replicate l.toArray.size false) k=false:=λk=>by
  unfold Lf;rw[mm,Array.getElem?_replicate]
  split<;>rfl
 have j:∀n,cnt (Lf (Array.replicate l.toArray.size false)) n=n:=by
  intro n
  induction n with
  | zero=>rfl
  | succ n f=>simp only[cnt,f,b]
 have:=h c a {w with drawn:=w.drawn+1} (Array.replicate l.toArray.size false) (g.drew Z Z Z Z) (by simp) (λk=>by rw[b];simp)
 rwa [j] at this
def SB(pre:List (List Nat))(lo hi:Nat):Nat->Nat->Bool
 | _,0=>true
 | j,m+1=>inAll lo (hi-lo) (ja pre j) && SB pre lo hi (j+1) m
where inAll (x:Nat):Nat->List Nat->Bool
 | 0,_=>true
 | m+1,l=>iG x l && inAll (x+1) m l
theorem X7{x m:Nat}{l:List Nat}(h:SB.inAll x m l=true):∀y,x<=y->y<x+m->y∈l:=by
 induction m generalizing x with
 | zero=>intro y b a;omega
 | succ m c=>
  simp only[SB.inAll,kQ] at h;intro y b a
  by_cases e:x=y
  .subst e;exact Gb.1 h.1
  grind
theorem Xh{b m:Nat}(i:a<=c)(h:SB pre a c b m=true):∀j,b<=j->j<b+m->∀x,a<=x->x<c->x∈ja pre j:=by
 induction m generalizing b with
 | zero=>intro j o l;omega
 | succ m g=>
  simp only[SB,kQ] at h;intro j o l x f k
  by_cases e:b=j
  .subst e;exact X7 h.1 x f (by omega)
  .exact g h.2 j (by omega) (by omega) x f k
def Vs(pre:List (List Nat))(n lo hi:Nat):Bool:=Nat.ble lo hi &&(Nat.ble hi n && SB pre lo hi hi (n-hi))
theorem NC{n:Nat}(h:Vs pre n a c=true):a<=c/\c<=n/\∀j,c<=j->j<n->∀x,a<=x->x<c->x∈ja pre j:=by
 simp only[Vs,kQ] at h;have f:=Nat.le_of_ble_eq_true h.1;have b:=Nat.le_of_ble_eq_true h.2.1
 grind[Xh]
theorem Gj(g:F9 ops pre){b:Array Bool}(i:∀k,Lf b k=decide (k<a)):∀j,j<ops.size->Lf b j=true->∀x∈ja pre j,Lf b x=true:=λj h c x f=>by
 rw[i] at c⊢;have:=lG c;have:=g.lt j h x f;exact Υ (by omega)
theorem uY{o:Oper}(I:F9 ops pre)(N:ops[a]? =some o)(T:Vs pre ops.size a (a+1)=true)(h:Ao P F ops [o] (λe l=>e= .normal/\nS P F ops (a+1) Q l) s):nS P F ops a Q s:=λK t w r M D B=>by
 obtain ⟨_,V,U⟩:=NC T;have f:=h K t w M;refine MK I a (a+1) V U (λL g x=>((L a=false/\g=t/\x=w)\/(L a=true/\∃l c,nS P F ops (a+1) Q l/\SR F l c g x))) ?_ ?_ _ r t w D Z (Gj I B) (λk J=>by rw[B];exact Υ J) (λk J=>by rw[B];exact kD (by omega)) (.inl ⟨by rw[B];simp,Z,Z⟩)
 .intro L g x i R O G _ _ H;have:i=a:=by omega
  subst this;rcases H with ⟨_,rfl,rfl⟩ | ⟨z,_⟩
  .refine ⟨o,N,?_⟩;unfold wpListIn at f;unfold Ej
   split
   .rename_i C
    rw[ϱ C] at f;refine Fm ?_ ?_ f
    .rintro b w ⟨l,c,⟨_,v⟩,u⟩;exact .inr ⟨by simp,l,c,v,u⟩
    .rintro e b w E ⟨l,c,⟨S,v⟩,u⟩;exact absurd S E
   .rename_i C
    rw[υ C] at f;obtain ⟨_,l,c,⟨_,v⟩,u⟩:=f;exact .inr ⟨by simp,l,c,v,u⟩
  .rw[G] at z;cases z
 .intro j g x y A H;rcases H with ⟨z,_⟩ | ⟨_,l,c,v,u⟩
  .rw[A] at z;simp at z
  .exact v c g x j u y A
abbrev RS(R:List Rc):=R.map Rc.ws
abbrev RF(R:List Rc):=R.map Rc.fs
def kd(base:AS)(R:List Rc):Nat->Option AV:=GR (get base.env) (λ_=>true) (RS R)
def ke(base:AS)(R:List Rc):Nat->Option (List AM):=GR (ek base.hp) (λ_=>true) (RF R)
def Zq(P:Program)(ops:Array Oper)(lo:Nat)(base:AS)(C:MG):List Rc->Prop
 | []=>True
 | rc::r=>Zq P ops lo base C r/\(∃o,ops[lo+r.length]? =some o/\JT P ops base.n o rc C (kd base r) (ke base r))/\(∀f,Bo rc.fs f≠none->f∈rc.nm)/\∀f c,Bo rc.fs f=some c->C f c
theorem Zq.at{b:AS}(h:Zq P ops a b C R){k:Nat}{g:Rc}(i:R.reverse[k]? =some g):∃A r,R=A++g::r/\r.length=k/\(∃o,ops[a+k]? =some o/\JT P ops b.n o g C (kd b r) (ke b r))/\(∀f,Bo g.fs f≠none->f∈g.nm)/\∀f c,Bo g.fs f=some c->C f c:=by
 induction R with
 | nil=>simp at i
 | cons x r l=>
  rcases js i with i | ⟨rfl,rfl⟩
  .obtain ⟨A,j,t,s⟩:=l h.1 i;exact ⟨x::A,j,by rw[t];rfl,s⟩
  .exact ⟨[],r,Z,Z,h.2.1,h.2.2⟩
def vC(P:Program)(F:Fr)(ops:Array Oper)(lo:Nat)(Q:Exit->AS->Prop)(C:MG)(base:AS)(R:List Rc)(env:List (Nat×AV))(hp:Hp):Prop:=
 (∀f,C f (ek base.hp f))->Zq P ops lo base C R->(∀t a,get env t=some a->kd base R t=some a)->(∀f,ek hp f=ke base R f)->nS P F ops lo Q base
theorem iQ(b:∀f,C f (ek s.hp f))(h:vC P F ops a Q C s [] s.env s.hp):nS P F ops a Q s:=h b trivial (λ_ _ h=>h) λ_=>rfl
structure lU (pre:List (List Nat)) (lo i j:Nat) (ri rj:Rc):Prop where
 race:(lo+j)∉ja pre (lo+i)->HV rj.ws ri.rd=true/\HV rj.ws (P3 ri.ws)=true/\HV ri.ws rj.rd=true/\HV rj.fs ri.nm=true/\HV ri.fs rj.nm=true
 late:ri.eff=true->XS ri.ok ri.ws rj.ws=true/\XT ri.ok ri.fs rj.fs=true
 early:(lo+j)∉ja pre (lo+i)->rj.eff=true->XS rj.ok rj.ws ri.ws=true/\XT rj.ok rj.fs ri.fs=true
theorem G0{i j:Nat}{f c:Rc}(h:PJ (iG (a+j) (ja pre (a+i))) c f=true):lU pre a i j f c:=by
 have k:(a+j)∉ja pre (a+i)->iG (a+j) (ja pre (a+i))=false:=λb=>by
  cases hh:iG (a+j) (ja pre (a+i)) with
  | false=>rfl
  | true=>exact absurd (Gb.1 hh) b
 simp only[PJ,kQ,Bool.or_eq_true,Bool.not_eq_true'] at h;refine ⟨λb=>?_,λg=>?_,λb g=>?_⟩
 all_goals (grind)
theorem iR{j hi:Nat}{C:MG}{s:AS}{R:List Rc}{env:List (Nat×AV)}{hp:Hp}(hps:F9 ops pre)(hhi:Nat.beq (j+R.length) hi=true)(hc:Vs pre ops.size j hi=true)(G:JI pre j s.env s.hp R=true)(h:nS P F ops hi Q ⟨s.n,env,hp⟩):vC P F ops j Q C s R env hp:=λhC hV hE hH=>by
 intro ρ act w H hs hsz hL;have hhi':=kn hhi;subst hhi';obtain ⟨_,c2,c3⟩:=NC hc
 let Inv:(Nat->Bool)->Act->World->Prop:=λL act w=>∃ρ env hp,SR F ⟨s.n,env,hp⟩ ρ act w/\(∀t,get env t=GR (get s.env) (λk=>L (j+k)) (RS R) t)/\∀f,ek hp f=GR (ek s.hp) (λk=>L (j+k)) (RF R) f
 have hnone:∀{α:Type} (base:Nat->α) (R:List (List (Nat×α))) t,GR base (λk=>Lf H (j+k)) R t=base t:=by
  intro α base R t
  induction R with
  | nil=>rfl
  | cons ws r ih=>
   have h0:Lf H (j+r.length)=false:=by rw[hL];exact kD (by omega)
   simp only[GR,h0];exact ih
 refine MK hps j (j+R.length) c2 c3 Inv ?_ ?_ _ H act w hsz Z (Gj hps hL) (λk u=>by rw[hL];exact Υ u) (λk u=>by rw[hL];exact kD (by omega)) ⟨ρ,s.env,s.hp,hs,λt=>(hnone _ _ t).symm,λf=>(hnone _ _ f).symm⟩
 .intro L act w i' hi1 hi2 M hpre hcl ⟨ρ,env1,hp1,hsr,hE1,hH1⟩
  obtain ⟨i,rfl⟩:∃i,i'=j+i:=⟨i'-j,by omega⟩
  have hiR:i<R.length:=by omega
  have D:R.reverse[i]? =some (R.reverse[i]'(by simpa using hiR)):=ω (by simpa using hiR)
  generalize R.reverse[i]'(by simpa using hiR)=rc at D
  obtain ⟨A,r,e1,e2,⟨o,ho,hsound⟩,hfk,_⟩:=hV.at D
  -- the order against others
  have S:∀{k ws},(RS R).reverse[k]? =some ws->∃B:Rc,R.reverse[k]? =some B/\B.ws=ws:=λ{k ws} u=>by
   rw[<-List.map_reverse,ς] at u
   cases hh:R.reverse[k]? with
   | none=>rw[hh] at u;cases u
   | some B=>rw[hh] at u;injection u with u;exact ⟨B,hh,u⟩
  have J:∀{k ws},(RF R).reverse[k]? =some ws->∃B:Rc,R.reverse[k]? =some B/\B.fs=ws:=λ{k ws} u=>by
   rw[<-List.map_reverse,ς] at u
   cases hh:R.reverse[k]? with
   | none=>rw[hh] at u;cases u
   | some B=>rw[hh] at u;injection u with u;exact ⟨B,hh,u⟩
  have X:∀{k B},R.reverse[k]? =some B->k<i->L (j+k)=false->lU pre j i k rc B/\(j+k)∉ja pre (j+i):=λ{k B} u v c=>
   ⟨G0 (G9 G D u v),λhm=>by rw[hpre _ hm] at c;cases c⟩
  have z:∀{k B},R.reverse[k]? =some B->i<k->L (j+k)=true->lU pre j k i B rc/\(j+i)∉ja pre (j+k):=λ{k B} u v c=>
   ⟨G0 (G9 G u D v),λhm=>by
    have hkR:=MW u
    rw[hcl (j+k) (by omega) c _ hm] at M;cases M⟩
  have hR:RS R=(RS (A++ [rc]))++RS r/\RF R=(RF (A++ [rc]))++RF r:=by
   rw[e1];simp[RS,RF]
  have hsame:∀t∈rc.rd,GR (get s.env) (λk=>L (j+k)) (RS R) t=kd s r t:=λt ht=>by
   have V:GR (get s.env) (λk=>L (j+k)) (RS R) t=GR (get s.env) (λk=>decide (k<(RS r).length)) (RS R) t:=by
    refine Gx λk ws u I=>?_;obtain ⟨B,y,rfl⟩:=S u;have W:(RS r).length=i:=by simp[RS,e2]
    rw[W];rcases Nat.lt_trichotomy k i with v | U | T
    .rw[Υ v]
     cases c:L (j+k) with
     | true=>rfl
     | false=>
      obtain ⟨O,N⟩:=X y v c;exact absurd (Eg (O.race N).1 ht) I
    .subst U;rw[kD (mq _)];exact M
    .rw[kD (by omega)]
     cases c:L (j+k) with
     | false=>rfl
     | true=>
      obtain ⟨O,N⟩:=z y T c;exact absurd (Eg (O.race N).2.2.1 ht) I
   rw[V,hR.1,Oe];rfl
  have hsameF:∀f∈rc.nm,GR (ek s.hp) (λk=>L (j+k)) (RF R) f=ke s r f:=λf hf=>by
   have V:GR (ek s.hp) (λk=>L (j+k)) (RF R) f=GR (ek s.hp) (λk=>decide (k<(RF r).length)) (RF R) f:=by
    refine Gx λk ws u I=>?_;obtain ⟨B,y,rfl⟩:=J u;have W:(RF r).length=i:=by simp[RF,e2]
    rw[W];rcases Nat.lt_trichotomy k i with v | U | T
    .rw[Υ v]
     cases c:L (j+k) with
     | true=>rfl
     | false=>
      obtain ⟨O,N⟩:=X y v c;exact absurd (Eg (O.race N).2.2.2.1 hf) I
    .subst U;rw[kD (mq _)];exact M
    .rw[kD (by omega)]
     cases c:L (j+k) with
     | false=>rfl
     | true=>
      obtain ⟨O,N⟩:=z y T c;exact absurd (Eg (O.race N).2.2.2.2 hf) I
   rw[V,hR.2,Oe];rfl
  refine ⟨o,ho,We (hps.nod _ _ ho)<| H4 ?_ (hsound F ρ act w env1 hp1 hsr (λf=>by
   rw[hH1];rcases kf (base:=ek s.hp) (L:=λk=>L (j+k)) (R:=RF R) (t:=f) with ⟨V,_⟩ | ⟨k,ws,u,c,I⟩
   .rw[V];exact hC f
   .obtain ⟨B,y,rfl⟩:=J u;obtain ⟨_,_,_,_,_,_,hc⟩:=hV.at y
    exact hc f _ I) (λt ht=>by rw[hE1,hsame t ht]) (λf hf=>by rw[hH1,hsameF f hf]) (λhe t a ha hl=>?_) (λhe f l hf hl=>?_))⟩
  .rintro act' w' ⟨Y,env',hp',E,hE',hH'⟩
   have hset:∀k,(λk=>if j+k=j+i then true else L (j+k)) k=if k=i then true else L (j+k):=λk=>by
    by_cases e:k=i
    .subst e;simp
    .have:¬(j+k=j+i):=by omega
     simp[e]
   refine ⟨Y,env',hp',E,λt=>?_,λf=>?_⟩
   .rw[hE',hE1];refine (Od (i:=i) (ws:=rc.ws) (by rw[<-List.map_reverse,ς,D];rfl) M hset λI k ws' u v c=>?_).symm;obtain ⟨B,y,rfl⟩:=S u;obtain ⟨O,N⟩:=z y v c;have:=Eg (t:=t) (O.race N).2.1
    cases hh:Bo B.ws t with
    | none=>rfl
    | some x=>exact absurd (this (VP (by rw[hh];simp))) I
   .rw[hH',hH1];refine (Od (i:=i) (ws:=rc.fs) (by rw[<-List.map_reverse,ς,D];rfl) M hset λI k ws' u v c=>?_).symm;obtain ⟨B,y,rfl⟩:=J u;obtain ⟨O,N⟩:=z y v c;exact Eg (O.race N).2.2.2.2 (hfk f I)
  .rw[hE1] at ha;rcases kf (base:=get s.env) (L:=λk=>L (j+k)) (R:=RS R) (t:=t) with ⟨V,_⟩ | ⟨k,ws,u,c,I⟩
   .rw[V] at ha;exact fM (Ni G D he).1 ha (λh=>by cases h) hl
   .rw[ha] at I;obtain ⟨B,y,rfl⟩:=S u;rcases Nat.lt_trichotomy k i with v | U | T
    .exact R1 ((G0 (G9 G D y v)).late he).1 I hl
    .subst U;rw[M] at c;cases c
    .obtain ⟨O,N⟩:=z y T c;exact R1 (O.early N he).1 I hl
  .rw[hH1] at hf;rcases kf (base:=ek s.hp) (L:=λk=>L (j+k)) (R:=RF R) (t:=f) with ⟨V,_⟩ | ⟨k,ws,u,c,I⟩
   .rw[V] at hf;exact fL (Ni G D he).2 hf hl
   .rw[hf] at I;obtain ⟨B,y,rfl⟩:=J u;rcases Nat.lt_trichotomy k i with v | U | T
    .exact R2 ((G0 (G9 G D y v)).late he).2 I hl
    .subst U;rw[M] at c;cases c
    .obtain ⟨O,N⟩:=z y T c;exact R2 (O.early N he).2 I hl
 .intro K act' w' hsz' hL' ⟨Y,env',hp',E,hE',hH'⟩
  have hall:∀{α:Type} (base:Nat->α) (R':List (List (Nat×α))) t,R'.length=R.length->GR base (λk=>Lf K (j+k)) R' t=GR base (λ_=>true) R' t:=λbase R' t W=>
   Gx λk ws u _=>by rw[hL',Υ];have:=MW u;omega
  have hHh:∀f i,dd hp' f i=dd hp f i:=λf i=>by
   simp only[dd,hH',hH,hall _ (RF R) f (by simp[RF])];rfl
  have hheap:Bj F hp Y w':=E.heap.less (λg i o' ho=>⟨o',by show dd hp' g i=some o';rw[hHh];exact ho,λ_ _ _ h=>h⟩) λg i o ho=>⟨o,by rw[<-hHh];exact ho,λt cs e=>⟨cs,e⟩⟩
  have hO:F.O Y hp'=F.O Y hp:=funext λb=>propext ⟨λh=>h.imp id λ⟨f,i,o,V,h2⟩=>⟨f,i,o,by rw[<-hHh];exact V,h2⟩,λh=>h.imp id λ⟨f,i,o,V,h2⟩=>⟨f,i,o,by rw[hHh];exact V,h2⟩⟩;refine h Y act' w' K ⟨E.size,hO▸E.defs,λt a ha=>?_,hheap⟩ hsz' hL';have V:=hE t a ha;have h2:=E.env t a (by show get env' t=some a;rw[hE',hall _ (RS R) t (by simp[RS])];exact V);rw[<-hO];exact h2
end
section
variable{P:Program}{F:Fr}{ops:Array Oper}{Q:Exit->AS->Prop}
def Dw(P:Program)(F:Fr)(ops:Array Oper)(pre:List (List Nat))(lo:Nat)(rest:List Oper)(Q:Exit->AS->Prop)(s:AS):Prop:=F9 ops pre->(∀k:Nat,rest[k]? =ops[lo+k]?)->nS P F ops lo Q s
def Ts(P:Program)(F:Fr)(ops:Array Oper)(pre:List (List Nat))(lo:Nat)(rest:List Oper)(Q:Exit->AS->Prop)(C:MG)(base:AS)(R:List Rc)(env:List (Nat×AV))(hp:Hp):Prop:=F9 ops pre->(∀k:Nat,rest[k]? =ops[lo+R.length+k]?)->vC P F ops lo Q C base R env hp
theorem Bm{id:Nat}{l:List Oper}{s:AS}(a:List (List Nat))(f:P.follows .mixedOrders=true)(b:RU l a a l 0=true)(h:Dw P F l.toArray a 0 l Q s)(c:l.all (λo=>!Op.isDefer o.op)=true:=by rfl):CK P F (.region id l.toArray true) Q s:=
 uq f (h (XK (by simpa using b) (by simpa using c)) λk=>by simp)
variable{pre:List (List Nat)}{lo:Nat}{rest:List Oper}{s:AS}{o:Oper}
variable{a:List (Nat×AV)}{c:Hp}{f:Nat}
theorem Bb(h:Q .normal s):Dw P F ops pre lo [] Q s:=λt b f A w a g r y=>by
 have l:=b 0
 have v:ops.size<=lo:=by
  simp at l
  exact l
 have b:Region.ready .any ops a=[]:=by
  refine List.eq_nil_iff_forall_not_mem.2 λj x=>?_;obtain ⟨c,o,z,_⟩:=mem_ready.1 x;have u:j<ops.size:=(ll.1 z).1;have:=y j;rw[Υ (by omega)] at this;unfold Lf at this;rw[mm,lM (by omega)] at c this
  simp at c this
  rw[this] at c;cases c
 cases cnt (Lf a) ops.size with
 | zero=>exact ⟨b,s,f,h,g⟩
 | succ n=>exact ⟨λ_=>⟨s,f,h,g⟩,λi k=>by rw[b] at k;cases k⟩
theorem AZ(x:Nat)(y:Nat.beq (lo+1) x=true)(G:Vs pre (lo+(rest.length+1)) lo x=true)(h:Ao P F ops [o] (λe b=>e= .normal/\Dw P F ops pre x rest Q b) s):Dw P F ops pre lo (o::rest) Q s:=λf l=>by
 have g:=kn y;subst g;have E:ops[lo]? =some o:=by have:=l 0;simpa using this.symm
 have v:ops.size=lo+(rest.length+1):=by
  have j:=l (rest.length+1);have i:=l rest.length;have B:(o::rest)[rest.length]?≠none:=by simp
  rw[i] at B;have I:lo+rest.length<ops.size:=Nat.lt_of_not_le λc=>B (Array.getElem?_eq_none c);have H:ops[lo+(rest.length+1)]? =none:=by rw[<-j];simp
  have:=Array.getElem?_eq_none_iff.1 H;omega
 refine uY f E (by rw[v];exact G) (λC A w D=>?_)
 have t:∀(e:Exit) b,(e= .normal/\Dw P F ops pre (lo+1) rest Q b)->(e= .normal/\nS P F ops (lo+1) Q b):=λe b ⟨j,i⟩=>⟨j,i f λk=>by
  have:=l (k+1);rw[List.getElem?_cons_succ] at this
  rw[this];congr 1;omega⟩
 have c:=h C A w D;unfold wpListIn at c⊢
 have z:∀e a w,VG F (λe b=>e= .normal/\Dw P F ops pre (lo+1) rest Q b) e a w->VG F (λe b=>e= .normal/\nS P F ops (lo+1) Q b) e a w:=λe a w ⟨b,r,j,i⟩=>⟨b,r,t e b j,i⟩
 split
 .rename_i u
  rw[ϱ u] at c;exact Fm (λa w h=>z _ _ _ h) (λe a w _ h=>z e a w h) c
 .rename_i u
  rw[υ u] at c;exact ⟨c.1,z _ _ _ c.2⟩
theorem BY(h:Ts P F ops pre lo rest Q C0 ⟨f,a,c⟩ [] a c):Dw P F ops pre lo rest Q ⟨f,a,c⟩:=λb g=>iQ (λ_=>trivial) (h b g)
abbrev C2(f:Nat)(c1 c2:List AM):MG:=λg x=>g=f->x=some c1\/x=some c2
theorem bd(b:Nat){j:List AM}(t:List AM)(r:ek c b=some j)(h:Ts P F ops pre lo rest Q (C2 b j t) ⟨f,a,c⟩ [] a c):Dw P F ops pre lo rest Q ⟨f,a,c⟩:=λi k=>iQ (λg l=>by subst l;exact .inl r) (h i k)
variable{C:MG}{base:AS}{R:List Rc}{env:List (Nat×AV)}{hp:Hp}
variable{a:List (Nat×AV)}{c:Array Edge}{f:Nat->Nat->Bool}{g:String}{h:TypeId}{i:Option Tmp}{j:AV}{k:Hp}{t:Op}{u:Nat}{w:Bool}{x:Rc}{y z A:Nat}
theorem yI(g:Nat)(k:Nat.beq (lo+(x::R).length) g=true)(y:Vs pre (g+rest.length) lo g=true)(f:JI pre lo base.env base.hp (x::R)=true)(h:Dw P F ops pre g rest Q ⟨base.n,env,hp⟩):Ts P F ops pre lo rest Q C base (x::R) env hp:=λb j=>by
 have c:=kn k;subst c
 have a:ops.size<=lo+(x::R).length+rest.length:=by
  have G:=j rest.length;have D:ops[lo+(x::R).length+rest.length]? =none:=by rw[<-G];simp
  exact Array.getElem?_eq_none_iff.1 D
 intro B hV A z
 have w:lo+(x::R).length<=ops.size:=by
  obtain ⟨o,u,_⟩:=hV.2.1;have:=(ll.1 u).1;simp only[mN];omega
 have i:ops.size=lo+(x::R).length+rest.length:=by
  rcases hrl:rest with _ | ⟨o,r⟩
  .rw[hrl] at a;simp only[lX,li] at a⊢;omega
  .have t:=j r.length;rw[hrl] at t a;have l:(o::r)[r.length]?≠none:=by simp
   rw[t] at l;have E:lo+(x::R).length+r.length<ops.size:=Nat.lt_of_not_le λv=>l (Array.getElem?_eq_none v);simp only[mN] at a E⊢;omega
 exact iR b (l6 _) (by rw[i];exact y) f (h b j) B hV A z
theorem A9(b:AA P F ⟨i,t,h,g,c,none⟩ s A j):JV P F ops ⟨i,t,h,g,c,none⟩ s A j:=by
 refine ⟨I0 b.1,λu l w f=>?_⟩;unfold Gv;rw[ϱ (by simp[Region.wanted])];refine qr ?_ (b.2.2 u l w f);rintro r D ⟨v,B,z,k,y,x⟩;exact ⟨v,B,z,⟨k.os.trans f.heap.os.symm,k.tape.trans f.heap.tape.symm,k.output.trans f.heap.output.symm,k.drawn⟩,y,x⟩
theorem Rr{f:Nat->Nat->Value}{b:Act}{a:World}(h:SR F s f b a)(i:(ops[z]?).bind (·.dst)=some y)(g:get s.env y=some (.d (.raw (.bool w)))):yielded ops b.tmps z=some w:=by
 have c:=h.env y _ g;unfold yielded;rw[i]
 cases c with
 | d c=>
  generalize k:b.tmps.getD y undef=v at c
  cases c with
  | raw _=>
   simp only[m6];rw[mm] at k
   grind[undef]
theorem BO{b:Bool}(E:(ops[z]?).bind (·.dst)=some y)(D:get s.env y=some (.d (.raw (.bool w))))(G:w=b)(k:AA P F ⟨i,t,h,g,c,some (z,b)⟩ s A j):JV P F ops ⟨i,t,h,g,c,some (z,b)⟩ s A j:=by
 refine ⟨I0 k.1,λB u f l=>?_⟩;unfold Gv;rw[ϱ (by simp[Region.wanted,Rr l E D,G])];refine qr ?_ (k.2.2 B u f l);rintro x L ⟨v,K,J,r,I,H⟩;exact ⟨v,K,J,⟨r.os.trans l.heap.os.symm,r.tape.trans l.heap.tape.symm,r.output.trans l.heap.output.symm,r.drawn⟩,I,H⟩
theorem CL{b:Bool}(k:(ops[z]?).bind (·.dst)=some y)(i:get s.env y=some (.d (.raw (.bool w))))(r:w=!b)(l:Nat.blt u s.n=true):JV P F ops ⟨some u,t,h,g,c,some (z,b)⟩ s u (.d (.tup [])):=by
 refine ⟨I0 l,λx v a f=>?_⟩;unfold Gv;rw[υ (by cases b<;>simp[Region.wanted,Rr f k i,r])];exact ⟨_,Z,MY,⟨Z,Z,Z,f.heap.drawn⟩,Θ _,λ_ _=>rfl⟩
theorem Cd{b:AS}(a:AH P F ⟨i,t,h,g,c,none⟩ s b f):jZ P F ops ⟨i,t,h,g,c,none⟩ s b f:=by grind[Gv,Region.wanted,qr,sa,AH,jZ]
theorem Mf{lo:Nat}{R:List Rc}{rc:Rc}(a:∀k:Nat,(o::rest)[k]? =ops[lo+R.length+k]?):ops[lo+R.length]? =some o/\∀k:Nat,rest[k]? =ops[lo+(rc::R).length+k]?:=by
 refine ⟨by have:=a 0;simpa using this.symm,λk=>?_⟩;have:=a (k+1)
 grind
def kh(rd nm:List Nat)(d:Nat)(a:AV):Rc:=⟨rd,[(d,some a)],nm,[],false,λ_ _=>true⟩
theorem A1(rd b:List Nat)(B:pick env rd=some a)(D:Bg hp b=some k)(h:∀F,JV P F ops o ⟨base.n,a,k⟩ u j)(H:Ts P F ops pre lo rest Q C base (kh rd b u j::R) ((u,j)::env) hp):Ts P F ops pre lo (o::rest) Q C base R env hp:=λr z I hV y w=>by
 obtain ⟨A,i⟩:=Mf (rc:=kh rd b u j) z;refine H r i I ⟨hV,⟨o,A,JT.pure B D y w h⟩,λf E=>absurd Z E,λf c G=>by cases G⟩ (λt x g=>?_) λf=>?_
 .show GR _ _ (RS (kh rd b u j::R)) t=_;simp only[RS,k7,GR,kh,Bo];rcases NL g with ⟨rfl,rfl⟩ | ⟨v,g⟩
  .simp
  .rw[I3 v];exact y t x g
 .show _=GR _ _ (RF (kh rd b u j::R)) f;simp only[RF,k7,GR,kh,Bo];exact w f
theorem Jm(rd b:List Nat){f:Nat}{y w:List AM}(E:pick env rd=some a)(G:Bg hp b=some k)(v:iG f b=false)(L:∀F,JV P F ops o ⟨base.n,a,(f,y)::k⟩ u j)(K:∀F,JV P F ops o ⟨base.n,a,(f,w)::k⟩ u j)(I:Ts P F ops pre lo rest Q (C2 f y w) base (kh rd b u j::R) ((u,j)::env) hp):Ts P F ops pre lo (o::rest) Q (C2 f y w) base R env hp:=λi B J hV A z=>by
 obtain ⟨D,h⟩:=Mf (rc:=kh rd b u j) B;refine I i h J ⟨hV,⟨o,D,JT.pure2 E G v A z (λx g=>g Z) L K⟩,λf v=>absurd Z v,λf c H=>by cases H⟩ (λt x g=>?_) λf=>?_
 .show GR _ _ (RS (kh rd b u j::R)) t=_;simp only[RS,k7,GR,kh,Bo];rcases NL g with ⟨rfl,rfl⟩ | ⟨r,g⟩
  .simp
  .rw[I3 r];exact A t x g
 .show _=GR _ _ (RF (kh rd b u j::R)) f;simp only[RF,k7,GR,kh,Bo];exact z f
theorem Ay(rd:List Nat)(b:pick env rd=some a)(c:Bg hp (lZ base.hp)=some k)(h:∀F,JV P F ops o ⟨base.n,a,k⟩ u j)(f:Ts P F ops pre lo rest Q C base (kh rd (lZ base.hp) u j::R) ((u,j)::env) hp):Ts P F ops pre lo (o::rest) Q C base R env hp:=A1 rd _ b c h f
def mW(rd nm:List Nat)(dv:List (Nat×AV))(p:Nat->Nat->Bool)(env:List (Nat×AV))(hs':Hp)(xs:List Nat):Rc:=⟨rd,Zs (kc dv nm p env xs),nm,Q6 hs' nm,true,PO nm p⟩
theorem Ki(M:List Nat)(rd z:List Nat)(I:List (Nat×AV)){l' H:List (Nat×AV)}{u E N:Hp}(hl:pick env rd=some a)(hh:Bg hp z=some k)(h:∀F,jZ P F ops o ⟨base.n,a,k⟩ ⟨base.n,l',u⟩ f)(V:(I=[]/\o.dst=none)\/∃d j,I=[(d,j)]/\o.dst=some d/\Nat.blt d base.n=true/\get l' d=some j/\j.ok (Ju z)=true)(n1:A6 z u=true)(n2:GG z u=true)(X:CD (PO z f) env=some H)(w:Ch z hp=some E)(K:some (u++E)=some N)(hK:Ts P F ops pre lo rest Q C base (mW rd z I f env u M::R) (I++H) N)(Y:∀i c,Bo (Q6 u z) i=some c->C i c:=by intro _ _ _;trivial):Ts P F ops pre lo (o::rest) Q C base R env hp:=λT hr hC hV O W=>by
 injection K with K
 subst K;obtain ⟨ho,D⟩:=Mf (rc:=mW rd z I f env u M) hr
 have A:∀i,ek E i=if i∈z then none else ek hp i:=by
  clear hK W O hr D hh
  intro i
  induction hp generalizing E with
  | nil=>simp only[Ch,Option.some.injEq] at w;subst w;simp[ek]
  | cons q r ih=>
   obtain ⟨g,x⟩:=q;simp only[Ch] at w
   split at w
   .cases w
   .rename_i r' D
    have J:=ih D
    split at w<;>(injection w with w;subst w)
    .rename_i B
     by_cases e:g=i
     .subst e;rw[J,ϱ (Gb.1 B),ϱ (Gb.1 B)]
     .simp only[ek,I3 e];exact J
    .rename_i B
     by_cases e:g=i
     .subst e;have:g∉z:=λh=>by rw[Gb.2 h] at B;cases B
      simp[ek,this]
     .simp only[ek,I3 e];exact J
 refine hK T D hC ⟨hV,⟨o,ho,JT.eff hl hh O W h V n1 n2⟩,λi U=>?_,Y⟩ (λt x v=>?_) λi=>?_
 .have L:Bo (Q6 u z) i≠none:=U;rw[J9] at L
  by_cases B:i∈z
  .exact B
  .rw[υ B] at L;exact absurd Z L
 .show GR _ _ (RS (mW rd z I f env u M::R)) t=_;simp only[RS,k7,GR,mW];rw[MJ,kc,Jf];rw[Jf] at v
  cases hd:get I t with
  | some y=>rw[hd] at v;simp at v;subst v;simp
  | none=>
   rw[hd] at v;simp only[Option.none_or] at v⊢;rw[X2 X] at v;rw[LV];have B:iG t []=false:=rfl;rw[B]
   cases hg:get env t with
   | none=>rw[hg] at v;cases v
   | some b=>
    rw[hg] at v;simp only[l0,Option.some.injEq] at v
    by_cases G:b= .top
    .subst G
     have S:x= .top:=by
      cases hq:AV.top.ok (PO z f)<;>(rw[hq] at v;exact v.symm)
     subst S
     cases hm2:iG t M with
     | true=>
      simp only[AV.okK,Bool.not_true,l0,Option.getD_some]
     | false=>
      simp only[AV.okK,Bool.not_false,m9,Option.getD_none];exact O t _ hg
    simp only[AV.okK_eq G]
    cases hb:b.ok (PO z f) with
    | true=>
     rw[hb] at v;simp only at v;subst v;simp only[m9,Option.getD_none];exact O t b hg
    | false=>
     rw[hb] at v;simp only at v;subst v;simp only[l0,Option.getD_some]
 .show _=GR _ _ (RF (mW rd z I f env u M::R)) i;simp only[RF,k7,GR,mW];rw[V1 n1 i (λU=>by rw[A,ϱ U]),J9,A]
  split
  .simp
  .simp only[Option.getD_none];exact W i
theorem Cq(rd j:List Nat)(v:List (Nat×AV)){A r:List (Nat×AV)}{i t u:Hp}(E:pick env rd=some a)(G:Bg hp j=some k)(h:∀F,jZ P F ops o ⟨base.n,a,k⟩ ⟨base.n,A,i⟩ f)(y:(v=[]/\o.dst=none)\/∃d g,v=[(d,g)]/\o.dst=some d/\Nat.blt d base.n=true/\get A d=some g/\g.ok (Ju j)=true)(D:A6 j i=true)(B:GG j i=true)(z:CD (PO j f) env=some r)(w:Ch j hp=some t)(x:some (i++t)=some u)(H:Ts P F ops pre lo rest Q C base (mW rd j v f env i []::R) (v++r) u)(hCn:∀b c,Bo (Q6 i j) b=some c->C b c:=by intro _ _ _;trivial):Ts P F ops pre lo (o::rest) Q C base R env hp:=Ki [] rd j v E G h y D B z w x H hCn
theorem BR(c:Nat){n:Nat}{a:List (Nat×AV)}{b:Hp}(g:Nat.beq (lo+(x::R).length) c=true)(i:Vs pre (c+rest.length) lo c=true)(f:JI pre lo a b (x::R)=true)(h:Dw P F ops pre c rest Q ⟨n,env,hp⟩):Ts P F ops pre lo rest Q C ⟨n,a,b⟩ (x::R) env hp:=yI c g i f h
end
abbrev rg(n:Nat):List Nat:=List.range n
section
variable{P:Program}{ops:Array Oper}{Q:Exit->AS->Prop}{F:Fr}{pre:List (List Nat)}{lo:Nat}{rest:List Oper}{C:MG}{base:AS}{R:List Rc}{env:List (Nat×AV)}{hp:Hp}
variable{a:Array Edge}{c:String}{f:TypeId}{g:Nat}{h:AV}
theorem AK(rd:List Nat){l:List (Nat×AV)}{j:Option Tmp}{i:Op}(k:pick env rd=some l)(b:∀{F},AA P F ⟨j,i,f,c,a,none⟩ ⟨base.n,l,[]⟩ g h)(o:Ts P F ops pre lo rest Q C base (kh rd [] g h::R) ((g,h)::env) hp):
  Ts P F ops pre lo (⟨j,i,f,c,a,none⟩::rest) Q C base R env hp:=A1 rd [] k Z (λ_=>A9 b) o
theorem A7(t:Nat)(b:get env t=some h)(i:Nat.blt g base.n=true)(j:Ts P F ops pre lo rest Q C base (kh [t] [] g h::R) ((g,h)::env) hp):
  Ts P F ops pre lo (⟨some g,.move (.tmp t),f,c,a,none⟩::rest) Q C base R env hp:=
 AK [t] (l:=[(t,h)]) (by simp[pick,b]) (FF (by simp[AS.ev,get]) i) j
end
theorem CK.code{P:Program}{F:Fr}{Q:Exit->AS->Prop}{s:AS}{c a:Code}(e:c=a)(h:CK P F a Q s):CK P F c Q s:=e▸h
end Go.Proofs.YteifpcnphnhaoaaGreat
