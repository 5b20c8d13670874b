import Derived.Test.YteifpcnphnhaoaaGreatMg5
import Derived.Orders
namespace Go.Proofs.YteifpcnphnhaoaaGreat
open Go.RowKit
variable{a:Nat->Nat->Bool}{c:Type}{f:List (Nat×AV)}{t:Nat}{R:List (List (Nat×c))}{g:List (Nat×Option (List AM))}{h:Nat->c}{i:List (List Nat)}{j:Type}{k:List (Nat×Option AV)}{o:Hp}{s:List (Nat×c)}{u:List AM}{w:List j}{K:Act->World->Prop}{x:Nat}{y:World}{z A:Nat}{P:Program}{C F:j}{G:Nat}{H:Oper}{I:Nat->Bool}{L:Act}{M:AV}{N:AM}{S:Nat}
def Bg{α:Type}:List (Nat×α)->Nat->Option α
 | [],_=>none
 | (k,a)::r,t=>match Nat.beq k t with
  | true=>some a
  | false=>Bg r t
def GK{α:Type}(base:Nat->α)(L:Nat->Bool):List (List (Nat×α))->Nat->α
 | [],t=>base t
 | ws::r,t=>match L r.length with
  | true=>(Bg ws t).getD (GK base L r t)
  | false=>GK base L r t
theorem I6(h:w.reverse[z]? =some C):(F::w).reverse[z]? =some C:=by grind
theorem Mk:(F::w).reverse[w.length]? =some F:=by simp
theorem gW(h:(F::w).reverse[z]? =some C):w.reverse[z]? =some C\/(z=w.length/\C=F):=by grind
theorem Lm{r:List j}(h:r.reverse[z]? =some C):z<r.length:=by grind
theorem Gq{L:Nat->Bool}(a:∀k b,R.reverse[k]? =some b->Bg b t≠none->L k=I k):GK h L R t=GK h I R t:=by
 induction R with
 | nil=>rfl
 | cons b r g=>
  have f:=g λk b j i=>a k b (I6 j) i;simp only[GK]
  grind
theorem OC{A a:List (List (Nat×c))}:GK h (λk=>decide (k<a.length)) (A++a) t=GK h (λ_=>true) a t:=by
 induction A with
 | nil=>exact Gq λk f b _=>by have:=Lm (r:=a) b;simp[this]
 | cons x r g=>
  grind[GK]
theorem hZ{base:Nat->c}{L:Nat->Bool}{R:List (List (Nat×c))}{t:Nat}:(GK base L R t=base t/\∀k b,R.reverse[k]? =some b->Bg b t≠none->L k=false)\/∃k b,R.reverse[k]? =some b/\L k=true/\Bg b t=some (GK base L R t):=by
 induction R with
 | nil=>exact .inl ⟨Z,λk b h=>by simp at h⟩
 | cons b r o=>
  cases hL:L r.length with
  | false=>
   grind[GK]
  | true=>
   cases hw:Bg b t with
   | some a=>
    have e:GK base L (b::r) t=a:=by simp only[GK,hL,hw,Option.getD_some]
    exact .inr ⟨r.length,b,Mk,hL,by rw[e];exact hw⟩
   | none=>
    have e:GK base L (b::r) t=GK base L r t:=by simp only[GK,hL,hw,Option.getD_none]
    rw[e];rcases o with ⟨j,i⟩ | ⟨k,f,j,i,s⟩
    .refine .inl ⟨j,λk f g l=>?_⟩;rcases gW g with g | ⟨rfl,rfl⟩
     .exact i k f g l
     .exact absurd hw l
    .exact .inr ⟨k,f,I6 j,i,s⟩
theorem OB{L:Nat->Bool}{i:Nat}{ws:List (Nat×c)}(v:R.reverse[i]? =some ws)(y:L i=false)(l:∀k,I k=if k=i then true else L k)(g:Bg ws t≠none->∀k f,R.reverse[k]? =some f->i<k->L k=true->Bg f t=none):GK h I R t=(Bg ws t).getD (GK h L R t):=by
 induction R with
 | nil=>simp at v
 | cons x r w=>
  rcases gW v with j | ⟨rfl,rfl⟩
  .have s:r.length≠i:=by have:=Lm j;omega
   have b:=w j λo k f u=>g o k f (I6 u);simp only[GK,l,κ s]
   cases hLr:L r.length with
   | false=>exact b
   | true=>
    cases o:Bg ws t with
    | none=>rw[o] at b;simp only[Option.getD_none] at b⊢;rw[b]
    | some a=>
     rw[g (by rw[o];simp) r.length x Mk (Lm j) hLr];rw[o] at b
     simpa using b
  .simp only[GK,l,if_true,y]
   congr 1
   refine Gq λk f u _=>?_;rw[l,κ (by have:=Lm u;omega)]
structure Rc where
 rd:List Nat
 ws:List (Nat×Option AV)
 nm:List Nat
 fs:List (Nat×Option (List AM))
 eff:Bool
 ok:Nat->Nat->Bool
def HS{α:Type}(ws:List (Nat×α)):List Nat->Bool
 | []=>true
 | t::r=>(match Bg ws t with
  | none=>true
  | some _=>false) && HS ws r
theorem E2{l:List Nat}(h:HS s l=true){t:Nat}(b:t∈l):Bg s t=none:=by
 induction l with
 | nil=>cases b
 | cons a r f=>
  grind[HS]
def Oi{α:Type}:List (Nat×α)->List Nat
 | []=> []
 | (k,_)::r=>k::Oi r
theorem UA(h:Bg s t≠none):t∈Oi s:=by
 induction s with
 | nil=>exact absurd Z h
 | cons p r a=>
  grind[Bg,iG,Oi]
def vX(p:Nat->Nat->Bool):AM->Bool
 | .blk _ cs=>r8 p cs
 | .row _ _ xs=>xs.all λx=>ZR p x.cells
 | .rowD _ _ _=>true
 | .loop L=>Mn p L.env
 | .map _ _=>true
 | .iter f i _ _=>p f i
 | .addr f i _=>p f i
 | .any=>true
 | .nb _ _ _=>true
 | .nr _ _ _ _ _=>true
 | .nm _ _ _=>true
 | .itz=>true
 | .multi _=>true
def Tg(p:Nat->Nat->Bool):List AM->Bool
 | []=>true
 | o::r=>vX p o && Tg p r
theorem cc(h:vX a N=true)(g:N.Refs G A):a G A=true:=by
 cases N with
 | blk t B=>obtain ⟨c,j,g⟩:=g;exact O6 h j g
 | row t k s=>obtain ⟨x,v,c,j,g⟩:=g;exact Fp (j9.1 h x v) j g
 | rowD t k s=>exact g.elim
 | loop L=>obtain ⟨t,b,w,g⟩:=g;exact O5 h w g
 | map _ z=>exact g.elim
 | iter y u _ _=>obtain ⟨r,l⟩:=g;subst r l;exact h
 | addr y u _=>obtain ⟨r,l⟩:=g;subst r l;exact h
 | any=>exact g.elim
 | nb _ _ _=>exact g.elim
 | nr _ _ _ _ _=>exact g.elim
 | nm _ _ _=>exact g.elim
 | itz=>exact g.elim
 | multi _=>exact g.elim
theorem ZQ(h:Tg a u=true)(c:N∈u)(j:N.Refs G A):a G A=true:=by
 induction u with
 | nil=>cases c
 | cons b r g=>
  grind[Tg,cc]
def WA(p:Nat->Nat->Bool)(ex:List (Nat×Option AV)):List (Nat×Option AV)->Bool
 | []=>true
 | (t,a)::r=>(match Bg ex t with
  | some _=>true
  | none=>match a with
   | none=>true
   | some a=>a.ok p) && WA p ex r
theorem Q9{f:List (Nat×Option AV)}(h:WA a k f=true)(g:Bg f t=some (some M))(j:Bg k t=none):M.ok a=true:=by
 induction f with
 | nil=>cases g
 | cons q r i=>
  obtain ⟨c,b⟩:=q;simp only[WA,gq] at h
  grind[Bg,iG]
def WB(p:Nat->Nat->Bool)(ex:List (Nat×Option (List AM))):List (Nat×Option (List AM))->Bool
 | []=>true
 | (t,a)::r=>(match Bg ex t with
  | some _=>true
  | none=>match a with
   | none=>true
   | some l=>Tg p l) && WB p ex r
theorem Qa{c:List (Nat×Option (List AM))}(h:WB a g c=true)(f:Bg c t=some (some u))(j:Bg g t=none):Tg a u=true:=by
 induction c with
 | nil=>cases f
 | cons q r i=>
  obtain ⟨k,b⟩:=q;simp only[WB,gq] at h
  grind[Bg,iG]
def tG(p:Nat->Nat->Bool)(ex:List (Nat×Option AV)):List Nat->List (Nat×AV)->Bool
 | _,[]=>true
 | ks,(t,a)::r=>(match gA t ks with
  | true=>true
  | false=>match Bg ex t with
   | some _=>true
   | none=>a.ok p) && tG p ex (t::ks) r
theorem ce{g:List Nat}(h:tG a k g f=true)(i:get f t=some M)(l:t∉g)(s:Bg k t=none):M.ok a=true:=by
 induction f generalizing g with
 | nil=>cases i
 | cons q r o=>
  obtain ⟨c,b⟩:=q;simp only[tG,gq] at h;rcases Mc i with ⟨rfl,rfl⟩ | ⟨j,i⟩
  .have:gA c g=false:=by
    cases hm:gA c g with
    | false=>rfl
    | true=>exact absurd (G5.1 hm) l
   grind
  grind
def tF(p:Nat->Nat->Bool)(ex:List (Nat×Option (List AM))):Hp->Bool
 | []=>true
 | (f,l)::r=>(match Bg ex f with
  | some _=>true
  | none=>Tg p l) && tF p ex r
theorem cd(h:tF a g o=true)(b:fl o G=some u)(i:Bg g G=none):Tg a u=true:=by
 induction o with
 | nil=>cases b
 | cons q r c=>
  grind[tF,fl,iG]
def O0(ord:Bool)(rj ri:Rc):Bool:=
 (ord || (HS rj.ws ri.rd &&(HS rj.ws (Oi ri.ws) &&(HS ri.ws rj.rd &&(HS rj.fs ri.nm && HS ri.fs rj.nm))))) &&
 ((!ri.eff || (WA ri.ok ri.ws rj.ws && WB ri.ok ri.fs rj.fs)) &&(ord || (!rj.eff || (WA rj.ok rj.ws ri.ws && WB rj.ok rj.fs ri.fs))))
def gG:List (List Nat)->Nat->List Nat
 | [],_=> []
 | l::_,0=>l
 | _::r,i+1=>gG r i
def Nk(pr:List Nat)(lo:Nat)(ri:Rc):List Rc->Bool
 | []=>true
 | rj::r=>O0 (gA (lo+r.length) pr) rj ri && Nk pr lo ri r
def Iw(pre:List (List Nat))(lo:Nat)(env:List (Nat×AV))(hp:Hp):List Rc->Bool
 | []=>true
 | ri::r=>Nk (gG pre (lo+r.length)) lo ri r &&((!ri.eff || (tG ri.ok ri.ws [] env && tF ri.ok ri.fs hp)) && Iw pre lo env hp r)
variable{E Q:Rc}
theorem SW{b:List Nat}{r:List Rc}(h:Nk b x E r=true)(c:r.reverse[S]? =some Q):O0 (gA (x+S) b) Q E=true:=by
 induction r with
 | nil=>simp at c
 | cons a r f=>
  grind[Nk]
variable{B:List Rc}
theorem G3(h:Iw i x f o B=true)(c:B.reverse[A]? =some E)(k:B.reverse[S]? =some Q)(b:S<A):O0 (gA (x+S) (gG i (x+A))) Q E=true:=by
 induction B with
 | nil=>simp at c
 | cons a r g=>
  grind[Iw,gW,SW]
theorem Mz(h:Iw i x f o B=true)(b:B.reverse[A]? =some E)(g:E.eff=true):tG E.ok E.ws [] f=true/\tF E.ok E.fs o=true:=by
 induction B with
 | nil=>simp at b
 | cons a r c=>
  grind[Iw]
def Q3(ops:List Oper)(pre:List (List Nat)):List (List Nat)->List Oper->Nat->Bool
 | [],[],_=>true
 | l::ls,o::os,i=>(l.all λx=>o.after.toList.any λe=>Region.binds .any e &&(Nat.beq e.on x || gA x (gG pre e.on))) &&((o.after.toList.all λe=>!Region.binds .any e || Nat.blt e.on i) && Q3 ops pre ls os (i+1))
 | _,_,_=>false
def Gn(P:Program)(ops:Array Oper)(o:Oper)(K:Act->World->Prop)(a:Act)(w:World):Prop:=
 if Region.wanted o (yielded ops a.tmps) then o.wp P a w K (λ_ _ _=>False) else K (a.put o.dst undef) w
theorem HY{b:Array Oper}{c:Act->World->Prop}(f:∀L y,K L y->c L y)(h:Gn P b H K L y):Gn P b H c L y:=by grind[Gn,nZ]
theorem oo(h:H.wp P L y K (λ_ _ _=>False)):H.wp P L y (λc g=>K c g/\∃v,c.tmps=(L.put H.dst v).tmps) (λ_ _ _=>False):=by
 unfold Oper.wp at h⊢
 generalize (execOp L.eval H).run P y=r at h
 cases r with
 | ok x y=>
  cases x with
  | value v=>exact ⟨h,v,Z⟩
  | skip=>exact ⟨h,_,Z⟩
  | defer d=>
   refine ⟨h,undef,?_⟩
   cases H.dst<;>rfl
  | enter f b=>
   grind[Oper.upon_enter]
  | row r b=>
   grind[Oper.upon_row]
  | _=>exact h.elim
 | halt x y=>
  cases x<;>exact h.elim
abbrev L5:=Nat->Option (List AM)->Prop
abbrev C0:L5:=λ_ _=>True
def JE(P:Program)(ops:Array Oper)(n:Nat)(o:Oper)(rc:Rc)(C:L5)(hU:Nat->Option AV)(hY:Nat->Option (List AM)):Prop:=
 ∀F ρ act w env hp,SR F ⟨n,env,hp⟩ ρ act w->(∀f,C f (fl hp f))->(∀t∈rc.rd,get env t=hU t)->(∀f∈rc.nm,fl hp f=hY f)→
  (rc.eff=true->∀t a,get env t=some a->Bg rc.ws t=none->a.ok rc.ok=true)->(rc.eff=true->∀f l,fl hp f=some l->Bg rc.fs f=none->Tg rc.ok l=true)→
  Gn P ops o (λact' w'=>∃ρ' env' hp',SR F ⟨n,env',hp'⟩ ρ' act' w'/\(∀t,get env' t=(Bg rc.ws t).getD (get env t))/\∀f,fl hp' f=(Bg rc.fs f).getD (fl hp f)) act w
def JG(P:Program)(F:Fr)(ops:Array Oper)(o:Oper)(s:AS)(d:Nat)(a:AV):Prop:=d<s.n/\∀ρ act w,SR F s ρ act w→
 Gn P ops o (λact' w'=>∃v,act'=act.put (some d) v/\A7 w' (F.O ρ s.hp) ρ a v/\(w'.os=w.os/\w'.tape=w.tape/\w'.output=w.output/\F.w0.drawn<=w'.drawn)/\w.heap.size<=w'.heap.size/\∀b,b<w.heap.size->w'.heap[b]? =w.heap[b]?) act w
def fu(P:Program)(F:Fr)(ops:Array Oper)(o:Oper)(s s':AS)(p:Nat->Nat->Bool):Prop:=∀ρ act w,SR F s ρ act w→
 Gn P ops o (λact' w'=>∃ρ',SR F s' ρ' act' w'/\(∃v,act'.tmps=(act.put o.dst v).tmps)/\∀f i,p f i=true->ρ' f i=ρ f i) act w
theorem B9.stay{F:Fr}{r:Nat->Nat->Value}{g:World}(h:B9 F o r y)(j:g.os=y.os/\g.tape=y.tape/\g.output=y.output/\F.w0.drawn<=g.drawn)(l:y.heap.size<=g.heap.size)(k:∀b,b<y.heap.size->g.heap[b]? =y.heap[b]?):B9 F o r g:=by
 refine ⟨λf i a j=>?_,h.inj,λb k=>⟨jB (h.mine b k).1 l,(h.mine b k).2⟩,j.1.trans h.os,j.2.1.trans h.tape,j.2.2.1.trans h.output,gY h.size0 l,λb c t=>?_,h.pins,j.2.2.2⟩
 .exact (h.sim f i a j).mono l (λb c _=>k b c) (λ_ _ h=>h) (λb s=>k b (h.mine b ⟨f,i,a,j,s⟩).1) λ_ _ _=>rfl
 .rw[k b (jB c h.size0)];exact h.keep b c t
theorem Jq{b:Hp}{c:List Nat}(h:Ba o c=some b):A5 c b=true/\∀g,g∈c->fl b g=fl o g:=by
 have i:∀(c:List Nat) (b:Hp),Ba o c=some b->(∀g l,(g,l)∈b->g∈c)/\∀g,g∈c->fl b g=fl o g:=by
  intro c
  induction c with
  | nil=>intro b h;simp only[Ba,Option.some.injEq] at h;subst h;exact ⟨(λg l h=>by cases h),(λg h=>by cases h)⟩
  | cons a r j=>
   intro b h;simp only[Ba] at h
   split at h
   .cases h
   .rename_i l v
    obtain ⟨s,t⟩:=j l v
    split at h
    .rename_i u
     injection h with h;subst h
     refine ⟨λg x f=>ip _ (s g x f),λg f=>?_⟩;rcases Υ.1 f with rfl | f
     .by_cases w:g∈r
      .grind
      .rw[u]
       cases hh:fl l g with
       | none=>rfl
       | some x=>
        have:∀(l:Hp) x,fl l g=some x->∃y,(g,y)∈l:=by
         intro l
         induction l with
         | nil=>intro x h;cases h
         | cons p q j=>
          grind[fl,iG]
        grind
     grind
    grind[fl,iG,jF]
 obtain ⟨s,t⟩:=i c b h;refine ⟨?_,t⟩
 clear h t i
 induction b with
 | nil=>rfl
 | cons p r j=>
  obtain ⟨k,l⟩:=p;simp only[A5,gq];exact ⟨G5.2 (s k l iV),j λg l f=>s g l (ip _ f)⟩
theorem F4{hp CH:Hp}{nm:List Nat}(h:∀g,g∈nm->fl hp g=fl CH g):CO hp CH nm:=by
 induction nm with
 | nil=>trivial
 | cons a r b=>exact ⟨h a iV,b λg c=>h g (ip _ c)⟩
theorem OZ{b:List (Nat×AV)}{rd:List Nat}{l:List (Nat×AV)}(c:pick b rd=some l):∀t a,get l t=some a->t∈rd/\get b t=some a:=by
 induction rd generalizing l with
 | nil=>intro t a f;simp only[pick,Option.some.injEq] at c;subst c;cases f
 | cons x r g=>
  intro t a f;simp only[pick] at c
  grind[Mc,get]
section
variable{P:Program}{ops:Array Oper}{n:Nat}{o:Oper}
variable{a:List Nat}{c f:Nat->Nat->Bool}{g i:List (Nat×AV)}{C:L5}{j:AV}{k s t:Hp}{u w:Nat}
theorem JE.pure{rd J:List Nat}{l i:List (Nat×AV)}{u y:Hp}{d:Nat}{a:AV}{hU:Nat->Option AV}{hY:Nat->Option (List AM)}(T:pick i rd=some l)(U:Ba y J=some u)(V:∀t a,get i t=some a->hU t=some a)(W:∀f,fl y f=hY f){C:L5}(h:∀F,JG P F ops o ⟨n,l,u⟩ d a):JE P ops n o ⟨rd,[(d,some a)],J,[],false,λ_ _=>true⟩ C hU hY:=by
 intro F r B w k E c _ Y X _ _;obtain ⟨S,R⟩:=Jq U;obtain ⟨A,Q,I⟩:=F3 F.lo c.heap J (F4 λg N=>by rw[X g N,<-W,R g N]) S;have z:=OZ T
 have L:SR (Bq F F.lo E u r w A) ⟨n,l,u⟩ r B w:=by
  refine ⟨c.size,I▸c.defs,λt x K=>?_,Q⟩;obtain ⟨e1,e2⟩:=z t x K;rw[I];exact c.env t x (by show get k t=some x;rw[Y t e1];exact V t x e2)
 obtain ⟨g0,Z⟩:=h (Bq F F.lo E u r w A);refine HY ?_ (Z r B w L);rintro O w' ⟨v,rfl,M,D,H,G⟩;refine ⟨r,(d,a)::k,E,SR.put (s:=⟨n,k,E⟩) ⟨c.size,c.defs.mono H (λb j _=>G b j) (λ_ _ h=>h),λt x K=>(c.env t x K).mono H (λb j _=>G b j) (λ_ _ h=>h) (λ_ _ _=>rfl),c.heap.stay ⟨D.1,D.2.1,D.2.2.1,gY c.heap.drawn D.2.2.2⟩ H G⟩ g0 (by rw[I] at M;exact M),λt=>?_,λf=>rfl⟩;simp only[Bg,get]
 grind
theorem JE.pure2{rd j:List Nat}{l y:List (Nat×AV)}{k I:Hp}{d f:Nat}{c1 c2:List AM}{a:AV}{hU:Nat->Option AV}{hY:Nat->Option (List AM)}(hl:pick y rd=some l)(hh:Ba I j=some k)(hf:gA f j=false)(hS:∀t a,get y t=some a->hU t=some a)(hF:∀f,fl I f=hY f){C:L5}(hC:∀x,C f x->x=some c1\/x=some c2)(h1:∀F,JG P F ops o ⟨n,l,(f,c1)::k⟩ d a)(h2:∀F,JG P F ops o ⟨n,l,(f,c2)::k⟩ d a):JE P ops n o ⟨rd,[(d,some a)],j,[],false,λ_ _=>true⟩ C hU hY:=by
 intro F G E w u B i hCf g1 g2 g3 g4;obtain ⟨p1,p2⟩:=Jq hh;have hfn:f∉j:=λhm=>by rw[G5.2 hm] at hf;cases hf
 have S:∀c,fl B f=some c->(∀F,JG P F ops o ⟨n,l,(f,c)::k⟩ d a)->Gn P ops o (λA X=>∃N z J,SR F ⟨n,z,J⟩ N A X/\(∀t,get z t=(Bg [(d,some a)] t).getD (get u t))/\∀f,fl J f=(Bg ([]:List (Nat×Option (List AM))) f).getD (fl B f)) E w:=λc hc h=>by
  have W:CO B ((f,c)::k) (f::j):=F4 λg Z=>by
   rcases Υ.1 Z with rfl | Z
   .simp[fl,hc]
   grind[fl,IU]
  have V:A5 (f::j) ((f,c)::k)=true:=by
   simp only[A5,gq];refine ⟨G5.2 iV,?_⟩
   have S:∀(H:Hp),A5 j H=true->A5 (f::j) H=true:=by
    intro H
    induction H with
    | nil=>intro _;rfl
    | cons p r ih=>
     grind[A5,gA]
   grind
  obtain ⟨L,q1,R⟩:=F3 F.lo i.heap (f::j) W V;have K:=OZ hl
  have U:SR (Bq F F.lo B ((f,c)::k) G w L) ⟨n,l,(f,c)::k⟩ G E w:=by
   refine ⟨i.size,R▸i.defs,λt x T=>?_,q1⟩;obtain ⟨e1,e2⟩:=K t x T;rw[R];exact i.env t x (by show get u t=some x;rw[g1 t e1];exact hS t x e2)
  obtain ⟨k0,k1⟩:=h (Bq F F.lo B ((f,c)::k) G w L);refine HY ?_ (k1 G E w U);rintro A X ⟨v,rfl,Y,M,Q,O⟩;refine ⟨G,(d,a)::u,B,SR.put (s:=⟨n,u,B⟩) ⟨i.size,i.defs.mono Q (λb D _=>O b D) (λ_ _ h=>h),λt x T=>(i.env t x T).mono Q (λb D _=>O b D) (λ_ _ h=>h) (λ_ _ _=>rfl),i.heap.stay ⟨M.1,M.2.1,M.2.2.1,gY i.heap.drawn M.2.2.2⟩ Q O⟩ k0 (by rw[R] at Y;exact Y),λt=>?_,λf=>rfl⟩;simp only[Bg,get]
  grind
 grind
def AV.okK(ok:Nat->Nat->Bool)(b:Bool):AV->Bool
 | .top=>!b
 | a=>a.ok ok
theorem AV.okK_eq{b:Bool}(h:j≠ .top):j.okK c b=j.ok c:=by
 cases j<;>first | rfl | exact absurd rfl h
def Hi(ok:Nat->Nat->Bool)(xs:List Nat):List Nat->List (Nat×AV)->List (Nat×AV)
 | _,[]=> []
 | ks,(t,a)::r=>match gA t ks,a.okK ok (gA t xs) with
  | false,false=>(t,.top)::Hi ok xs (t::ks) r
  | _,_=>Hi ok xs (t::ks) r
variable{h:List (Nat×AV)}
theorem Ku{g ks:List Nat}{t:Nat}:get (Hi c g ks h) t=match gA t ks,get h t with
  | false,some a=>match a.okK c (gA t g) with
   | true=>none
   | false=>some .top
  | _,_=>none:=by
 induction h generalizing ks with
 | nil=>simp only[Hi,get];cases gA t ks<;>rfl
 | cons q r l=>
  obtain ⟨k,b⟩:=q;have f:=l (ks:=k::ks);simp only[Hi]
  by_cases e:k=t
  .subst e;have i:gA k (k::ks)=true:=G5.2 iV;rw[i] at f;have j:get ((k,b)::r) k=some b:=by simp only[get,ic]
   rw[j]
   cases h1:gA k ks with
   | true=>exact f
   | false=>
    cases h2:b.okK c (gA k g) with
    | true=>simp only[h2];exact f
    | false=>simp only[h2,get,ic]
  .have i:gA t (k::ks)=gA t ks:=by simp only[gA,IU e,Bool.false_or]
   rw[i] at f;have j:get ((k,b)::r) t=get r t:=by simp only[get,IU e]
   rw[j]
   split
   .simp only[get,IU e];exact f
   .exact f
theorem WL{c:List (Nat×AV)}(b:Bt f h=some c)(t:Nat):get c t=(get h t).map λa=>match a.ok f with
  | true=>a
  | false=> .top:=by
 induction h generalizing c with
 | nil=>simp only[Bt,Option.some.injEq] at b;subst b;rfl
 | cons q r j=>
  obtain ⟨k,x⟩:=q;simp only[Bt] at b
  split at b
  .cases b
  .rename_i s l
   have g:=j l
   split at b<;>(injection b with b;subst b)
   .rename_i i
    by_cases e:k=t
    .subst e;simp only[get,ic,ij,i]
    .simp only[get,IU e];exact g
   .rename_i i
    by_cases e:k=t
    .subst e;simp only[get,ic,ij,i]
    .simp only[get,IU e];exact g
def Y0:List (Nat×AV)->List (Nat×Option AV)
 | []=> []
 | (t,a)::r=>(t,some a)::Y0 r
theorem L7(l:List (Nat×AV))(t:Nat):Bg (Y0 l) t=(get l t).map some:=by
 induction l with
 | nil=>rfl
 | cons q r a=>
  grind[Y0,Bg,get]
theorem JW(l a:List (Nat×AV))(t:Nat):get (l++a) t=(get l t).or (get a t):=by
 induction l with
 | nil=>rfl
 | cons q r b=>
  grind[get]
def Ps(hs':Hp):List Nat->List (Nat×Option (List AM))
 | []=> []
 | f::r=>(f,fl hs' f)::Ps hs' r
theorem JR:Bg (Ps t a) w=if w∈a then some (fl t w) else none:=by
 induction a with
 | nil=>simp[Ps,Bg]
 | cons b r c=>
  simp only[Ps,Bg]
  by_cases e:b=w
  .subst e;simp
  grind[IU]
def LT(nm:List Nat):Hp->Hp
 | []=> []
 | (g,l)::r=>match gA g nm with
  | true=>LT nm r
  | false=>(g,l)::LT nm r
theorem KF{b:Hp}(f:Nat):fl (LT a b) f=if f∈a then none else fl b f:=by
 induction b with
 | nil=>simp[LT,fl]
 | cons q r g=>
  obtain ⟨k,l⟩:=q;simp only[LT]
  by_cases e:k=f
  .subst e
   cases hm:gA k a with
   | true=>simp only[g,ς (G5.1 hm)]
   | false=>
    have c:k∉a:=λh=>by rw[G5.2 h] at hm;cases hm
    simp[fl,c]
  grind[fl,IU]
theorem UO{H b:Hp}(h:A5 a H=true)(f:Nat)(j:f∈a->fl b f=none):fl (H++b) f=if f∈a then fl H f else fl b f:=by
 have c:∀H:Hp,fl (H++b) f=(fl H f).or (fl b f):=by
  intro H
  induction H with
  | nil=>rfl
  | cons p r i=>
   grind[fl]
 rw[c]
 split
 .grind
 .rename_i g
  cases hh:fl H f with
  | none=>rfl
  | some l=>exact absurd (GZ h hh) g
def O3(nm:List Nat)(p:Nat->Nat->Bool)(f i:Nat):Bool:=!(gA f nm) || p f i
def hJ(dv:List (Nat×AV))(nm:List Nat)(p:Nat->Nat->Bool)(env0:List (Nat×AV))(xs:List Nat):List (Nat×AV):=dv++Hi (O3 nm p) xs [] env0
theorem JE.eff{rd R:List Nat}{l' M:List (Nat×AV)}{hU:Nat->Option AV}{hY:Nat->Option (List AM)}(hl:pick g rd=some i)(hh:Ba k a=some s)(hS:∀c z,get g c=some z->hU c=some z)(hF:∀u,fl k u=hY u)(h:∀F,fu P F ops o ⟨n,i,s⟩ ⟨n,l',t⟩ f)(hdv:(M=[]/\o.dst=none)\/∃d z,M=[(d,z)]/\o.dst=some d/\Nat.blt d n=true/\get l' d=some z/\z.ok (Jb a)=true)(n1:A5 a t=true)(n2:Fv a t=true):
  JE P ops n o ⟨rd,Y0 (hJ M a f g R),a,Ps t a,true,O3 a f⟩ C hU hY:=by
 intro F ρ V w J hp D _ h1 h2 h3 h4;obtain ⟨p1,p2⟩:=Jq hh;have Y:=F4 (hp:=hp) (CH:=s) (nm:=a) λr hg=>by rw[h2 r hg,<-hF,p2 r hg]
 obtain ⟨T,q1,q2⟩:=F3 F.lo D.heap a Y p1;have X:=OZ hl
 have hsm:SR (Bq F F.lo hp s ρ w T) ⟨n,i,s⟩ ρ V w:=by
  refine ⟨D.size,q2▸D.defs,λc x hx=>?_,q1⟩;obtain ⟨O,U⟩:=X c x hx;rw[q2];exact D.env c x (by show get J c=some x;rw[h1 c O];exact hS c x U)
 refine HY ?_ (h (Bq F F.lo hp s ρ w T) ρ V w hsm);rintro Q w' ⟨ρ',N,⟨v,hv⟩,hp'⟩
 have H:∀r j,ey (LT a hp) r j=if r∈a then none else ey hp r j:=λr j=>by
  simp only[ey,KF]
  split<;>rfl
 have I:∀r j K,ey (LT a hp) r j=some K->K.Less (O3 a f) K:=λr j K B=>by
  rw[H] at B
  split at B
  .cases B
  .rename_i hg
   simp only[ey] at B
   cases hfa:fl hp r with
   | none=>rw[hfa] at B;cases B
   | some lo=>
    rw[hfa] at B;have G:=h4 Z r lo hfa (by rw[JR,κ hg]);exact ⟨λ_ _ _ _ h=>h,λu j hr=>(jW B).elim (λhm=>ZQ G hm hr) (λ⟨_,m,_,_,e⟩=>absurd (e▸hr) Al.norefs),λc cs e=>⟨cs,e⟩,λc cs e=>⟨cs,e⟩⟩
 obtain ⟨W,a1,a2,a3,a4,a5,_,a6⟩:=Qn (ok:=O3 a f) D.heap a Y p1 H (λr j K B=>⟨K,B,I r j K B⟩) (λr j K B=>⟨K,B,I r j K B⟩) T q1 N.heap n1 n2
  (λu j S G=>hp' u j (by simpa only[O3,G5.2 S,Bool.not_true,Bool.false_or] using G))
 have E:Q.tmps.size=n/\∀c,get M c=none->Q.tmps.getD c undef=V.tmps.getD c undef:=by
  refine ⟨N.size,λc ht=>?_⟩;rcases hdv with ⟨O,U⟩ | ⟨d,z,O,U,e3,_⟩
  .rw[hv,U];rfl
  .rw[hv,U];refine Mt λe=>?_;subst e;rw[O] at ht;simp[get] at ht
 refine ⟨W,hJ M a f g R++J,t++LT a hp,⟨E.1,N.defs.mono (Γ _) (λ_ _ _=>rfl) (λb _=>a6 b),λc x hx=>?_,a1⟩,λc=>?_,λu=>?_⟩
 .have A:get (hJ M a f g R++J) c=some x:=hx;rw[JW,hJ,JW] at A
  cases L:get M c with
  | some y=>
   rw[L] at A
   simp at A
   subst A;rcases hdv with ⟨O,U⟩ | ⟨d,z,O,U,e3,e4,e5⟩
   .rw[O] at L;cases L
   .rw[O] at L;rcases Mc L with ⟨rfl,rfl⟩ | ⟨_,L⟩
    .exact a2 _ _ (λu j S=>G5.1 (AV.ok_spec e5 S)) (N.env d z e4)
    .cases L
  | none=>
   rw[L] at A;simp only[Option.none_or] at A
   cases hk:get (Hi (O3 a f) R [] g) c with
   | some y=>
    rw[hk] at A
    simp at A
    subst A;rw[Ku] at hk
    have:y=AV.top:=by
     split at hk
     .split at hk
      .cases hk
      .injection hk with hk;exact hk.symm
     .cases hk
    rw[this];exact .top
   | none=>
    rw[hk] at A;simp only[Option.none_or] at A;have G:=h3 Z c x A (by rw[L7,hJ,JW,L,hk];rfl);rw[E.2 c L];exact a3 _ _ (λu j S=>AV.ok_spec G S) (D.env c x A)
 .show get (hJ M a f g R++J) c=(Bg (Y0 (hJ M a f g R)) c).getD (get J c);rw[L7,JW]
  cases get (hJ M a f g R) c<;>rfl
 .show fl (t++LT a hp) u=(Bg (Ps t a) u).getD (fl hp u);rw[UO n1 u (λS=>by rw[KF,ς S]),JR,KF]
  split<;>simp
end
variable{a:List (List Nat)}{c:Array Oper}{L:Nat->Bool}
def Lf(listed:Array Bool)(k:Nat):Bool:=listed.getD k false
def cnt(L:Nat->Bool):Nat->Nat
 | 0=>0
 | n+1=>cnt L n+(match L n with
  | true=>0
  | false=>1)
theorem md{a:Nat->Bool}{i n:Nat}(j:L i=false)(f:∀k,a k=if k=i then true else L k)(g:i<n):cnt a n+1=cnt L n:=by
 induction n with
 | zero=>omega
 | succ n b=>
  have c:∀m,m<=i->cnt a m=cnt L m:=by
   intro m
   induction m with
   | zero=>intro _;rfl
   | succ m b=>intro h;simp only[cnt,b (by omega),f,κ (show ¬m=i by omega)]
  grind[cnt]
theorem me{i n:Nat}(c:L i=false)(b:i<n):0<cnt L n:=by
 induction n with
 | zero=>omega
 | succ n a=>
  grind[cnt]
theorem rX{listed:Array Bool}{i:Nat}(a:i<listed.size)(k:Nat):Lf (listed.setIfInBounds i true) k=if k=i then true else Lf listed k:=by
 unfold Lf
 by_cases e:k=i
 .simp_all
 .rw[κ e];simp[Array.getElem?_setIfInBounds_ne (λh=>e h.symm)]
structure FX (ops:Array Oper) (pre:List (List Nat)):Prop where
 preds:∀(j:Nat) o,ops[j]? =some o->∀x∈gG pre j,∃e∈o.after,Region.binds .any e=true/\(e.on=x\/x∈gG pre e.on)
 back:∀(j:Nat) o,ops[j]? =some o->∀e∈o.after,Region.binds .any e=true->e.on<j
 nod:∀(j:Nat) o,ops[j]? =some o->Op.isDefer o.op=false
theorem Vv(h:Q3 c.toList a a c.toList 0=true)(s:c.toList.all (λo=>!Op.isDefer o.op)=true):FX c a:=by
 have r:∀(g:List (List Nat)) (f:List Oper) (i:Nat),Q3 c.toList a g f i=true->(∀j,gG g j=gG a (i+j))->∀(j:Nat) o,f[j]? =some o→
   (∀x∈gG a (i+j),∃e∈o.after,Region.binds .any e=true/\(e.on=x\/x∈gG a e.on))/\∀e∈o.after,Region.binds .any e=true->e.on<i+j:=by
  intro g
  induction g with
  | nil=>intro f i h _ j o b;cases f with
   | nil=>simp at b
   | cons _ _=>simp[Q3] at h
  | cons l g y=>
   intro f i h v j o b
   cases f with
   | nil=>simp at b
   | cons C f=>
    simp only[Q3,gq] at h;obtain ⟨B,A,z⟩:=h
    cases j with
    | zero=>
     simp at b;subst b
     have w:=v 0;simp only[gG,ib] at w;refine ⟨λx u=>?_,λe t k=>?_⟩
     .rw[ib,<-w] at u;have:=j9.1 B x u;obtain ⟨e,t,k⟩:=List.any_eq_true.1 this;simp only[gq,Bool.or_eq_true] at k;exact ⟨e,Array.mem_toList_iff.1 t,k.1,k.2.imp iG G5.1⟩
     .have:=j9.1 A e (Array.mem_toList_iff.2 t);rw[k] at this
      simpa using IW (by simpa using this)
    | succ j=>
     have:=y f (i+1) z (λj=>by have:=v (j+1);simp only[gG] at this;rw[this];congr 1;omega) j o (by simpa using b);rw[show i+1+j=i+(j+1) by omega] at this;exact this
 have D:=r a c.toList 0 h (λj=>by rw[i9]);refine ⟨λj o b=>?_,λj o b=>?_,λj o b=>by simpa using j9.1 s o (Array.mem_toList_iff.2 (Array.mem_of_getElem? b))⟩
 .grind
 simp_all
theorem FX.lt(h:FX c a):∀j,j<c.size->∀x∈gG a j,x<j:=by
 intro j
 induction j using Nat.strongRecOn with
 | _ j l=>
  intro b x g;obtain ⟨e,i,k,f⟩:=h.preds j _ (iW b) x g;have:=h.back j _ (iW b) e i k
  grind
section
variable{P:Program}{ops:Array Oper}{pre:List (List Nat)}{r:Option Nat}{Q:Exit->Act->World->Prop}
variable{K:Act->World->Prop}{w:World}{o:Oper}{a:Act}
theorem F9{s:Act->World->Prop}{Q k:Exit->Act->World->Prop}(g:∀a w,K a w->s a w)(f:∀e a w,e≠ .normal->Q e a w->k e a w)(b:o.wpIn (Qu r) 0 P a w K Q):o.wpIn (Qu r) 0 P a w s k:=by
 unfold Oper.wpIn at*;refine ⟨b.1,?_⟩;have b:=b.2
 generalize (o.semAt (Qu r).round a.eval).run P w=j at*
 have l:LetsOut Q->LetsOut k:=λ⟨a,w,h⟩=>⟨a,w,f _ _ _ (by simp) h⟩
 cases j with
 | ok x t=>
  cases x<;>simp only[Oper.uponIn] at b⊢<;>
   first
    | exact g _ _ b
    | exact ⟨b.1,CallsIn.mono b.2 (λe i c=>by cases e<;>first | exact g _ _ c | exact f _ _ _ (by simp) c | exact l c)⟩
    | exact ⟨b.1,RowsIn.mono b.2 (λ_ _ c=>g _ _ c)⟩
    | exact ⟨b.1,RoundIn.mono b.2 (λe i c=>by cases e<;>first | exact g _ _ c | exact f _ _ _ (by simp) c | exact l c)⟩
 | halt x t=>cases x<;>simp only[Oper.uponIn] at b⊢<;>first | exact f _ _ _ (by simp) b | exact b
def E8(P:Program)(r:Option Nat)(ops:Array Oper)(o:Oper)(Q:Exit->Act->World->Prop)(K:Act->World->Prop)(a:Act)(w:World):Prop:=
 if Region.wanted o (yielded ops a.tmps) then o.wpIn (Qu r) 0 P a w K Q else K (a.put o.dst undef) w
theorem VY(b:Op.isDefer o.op=false)(h:Gn P ops o K a w):E8 P r ops o Q K a w:=by grind[Gn,E8,F8]
theorem L8(Z:FX ops pre)(D v:Nat)(hhi:v<=ops.size)(O:∀j,v<=j->j<ops.size->∀x,D<=x->x<v->x∈gG pre j)(Inv:(Nat->Bool)->Act->World->Prop)(step:∀(L:Nat->Bool) a w i,D<=i->i<v->L i=false->(∀x∈gG pre i,L x=true)->(∀j,j<ops.size->L j=true->∀x∈gG pre j,L x=true)->Inv L a w->∃o,ops[i]? =some o/\E8 P r ops o Q (Inv λk=>if k=i then true else L k) a w)(fin:∀listed a w,listed.size=ops.size->(∀k,Lf listed k=decide (k<v))->Inv (Lf listed) a w->wpAnyIn (Qu r) 0 P .any ops Q (cnt (Lf listed) ops.size) listed a w):
  ∀b (listed:Array Bool) a w,listed.size=ops.size->b=cnt (Lf listed) ops.size->(∀j,j<ops.size->Lf listed j=true->∀x∈gG pre j,Lf listed x=true)->(∀k,k<D->Lf listed k=true)->(∀k,v<=k->Lf listed k=false)->Inv (Lf listed) a w->wpAnyIn (Qu r) 0 P .any ops Q b listed a w:=by
 intro b
 induction b with
 | zero=>
  grind[Lf,me]
 | succ b ih=>
  intro listed a w Y hf B G J hI
  by_cases t:∀k,D<=k->k<v->Lf listed k=true
  .grind
  .have hmr:∀{j},j∈Region.ready .any ops listed->j<ops.size/\Lf listed j=false/\∀x∈gG pre j,Lf listed x=true:=λ{j} C=>by
    obtain ⟨u,o,l,R⟩:=mem_ready.1 C;have A:j<ops.size:=(iq.1 l).1;refine ⟨A,?_,λx T=>?_⟩
    .unfold Lf;rw[ju,iW (by omega)] at u⊢;exact u
    .obtain ⟨e,U,V,z⟩:=Z.preds j o l x T;have N:=R e U V;rcases z with rfl | z
     .exact N
     .exact B e.on (by have:=Z.back j o l e U V;omega) N x z
   have hne:Region.ready .any ops listed≠ []:=by
    have hex:∃k,k<ops.size/\Lf listed k=false:=by
     refine Classical.byContradiction λM=>t λk I H=>?_
     cases y:Lf listed k with
     | true=>rfl
     | false=>exact absurd ⟨k,by omega,y⟩ M
    obtain ⟨k,s⟩:=hex
    have E:∃k,(k<ops.size/\Lf listed k=false)/\∀j,j<k->¬(j<ops.size/\Lf listed j=false):=by
     revert s
     induction k using Nat.strongRecOn with
     | _ k W=>
      intro s
      by_cases C:∃j,j<k/\(j<ops.size/\Lf listed j=false)
      .obtain ⟨j,u,l⟩:=C;exact W j u l
      .exact ⟨k,s,λj u l=>C ⟨j,u,l⟩⟩
    obtain ⟨k,s,hkm⟩:=E
    have hr:k∈Region.ready .any ops listed:=by
     refine mem_ready.2 ⟨?_,ops[k],iW s.1,λe U V=>?_⟩
     .have:=s.2;unfold Lf at this;rw[ju,iW (by omega)] at this⊢;exact this
     .have A:=Z.back k _ (iW s.1) e U V
      cases y:Lf listed e.on with
      | true=>exact y
      | false=>exact absurd ⟨by omega,y⟩ (hkm e.on A)
    intro h0;rw[h0] at hr;cases hr
   refine ⟨λh0=>absurd h0 hne,λi hi'=>?_⟩;obtain ⟨u,l,R⟩:=hmr hi';have F:D<=i:=Nat.le_of_not_lt λM=>by rw[G i M] at l;cases l
   have K:i<v:=Nat.lt_of_not_le λM=>t λk I H=>R k (O i M u k I H);obtain ⟨o,ho,f⟩:=step (Lf listed) a w i F K l R B hI;have c:=rX (listed:=listed) (i:=i) (by omega)
   have next:∀g S,Inv (λk=>if k=i then true else Lf listed k) g S->wpAnyIn (Qu r) 0 P .any ops Q b (listed.setIfInBounds i true) g S:=λg S hI'=>by
    refine ih _ g S (by simpa using Y) ?_ (λj C y x T=>?_) (λk s=>?_) (λk s=>?_) ?_
    .have:=md l c u;omega
    .rw[c] at y⊢
     by_cases e:x=i
     .rw[ς e]
     .rw[κ e]
      by_cases e2:j=i
      .subst e2;exact R x T
      .rw[κ e2] at y;exact B j C y x T
    .rw[c];split
     .rfl
     .exact G k s
    .rw[c,κ (by omega)];exact J k s
    .have:Lf (listed.setIfInBounds i true)=λk=>if k=i then true else Lf listed k:=funext c
     rw[this];exact hI'
   unfold wpOpIn;rw[ho];simp only[];unfold E8 at f
   split
   .rename_i X
    rw[ς X] at f;exact F9 next (λ_ _ _ _ h=>h) f
   .rename_i X
    rw[κ X] at f;exact ⟨λ_ _=>trivial,next _ _ f⟩
end
section
variable{P:Program}{F:Fr}{ops:Array Oper}{pre:List (List Nat)}{Q:Exit->AS->Prop}
variable{a:Nat}{s:AS}{R:List Rc}{C:L5}{c:Nat}
def kV(P:Program)(F:Fr)(ops:Array Oper)(lo:Nat)(Q:Exit->AS->Prop)(s:AS):Prop:=∀ρ act w listed,SR F s ρ act w->listed.size=ops.size->(∀k,Lf listed k=decide (k<lo))->wpAnyIn (Qu F.rnd) 0 P .any ops (Tu F Q) (cnt (Lf listed) ops.size) listed act w
theorem SR.drew{j:Nat->Nat->Value}{f:Act}{w a:World}(h:SR F s j f w)(k:a.heap=w.heap)(u:a.os=w.os)(r:a.tape=w.tape)(o:a.output=w.output)(v:w.drawn<=a.drawn:=by first | exact Nat.le_succ _ | exact Γ _):SR F s j f a:=by
 have g:w.heap.size<=a.heap.size:=by rw[k];exact Γ _
 have i:∀b,b<w.heap.size->a.heap[b]? =w.heap[b]?:=λb _=>by rw[k]
 exact ⟨h.size,h.defs.mono g (λb c _=>i b c) (λ_ _ h=>h),λt x l=>(h.env t x l).mono g (λb c _=>i b c) (λ_ _ h=>h) (λ_ _ _=>rfl),h.heap.stay ⟨u,r,o,gY h.heap.drawn v⟩ g i⟩
theorem rN{id:Nat}{l:List Oper}(i:P.follows .mixedOrders=true)(h:kV P F l.toArray 0 Q s):CD P F (.region id l.toArray true) Q s:=λc a w g=>by
 refine wpIn_region_any i ?_
 have b:∀k,Lf (Array.replicate l.toArray.size false) k=false:=λk=>by
  unfold Lf;rw[ju,Array.getElem?_replicate]
  split<;>rfl
 have j:∀n,cnt (Lf (Array.replicate l.toArray.size false)) n=n:=by
  intro n
  induction n with
  | zero=>rfl
  | succ n f=>simp only[cnt,f,b]
 have:=h c a {w with drawn:=w.drawn+1} (Array.replicate l.toArray.size false) (g.drew Z Z Z Z) (by simp) (λk=>by rw[b];simp)
 rwa [j] at this
def Qx(pre:List (List Nat))(lo hi:Nat):Nat->Nat->Bool
 | _,0=>true
 | j,m+1=>inAll lo (hi-lo) (gG pre j) && Qx pre lo hi (j+1) m
where inAll (x:Nat):Nat->List Nat->Bool
 | 0,_=>true
 | m+1,l=>gA x l && inAll (x+1) m l
theorem WT{x m:Nat}{l:List Nat}(h:Qx.inAll x m l=true):∀y,x<=y->y<x+m->y∈l:=by
 induction m generalizing x with
 | zero=>intro y b a;omega
 | succ m c=>
  simp only[Qx.inAll,gq] at h;intro y b a
  by_cases e:x=y
  .subst e;exact G5.1 h.1
  grind
theorem W3{b m:Nat}(i:a<=c)(h:Qx pre a c b m=true):∀j,b<=j->j<b+m->∀x,a<=x->x<c->x∈gG pre j:=by
 induction m generalizing b with
 | zero=>intro j o l;omega
 | succ m g=>
  simp only[Qx,gq] at h;intro j o l x f k
  by_cases e:b=j
  .subst e;exact WT h.1 x f (by omega)
  .exact g h.2 j (by omega) (by omega) x f k
def U8(pre:List (List Nat))(n lo hi:Nat):Bool:=Nat.ble lo hi &&(Nat.ble hi n && Qx pre lo hi hi (n-hi))
theorem MX{n:Nat}(h:U8 pre n a c=true):a<=c/\c<=n/\∀j,c<=j->j<n->∀x,a<=x->x<c->x∈gG pre j:=by
 simp only[U8,gq] at h;have f:=Nat.le_of_ble_eq_true h.1;have b:=Nat.le_of_ble_eq_true h.2.1
 grind[W3]
theorem Gd(g:FX ops pre){b:Array Bool}(i:∀k,Lf b k=decide (k<a)):∀j,j<ops.size->Lf b j=true->∀x∈gG pre j,Lf b x=true:=λj h c x f=>by
 rw[i] at c⊢;have:=jc c;have:=g.lt j h x f;exact gi (by omega)
theorem qo{o:Oper}(I:FX ops pre)(N:ops[a]? =some o)(T:U8 pre ops.size a (a+1)=true)(h:Ak P F ops [o] (λe l=>e= .normal/\kV P F ops (a+1) Q l) s):kV P F ops a Q s:=λK t w r M D B=>by
 obtain ⟨_,V,U⟩:=MX T;have f:=h K t w M;refine L8 I a (a+1) V U (λL g x=>((L a=false/\g=t/\x=w)\/(L a=true/\∃l c,kV P F ops (a+1) Q l/\SR F l c g x))) ?_ ?_ _ r t w D Z (Gd I B) (λk J=>by rw[B];exact gi J) (λk J=>by rw[B];exact gp (by omega)) (.inl ⟨by rw[B];simp,Z,Z⟩)
 .intro L g x i R O G _ _ H;have:i=a:=by omega
  subst this;rcases H with ⟨_,rfl,rfl⟩ | ⟨z,_⟩
  .refine ⟨o,N,?_⟩;unfold wpListIn at f;unfold E8
   split
   .rename_i C
    rw[ς C] at f;refine F9 ?_ ?_ f
    .rintro b w ⟨l,c,⟨_,v⟩,u⟩;exact .inr ⟨by simp,l,c,v,u⟩
    .rintro e b w E ⟨l,c,⟨S,v⟩,u⟩;exact absurd S E
   .rename_i C
    rw[κ C] at f;obtain ⟨_,l,c,⟨_,v⟩,u⟩:=f;exact .inr ⟨by simp,l,c,v,u⟩
  .rw[G] at z;cases z
 .intro j g x y A H;rcases H with ⟨z,_⟩ | ⟨_,l,c,v,u⟩
  .rw[A] at z;simp at z
  .exact v c g x j u y A
abbrev RS(R:List Rc):=R.map Rc.ws
abbrev RF(R:List Rc):=R.map Rc.fs
def hU(base:AS)(R:List Rc):Nat->Option AV:=GK (get base.env) (λ_=>true) (RS R)
def hY(base:AS)(R:List Rc):Nat->Option (List AM):=GK (fl base.hp) (λ_=>true) (RF R)
def YW(P:Program)(ops:Array Oper)(lo:Nat)(base:AS)(C:L5):List Rc->Prop
 | []=>True
 | rc::r=>YW P ops lo base C r/\(∃o,ops[lo+r.length]? =some o/\JE P ops base.n o rc C (hU base r) (hY base r))/\(∀f,Bg rc.fs f≠none->f∈rc.nm)/\∀f c,Bg rc.fs f=some c->C f c
theorem YW.at{b:AS}(h:YW P ops a b C R){k:Nat}{g:Rc}(i:R.reverse[k]? =some g):∃A r,R=A++g::r/\r.length=k/\(∃o,ops[a+k]? =some o/\JE P ops b.n o g C (hU b r) (hY b r))/\(∀f,Bg g.fs f≠none->f∈g.nm)/\∀f c,Bg g.fs f=some c->C f c:=by
 induction R with
 | nil=>simp at i
 | cons x r l=>
  rcases gW i with i | ⟨rfl,rfl⟩
  .obtain ⟨A,j,t,s⟩:=l h.1 i;exact ⟨x::A,j,by rw[t];rfl,s⟩
  .exact ⟨[],r,Z,Z,h.2.1,h.2.2⟩
def rY(P:Program)(F:Fr)(ops:Array Oper)(lo:Nat)(Q:Exit->AS->Prop)(C:L5)(base:AS)(R:List Rc)(env:List (Nat×AV))(hp:Hp):Prop:=
 (∀f,C f (fl base.hp f))->YW P ops lo base C R->(∀t a,get env t=some a->hU base R t=some a)->(∀f,fl hp f=hY base R f)->kV P F ops lo Q base
theorem ed(b:∀f,C f (fl s.hp f))(h:rY P F ops a Q C s [] s.env s.hp):kV P F ops a Q s:=h b trivial (λ_ _ h=>h) λ_=>rfl
structure i5 (pre:List (List Nat)) (lo i j:Nat) (ri rj:Rc):Prop where
 race:(lo+j)∉gG pre (lo+i)->HS rj.ws ri.rd=true/\HS rj.ws (Oi ri.ws)=true/\HS ri.ws rj.rd=true/\HS rj.fs ri.nm=true/\HS ri.fs rj.nm=true
 late:ri.eff=true->WA ri.ok ri.ws rj.ws=true/\WB ri.ok ri.fs rj.fs=true
 early:(lo+j)∉gG pre (lo+i)->rj.eff=true->WA rj.ok rj.ws ri.ws=true/\WB rj.ok rj.fs ri.fs=true
theorem GX{i j:Nat}{f c:Rc}(h:O0 (gA (a+j) (gG pre (a+i))) c f=true):i5 pre a i j f c:=by
 have k:(a+j)∉gG pre (a+i)->gA (a+j) (gG pre (a+i))=false:=λb=>by
  cases hh:gA (a+j) (gG pre (a+i)) with
  | false=>rfl
  | true=>exact absurd (G5.1 hh) b
 simp only[O0,gq,Bool.or_eq_true,Bool.not_eq_true'] at h;refine ⟨λb=>?_,λg=>?_,λb g=>?_⟩
 all_goals (grind)
theorem ee{j hi:Nat}{C:L5}{s:AS}{R:List Rc}{env:List (Nat×AV)}{hp:Hp}(hps:FX ops pre)(hhi:Nat.beq (j+R.length) hi=true)(hc:U8 pre ops.size j hi=true)(G:Iw pre j s.env s.hp R=true)(h:kV P F ops hi Q ⟨s.n,env,hp⟩):rY P F ops j Q C s R env hp:=λhC hV hE hH=>by
 intro ρ act w H hs hsz hL;have hhi':=iG hhi;subst hhi';obtain ⟨_,c2,c3⟩:=MX hc
 let Inv:(Nat->Bool)->Act->World->Prop:=λL act w=>∃ρ env hp,SR F ⟨s.n,env,hp⟩ ρ act w/\(∀t,get env t=GK (get s.env) (λk=>L (j+k)) (RS R) t)/\∀f,fl hp f=GK (fl s.hp) (λk=>L (j+k)) (RF R) f
 have hnone:∀{α:Type} (base:Nat->α) (R:List (List (Nat×α))) t,GK base (λk=>Lf H (j+k)) R t=base t:=by
  intro α base R t
  induction R with
  | nil=>rfl
  | cons ws r ih=>
   have h0:Lf H (j+r.length)=false:=by rw[hL];exact gp (by omega)
   simp only[GK,h0];exact ih
 refine L8 hps j (j+R.length) c2 c3 Inv ?_ ?_ _ H act w hsz Z (Gd hps hL) (λk u=>by rw[hL];exact gi u) (λk u=>by rw[hL];exact gp (by omega)) ⟨ρ,s.env,s.hp,hs,λt=>(hnone _ _ t).symm,λf=>(hnone _ _ f).symm⟩
 .intro L act w i' hi1 hi2 M hpre hcl ⟨ρ,env1,hp1,hsr,hE1,hH1⟩
  obtain ⟨i,rfl⟩:∃i,i'=j+i:=⟨i'-j,by omega⟩
  have hiR:i<R.length:=by omega
  have D:R.reverse[i]? =some (R.reverse[i]'(by simpa using hiR)):=ω (by simpa using hiR)
  generalize R.reverse[i]'(by simpa using hiR)=rc at D
  obtain ⟨A,r,e1,e2,⟨o,ho,hsound⟩,hfk,_⟩:=hV.at D
  -- the order against others
  have S:∀{k ws},(RS R).reverse[k]? =some ws->∃B:Rc,R.reverse[k]? =some B/\B.ws=ws:=λ{k ws} u=>by
   rw[<-List.map_reverse,ν] at u
   cases hh:R.reverse[k]? with
   | none=>rw[hh] at u;cases u
   | some B=>rw[hh] at u;injection u with u;exact ⟨B,hh,u⟩
  have J:∀{k ws},(RF R).reverse[k]? =some ws->∃B:Rc,R.reverse[k]? =some B/\B.fs=ws:=λ{k ws} u=>by
   rw[<-List.map_reverse,ν] at u
   cases hh:R.reverse[k]? with
   | none=>rw[hh] at u;cases u
   | some B=>rw[hh] at u;injection u with u;exact ⟨B,hh,u⟩
  have X:∀{k B},R.reverse[k]? =some B->k<i->L (j+k)=false->i5 pre j i k rc B/\(j+k)∉gG pre (j+i):=λ{k B} u v c=>
   ⟨GX (G3 G D u v),λhm=>by rw[hpre _ hm] at c;cases c⟩
  have z:∀{k B},R.reverse[k]? =some B->i<k->L (j+k)=true->i5 pre j k i B rc/\(j+i)∉gG pre (j+k):=λ{k B} u v c=>
   ⟨GX (G3 G u D v),λhm=>by
    have hkR:=Lm u
    rw[hcl (j+k) (by omega) c _ hm] at M;cases M⟩
  have hR:RS R=(RS (A++ [rc]))++RS r/\RF R=(RF (A++ [rc]))++RF r:=by
   rw[e1];simp[RS,RF]
  have hsame:∀t∈rc.rd,GK (get s.env) (λk=>L (j+k)) (RS R) t=hU s r t:=λt ht=>by
   have V:GK (get s.env) (λk=>L (j+k)) (RS R) t=GK (get s.env) (λk=>decide (k<(RS r).length)) (RS R) t:=by
    refine Gq λk ws u I=>?_;obtain ⟨B,y,rfl⟩:=S u;have W:(RS r).length=i:=by simp[RS,e2]
    rw[W];rcases Nat.lt_trichotomy k i with v | U | T
    .rw[gi v]
     cases c:L (j+k) with
     | true=>rfl
     | false=>
      obtain ⟨O,N⟩:=X y v c;exact absurd (E2 (O.race N).1 ht) I
    .subst U;rw[gp (jz _)];exact M
    .rw[gp (by omega)]
     cases c:L (j+k) with
     | false=>rfl
     | true=>
      obtain ⟨O,N⟩:=z y T c;exact absurd (E2 (O.race N).2.2.1 ht) I
   rw[V,hR.1,OC];rfl
  have hsameF:∀f∈rc.nm,GK (fl s.hp) (λk=>L (j+k)) (RF R) f=hY s r f:=λf hf=>by
   have V:GK (fl s.hp) (λk=>L (j+k)) (RF R) f=GK (fl s.hp) (λk=>decide (k<(RF r).length)) (RF R) f:=by
    refine Gq λk ws u I=>?_;obtain ⟨B,y,rfl⟩:=J u;have W:(RF r).length=i:=by simp[RF,e2]
    rw[W];rcases Nat.lt_trichotomy k i with v | U | T
    .rw[gi v]
     cases c:L (j+k) with
     | true=>rfl
     | false=>
      obtain ⟨O,N⟩:=X y v c;exact absurd (E2 (O.race N).2.2.2.1 hf) I
    .subst U;rw[gp (jz _)];exact M
    .rw[gp (by omega)]
     cases c:L (j+k) with
     | false=>rfl
     | true=>
      obtain ⟨O,N⟩:=z y T c;exact absurd (E2 (O.race N).2.2.2.2 hf) I
   rw[V,hR.2,OC];rfl
  refine ⟨o,ho,VY (hps.nod _ _ ho)<| HY ?_ (hsound F ρ act w env1 hp1 hsr (λf=>by
   rw[hH1];rcases hZ (base:=fl s.hp) (L:=λk=>L (j+k)) (R:=RF R) (t:=f) with ⟨V,_⟩ | ⟨k,ws,u,c,I⟩
   .rw[V];exact hC f
   .obtain ⟨B,y,rfl⟩:=J u;obtain ⟨_,_,_,_,_,_,hc⟩:=hV.at y
    exact hc f _ I) (λt ht=>by rw[hE1,hsame t ht]) (λf hf=>by rw[hH1,hsameF f hf]) (λhe t a ha hl=>?_) (λhe f l hf hl=>?_))⟩
  .rintro act' w' ⟨Y,env',hp',E,hE',hH'⟩
   have hset:∀k,(λk=>if j+k=j+i then true else L (j+k)) k=if k=i then true else L (j+k):=λk=>by
    by_cases e:k=i
    .subst e;simp
    .have:¬(j+k=j+i):=by omega
     simp[e]
   refine ⟨Y,env',hp',E,λt=>?_,λf=>?_⟩
   .rw[hE',hE1];refine (OB (i:=i) (ws:=rc.ws) (by rw[<-List.map_reverse,ν,D];rfl) M hset λI k ws' u v c=>?_).symm;obtain ⟨B,y,rfl⟩:=S u;obtain ⟨O,N⟩:=z y v c;have:=E2 (t:=t) (O.race N).2.1
    cases hh:Bg B.ws t with
    | none=>rfl
    | some x=>exact absurd (this (UA (by rw[hh];simp))) I
   .rw[hH',hH1];refine (OB (i:=i) (ws:=rc.fs) (by rw[<-List.map_reverse,ν,D];rfl) M hset λI k ws' u v c=>?_).symm;obtain ⟨B,y,rfl⟩:=J u;obtain ⟨O,N⟩:=z y v c;exact E2 (O.race N).2.2.2.2 (hfk f I)
  .rw[hE1] at ha;rcases hZ (base:=get s.env) (L:=λk=>L (j+k)) (R:=RS R) (t:=t) with ⟨V,_⟩ | ⟨k,ws,u,c,I⟩
   .rw[V] at ha;exact ce (Mz G D he).1 ha (λh=>by cases h) hl
   .rw[ha] at I;obtain ⟨B,y,rfl⟩:=S u;rcases Nat.lt_trichotomy k i with v | U | T
    .exact Q9 ((GX (G3 G D y v)).late he).1 I hl
    .subst U;rw[M] at c;cases c
    .obtain ⟨O,N⟩:=z y T c;exact Q9 (O.early N he).1 I hl
  .rw[hH1] at hf;rcases hZ (base:=fl s.hp) (L:=λk=>L (j+k)) (R:=RF R) (t:=f) with ⟨V,_⟩ | ⟨k,ws,u,c,I⟩
   .rw[V] at hf;exact cd (Mz G D he).2 hf hl
   .rw[hf] at I;obtain ⟨B,y,rfl⟩:=J u;rcases Nat.lt_trichotomy k i with v | U | T
    .exact Qa ((GX (G3 G D y v)).late he).2 I hl
    .subst U;rw[M] at c;cases c
    .obtain ⟨O,N⟩:=z y T c;exact Qa (O.early N he).2 I hl
 .intro K act' w' hsz' hL' ⟨Y,env',hp',E,hE',hH'⟩
  have hall:∀{α:Type} (base:Nat->α) (R':List (List (Nat×α))) t,R'.length=R.length->GK base (λk=>Lf K (j+k)) R' t=GK base (λ_=>true) R' t:=λbase R' t W=>
   Gq λk ws u _=>by rw[hL',gi];have:=Lm u;omega
  have hHh:∀f i,ey hp' f i=ey hp f i:=λf i=>by
   simp only[ey,hH',hH,hall _ (RF R) f (by simp[RF])];rfl
  have hheap:B9 F hp Y w':=E.heap.less (λg i o' ho=>⟨o',by show ey hp' g i=some o';rw[hHh];exact ho,λ_ _ _ h=>h⟩) λg i o ho=>⟨o,by rw[<-hHh];exact ho,λt cs e=>⟨cs,e⟩⟩
  have hO:F.O Y hp'=F.O Y hp:=funext λb=>propext ⟨λh=>h.imp id λ⟨f,i,o,V,h2⟩=>⟨f,i,o,by rw[<-hHh];exact V,h2⟩,λh=>h.imp id λ⟨f,i,o,V,h2⟩=>⟨f,i,o,by rw[hHh];exact V,h2⟩⟩;refine h Y act' w' K ⟨E.size,hO▸E.defs,λt a ha=>?_,hheap⟩ hsz' hL';have V:=hE t a ha;have h2:=E.env t a (by show get env' t=some a;rw[hE',hall _ (RS R) t (by simp[RS])];exact V);rw[<-hO];exact h2
end
section
variable{P:Program}{F:Fr}{ops:Array Oper}{Q:Exit->AS->Prop}
def Dw(P:Program)(F:Fr)(ops:Array Oper)(pre:List (List Nat))(lo:Nat)(rest:List Oper)(Q:Exit->AS->Prop)(s:AS):Prop:=FX ops pre->(∀k:Nat,rest[k]? =ops[lo+k]?)->kV P F ops lo Q s
def Se(P:Program)(F:Fr)(ops:Array Oper)(pre:List (List Nat))(lo:Nat)(rest:List Oper)(Q:Exit->AS->Prop)(C:L5)(base:AS)(R:List Rc)(env:List (Nat×AV))(hp:Hp):Prop:=FX ops pre->(∀k:Nat,rest[k]? =ops[lo+R.length+k]?)->rY P F ops lo Q C base R env hp
theorem CK{id:Nat}{l:List Oper}{s:AS}(a:List (List Nat))(f:P.follows .mixedOrders=true)(b:Q3 l a a l 0=true)(h:Dw P F l.toArray a 0 l Q s)(c:l.all (λo=>!Op.isDefer o.op)=true:=by rfl):CD P F (.region id l.toArray true) Q s:=
 rN f (h (Vv (by simpa using b) (by simpa using c)) λk=>by simp)
variable{pre:List (List Nat)}{lo:Nat}{rest:List Oper}{s:AS}{o:Oper}
variable{a:List (Nat×AV)}{c:Hp}{f:Nat}
theorem Bz(h:Q .normal s):Dw P F ops pre lo [] Q s:=λt b f A w a g r y=>by
 have l:=b 0
 have v:ops.size<=lo:=by
  simp at l
  exact l
 have b:Region.ready .any ops a=[]:=by
  refine List.eq_nil_iff_forall_not_mem.2 λj x=>?_;obtain ⟨c,o,z,_⟩:=mem_ready.1 x;have u:j<ops.size:=(iq.1 z).1;have:=y j;rw[gi (by omega)] at this;unfold Lf at this;rw[ju,iW (by omega)] at c this
  simp at c this
  rw[this] at c;cases c
 cases cnt (Lf a) ops.size with
 | zero=>exact ⟨b,s,f,h,g⟩
 | succ n=>exact ⟨λ_=>⟨s,f,h,g⟩,λi k=>by rw[b] at k;cases k⟩
theorem Ab(x:Nat)(y:Nat.beq (lo+1) x=true)(G:U8 pre (lo+(rest.length+1)) lo x=true)(h:Ak P F ops [o] (λe b=>e= .normal/\Dw P F ops pre x rest Q b) s):Dw P F ops pre lo (o::rest) Q s:=λf l=>by
 have g:=iG y;subst g;have E:ops[lo]? =some o:=by have:=l 0;simpa using this.symm
 have v:ops.size=lo+(rest.length+1):=by
  have j:=l (rest.length+1);have i:=l rest.length;have B:(o::rest)[rest.length]?≠none:=by simp
  rw[i] at B;have I:lo+rest.length<ops.size:=Nat.lt_of_not_le λc=>B (Array.getElem?_eq_none c);have H:ops[lo+(rest.length+1)]? =none:=by rw[<-j];simp
  have:=Array.getElem?_eq_none_iff.1 H;omega
 refine qo f E (by rw[v];exact G) (λC A w D=>?_)
 have t:∀(e:Exit) b,(e= .normal/\Dw P F ops pre (lo+1) rest Q b)->(e= .normal/\kV P F ops (lo+1) Q b):=λe b ⟨j,i⟩=>⟨j,i f λk=>by
  have:=l (k+1);rw[List.getElem?_cons_succ] at this
  rw[this];congr 1;omega⟩
 have c:=h C A w D;unfold wpListIn at c⊢
 have z:∀e a w,Tu F (λe b=>e= .normal/\Dw P F ops pre (lo+1) rest Q b) e a w->Tu F (λe b=>e= .normal/\kV P F ops (lo+1) Q b) e a w:=λe a w ⟨b,r,j,i⟩=>⟨b,r,t e b j,i⟩
 split
 .rename_i u
  rw[ς u] at c;exact F9 (λa w h=>z _ _ _ h) (λe a w _ h=>z e a w h) c
 .rename_i u
  rw[κ u] at c;exact ⟨c.1,z _ _ _ c.2⟩
theorem By(h:Se P F ops pre lo rest Q C0 ⟨f,a,c⟩ [] a c):Dw P F ops pre lo rest Q ⟨f,a,c⟩:=λb g=>ed (λ_=>trivial) (h b g)
abbrev C2(f:Nat)(c1 c2:List AM):L5:=λg x=>g=f->x=some c1\/x=some c2
theorem Zr(b:Nat){j:List AM}(t:List AM)(r:fl c b=some j)(h:Se P F ops pre lo rest Q (C2 b j t) ⟨f,a,c⟩ [] a c):Dw P F ops pre lo rest Q ⟨f,a,c⟩:=λi k=>ed (λg l=>by subst l;exact .inl r) (h i k)
variable{C:L5}{base:AS}{R:List Rc}{env:List (Nat×AV)}{hp:Hp}
variable{a:List (Nat×AV)}{c:Array Edge}{f:Nat->Nat->Bool}{g:String}{h:TypeId}{i:Option Tmp}{j:AV}{k:Hp}{t:Op}{u:Nat}{w:Bool}{x:Rc}{y z A:Nat}
theorem vJ(g:Nat)(k:Nat.beq (lo+(x::R).length) g=true)(y:U8 pre (g+rest.length) lo g=true)(f:Iw pre lo base.env base.hp (x::R)=true)(h:Dw P F ops pre g rest Q ⟨base.n,env,hp⟩):Se P F ops pre lo rest Q C base (x::R) env hp:=λb j=>by
 have c:=iG k;subst c
 have a:ops.size<=lo+(x::R).length+rest.length:=by
  have G:=j rest.length;have D:ops[lo+(x::R).length+rest.length]? =none:=by rw[<-G];simp
  exact Array.getElem?_eq_none_iff.1 D
 intro B hV A z
 have w:lo+(x::R).length<=ops.size:=by
  obtain ⟨o,u,_⟩:=hV.2.1;have:=(iq.1 u).1;simp only[jj];omega
 have i:ops.size=lo+(x::R).length+rest.length:=by
  rcases hrl:rest with _ | ⟨o,r⟩
  .rw[hrl] at a;simp only[jO,ib] at a⊢;omega
  .have t:=j r.length;rw[hrl] at t a;have l:(o::r)[r.length]?≠none:=by simp
   rw[t] at l;have E:lo+(x::R).length+r.length<ops.size:=Nat.lt_of_not_le λv=>l (Array.getElem?_eq_none v);simp only[jj] at a E⊢;omega
 exact ee b (ic _) (by rw[i];exact y) f (h b j) B hV A z
theorem Aa(b:AA P F ⟨i,t,h,g,c,none⟩ s A j):JG P F ops ⟨i,t,h,g,c,none⟩ s A j:=by
 refine ⟨IW b.1,λu l w f=>?_⟩;unfold Gn;rw[ς (by simp[Region.wanted])];refine nZ ?_ (b.2.2 u l w f);rintro r D ⟨v,B,z,k,y,x⟩;exact ⟨v,B,z,⟨k.os.trans f.heap.os.symm,k.tape.trans f.heap.tape.symm,k.output.trans f.heap.output.symm,k.drawn⟩,y,x⟩
theorem Qo{f:Nat->Nat->Value}{b:Act}{a:World}(h:SR F s f b a)(i:(ops[z]?).bind (·.dst)=some y)(g:get s.env y=some (.d (.raw (.bool w)))):yielded ops b.tmps z=some w:=by
 have c:=h.env y _ g;unfold yielded;rw[i]
 cases c with
 | d c=>
  generalize k:b.tmps.getD y undef=v at c
  cases c with
  | raw _=>
   simp only[jb];rw[ju] at k
   grind[undef]
theorem Cq{b:Bool}(E:(ops[z]?).bind (·.dst)=some y)(D:get s.env y=some (.d (.raw (.bool w))))(G:w=b)(k:AA P F ⟨i,t,h,g,c,some (z,b)⟩ s A j):JG P F ops ⟨i,t,h,g,c,some (z,b)⟩ s A j:=by
 refine ⟨IW k.1,λB u f l=>?_⟩;unfold Gn;rw[ς (by simp[Region.wanted,Qo l E D,G])];refine nZ ?_ (k.2.2 B u f l);rintro x L ⟨v,K,J,r,I,H⟩;exact ⟨v,K,J,⟨r.os.trans l.heap.os.symm,r.tape.trans l.heap.tape.symm,r.output.trans l.heap.output.symm,r.drawn⟩,I,H⟩
theorem EJ{b:Bool}(k:(ops[z]?).bind (·.dst)=some y)(i:get s.env y=some (.d (.raw (.bool w))))(r:w=!b)(l:Nat.blt u s.n=true):JG P F ops ⟨some u,t,h,g,c,some (z,b)⟩ s u (.d (.tup [])):=by
 refine ⟨IW l,λx v a f=>?_⟩;unfold Gn;rw[κ (by cases b<;>simp[Region.wanted,Qo f k i,r])];exact ⟨_,Z,Lo,⟨Z,Z,Z,f.heap.drawn⟩,Γ _,λ_ _=>rfl⟩
theorem F7{b:AS}(a:AG P F ⟨i,t,h,g,c,none⟩ s b f):fu P F ops ⟨i,t,h,g,c,none⟩ s b f:=by grind[Gn,Region.wanted,nZ,oo,AG,fu]
theorem MB{lo:Nat}{R:List Rc}{rc:Rc}(a:∀k:Nat,(o::rest)[k]? =ops[lo+R.length+k]?):ops[lo+R.length]? =some o/\∀k:Nat,rest[k]? =ops[lo+(rc::R).length+k]?:=by
 refine ⟨by have:=a 0;simpa using this.symm,λk=>?_⟩;have:=a (k+1)
 grind
def iA(rd nm:List Nat)(d:Nat)(a:AV):Rc:=⟨rd,[(d,some a)],nm,[],false,λ_ _=>true⟩
theorem Aq(rd b:List Nat)(B:pick env rd=some a)(D:Ba hp b=some k)(h:∀F,JG P F ops o ⟨base.n,a,k⟩ u j)(H:Se P F ops pre lo rest Q C base (iA rd b u j::R) ((u,j)::env) hp):Se P F ops pre lo (o::rest) Q C base R env hp:=λr z I hV y w=>by
 obtain ⟨A,i⟩:=MB (rc:=iA rd b u j) z;refine H r i I ⟨hV,⟨o,A,JE.pure B D y w h⟩,λf E=>absurd Z E,λf c G=>by cases G⟩ (λt x g=>?_) λf=>?_
 .show GK _ _ (RS (iA rd b u j::R)) t=_;simp only[RS,ie,GK,iA,Bg];rcases Mc g with ⟨rfl,rfl⟩ | ⟨v,g⟩
  .simp
  .rw[IU v];exact y t x g
 .show _=GK _ _ (RF (iA rd b u j::R)) f;simp only[RF,ie,GK,iA,Bg];exact w f
theorem J1(rd b:List Nat){f:Nat}{y w:List AM}(E:pick env rd=some a)(G:Ba hp b=some k)(v:gA f b=false)(L:∀F,JG P F ops o ⟨base.n,a,(f,y)::k⟩ u j)(K:∀F,JG P F ops o ⟨base.n,a,(f,w)::k⟩ u j)(I:Se P F ops pre lo rest Q (C2 f y w) base (iA rd b u j::R) ((u,j)::env) hp):Se P F ops pre lo (o::rest) Q (C2 f y w) base R env hp:=λi B J hV A z=>by
 obtain ⟨D,h⟩:=MB (rc:=iA rd b u j) B;refine I i h J ⟨hV,⟨o,D,JE.pure2 E G v A z (λx g=>g Z) L K⟩,λf v=>absurd Z v,λf c H=>by cases H⟩ (λt x g=>?_) λf=>?_
 .show GK _ _ (RS (iA rd b u j::R)) t=_;simp only[RS,ie,GK,iA,Bg];rcases Mc g with ⟨rfl,rfl⟩ | ⟨r,g⟩
  .simp
  .rw[IU r];exact A t x g
 .show _=GK _ _ (RF (iA rd b u j::R)) f;simp only[RF,ie,GK,iA,Bg];exact z f
theorem Ao(rd:List Nat)(b:pick env rd=some a)(c:Ba hp (iZ base.hp)=some k)(h:∀F,JG P F ops o ⟨base.n,a,k⟩ u j)(f:Se P F ops pre lo rest Q C base (iA rd (iZ base.hp) u j::R) ((u,j)::env) hp):Se P F ops pre lo (o::rest) Q C base R env hp:=Aq rd _ b c h f
def jV(rd nm:List Nat)(dv:List (Nat×AV))(p:Nat->Nat->Bool)(env:List (Nat×AV))(hs':Hp)(xs:List Nat):Rc:=⟨rd,Y0 (hJ dv nm p env xs),nm,Ps hs' nm,true,O3 nm p⟩
theorem qu(M:List Nat)(rd z:List Nat)(I:List (Nat×AV)){l' H:List (Nat×AV)}{u E N:Hp}(hl:pick env rd=some a)(hh:Ba hp z=some k)(h:∀F,fu P F ops o ⟨base.n,a,k⟩ ⟨base.n,l',u⟩ f)(V:(I=[]/\o.dst=none)\/∃d j,I=[(d,j)]/\o.dst=some d/\Nat.blt d base.n=true/\get l' d=some j/\j.ok (Jb z)=true)(n1:A5 z u=true)(n2:Fv z u=true)(X:Bt (O3 z f) env=some H)(w:C5 z hp=some E)(K:some (u++E)=some N)(hK:Se P F ops pre lo rest Q C base (jV rd z I f env u M::R) (I++H) N)(Y:∀i c,Bg (Ps u z) i=some c->C i c:=by intro _ _ _;trivial):Se P F ops pre lo (o::rest) Q C base R env hp:=λT hr hC hV O W=>by
 injection K with K
 subst K;obtain ⟨ho,D⟩:=MB (rc:=jV rd z I f env u M) hr
 have A:∀i,fl E i=if i∈z then none else fl hp i:=by
  clear hK W O hr D hh
  intro i
  induction hp generalizing E with
  | nil=>simp only[C5,Option.some.injEq] at w;subst w;simp[fl]
  | cons q r ih=>
   obtain ⟨g,x⟩:=q;simp only[C5] at w
   split at w
   .cases w
   .rename_i r' D
    have J:=ih D
    split at w<;>(injection w with w;subst w)
    .rename_i B
     by_cases e:g=i
     .subst e;rw[J,ς (G5.1 B),ς (G5.1 B)]
     .simp only[fl,IU e];exact J
    .rename_i B
     by_cases e:g=i
     .subst e;have:g∉z:=λh=>by rw[G5.2 h] at B;cases B
      simp[fl,this]
     .simp only[fl,IU e];exact J
 refine hK T D hC ⟨hV,⟨o,ho,JE.eff hl hh O W h V n1 n2⟩,λi U=>?_,Y⟩ (λt x v=>?_) λi=>?_
 .have L:Bg (Ps u z) i≠none:=U;rw[JR] at L
  by_cases B:i∈z
  .exact B
  .rw[κ B] at L;exact absurd Z L
 .show GK _ _ (RS (jV rd z I f env u M::R)) t=_;simp only[RS,ie,GK,jV];rw[L7,hJ,JW];rw[JW] at v
  cases hd:get I t with
  | some y=>rw[hd] at v;simp at v;subst v;simp
  | none=>
   rw[hd] at v;simp only[Option.none_or] at v⊢;rw[WL X] at v;rw[Ku];have B:gA t []=false:=rfl;rw[B]
   cases hg:get env t with
   | none=>rw[hg] at v;cases v
   | some b=>
    rw[hg] at v;simp only[ij,Option.some.injEq] at v
    by_cases G:b= .top
    .subst G
     have S:x= .top:=by
      cases hq:AV.top.ok (O3 z f)<;>(rw[hq] at v;exact v.symm)
     subst S
     cases hm2:gA t M with
     | true=>
      simp only[AV.okK,Bool.not_true,ij,Option.getD_some]
     | false=>
      simp only[AV.okK,Bool.not_false,jv,Option.getD_none];exact O t _ hg
    simp only[AV.okK_eq G]
    cases hb:b.ok (O3 z f) with
    | true=>
     rw[hb] at v;simp only at v;subst v;simp only[jv,Option.getD_none];exact O t b hg
    | false=>
     rw[hb] at v;simp only at v;subst v;simp only[ij,Option.getD_some]
 .show _=GK _ _ (RF (jV rd z I f env u M::R)) i;simp only[RF,ie,GK,jV];rw[UO n1 i (λU=>by rw[A,ς U]),JR,A]
  split
  .simp
  .simp only[Option.getD_none];exact W i
theorem F6(rd j:List Nat)(v:List (Nat×AV)){A r:List (Nat×AV)}{i t u:Hp}(E:pick env rd=some a)(G:Ba hp j=some k)(h:∀F,fu P F ops o ⟨base.n,a,k⟩ ⟨base.n,A,i⟩ f)(y:(v=[]/\o.dst=none)\/∃d g,v=[(d,g)]/\o.dst=some d/\Nat.blt d base.n=true/\get A d=some g/\g.ok (Jb j)=true)(D:A5 j i=true)(B:Fv j i=true)(z:Bt (O3 j f) env=some r)(w:C5 j hp=some t)(x:some (i++t)=some u)(H:Se P F ops pre lo rest Q C base (jV rd j v f env i []::R) (v++r) u)(hCn:∀b c,Bg (Ps i j) b=some c->C b c:=by intro _ _ _;trivial):Se P F ops pre lo (o::rest) Q C base R env hp:=qu [] rd j v E G h y D B z w x H hCn
theorem Bu(c:Nat){n:Nat}{a:List (Nat×AV)}{b:Hp}(g:Nat.beq (lo+(x::R).length) c=true)(i:U8 pre (c+rest.length) lo c=true)(f:Iw pre lo a b (x::R)=true)(h:Dw P F ops pre c rest Q ⟨n,env,hp⟩):Se P F ops pre lo rest Q C ⟨n,a,b⟩ (x::R) env hp:=vJ c g i f h
end
abbrev rg(n:Nat):List Nat:=List.range n
section
variable{P:Program}{ops:Array Oper}{Q:Exit->AS->Prop}{F:Fr}{pre:List (List Nat)}{lo:Nat}{rest:List Oper}{C:L5}{base:AS}{R:List Rc}{env:List (Nat×AV)}{hp:Hp}
variable{a:Array Edge}{c:String}{f:TypeId}{g:Nat}{h:AV}
theorem AR(rd:List Nat){l:List (Nat×AV)}{j:Option Tmp}{i:Op}(k:pick env rd=some l)(b:∀{F},AA P F ⟨j,i,f,c,a,none⟩ ⟨base.n,l,[]⟩ g h)(o:Se P F ops pre lo rest Q C base (iA rd [] g h::R) ((g,h)::env) hp):
  Se P F ops pre lo (⟨j,i,f,c,a,none⟩::rest) Q C base R env hp:=Aq rd [] k Z (λ_=>Aa b) o
theorem Ap(t:Nat)(b:get env t=some h)(i:Nat.blt g base.n=true)(j:Se P F ops pre lo rest Q C base (iA [t] [] g h::R) ((g,h)::env) hp):
  Se P F ops pre lo (⟨some g,.move (.tmp t),f,c,a,none⟩::rest) Q C base R env hp:=
 AR [t] (l:=[(t,h)]) (by simp[pick,b]) (Pe (by simp[AS.ev,get]) i) j
end
theorem CD.code{P:Program}{F:Fr}{Q:Exit->AS->Prop}{s:AS}{c a:Code}(e:c=a)(h:CD P F a Q s):CD P F c Q s:=e▸h
end Go.Proofs.YteifpcnphnhaoaaGreat
