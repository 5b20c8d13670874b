import Derived.Test.YteifpcnphnhaoaaGreatMg5
import Derived.Orders
namespace Go.Proofs.YteifpcnphnhaoaaGreat
open Go.RowKit
variable {a:Nat ->Nat ->Bool} {c:Type} {f:List (Nat×AV)} {t:Nat} {R:List (List (Nat×c))} {g:List (Nat×Option (List AI))} {h:Nat ->c} {i:List (List Nat)} {j:Type} {k:List (Nat×Option AV)} {o:Hp} {s:List (Nat×c)} {u:List j} {w:List AI} {K:Act ->World ->Prop} {x:Nat} {y:World} {z A:Nat} {P:Program} {C F:j} {G:Nat} {H:Oper} {I:Nat ->Bool} {L:Act} {M:AI} {N:AV} {S:Nat}
def BW {α:Type}:List (Nat×α) ->Nat ->Option α
 | [],_=>none
 | (k,a)::r,t=>match Nat.beq k t with
  | true=>some a
  | false=>BW r t
def FR {α:Type} (base:Nat ->α) (L:Nat ->Bool):List (List (Nat×α)) ->Nat ->α
 | [],t=>base t
 | ws::r,t=>match L r.length with
  | true=>(BW ws t).getD (FR base L r t)
  | false=>FR base L r t
theorem Hb (h:u.reverse[z]? =some C):(F::u).reverse[z]? =some C:=by grind
theorem L0:(F::u).reverse[u.length]? =some F:=by simp
theorem fM (h:(F::u).reverse[z]? =some C):u.reverse[z]? =some C\/(z=u.length/\C=F):=by grind
theorem Kb {r:List j} (h:r.reverse[z]? =some C):z<r.length:=by grind
theorem Fw {L:Nat ->Bool} (a:∀k b,R.reverse[k]? =some b ->BW b t≠none ->L k=I k):FR h L R t=FR h I R t:=by
 induction R with
 | nil=>rfl
 | cons b r g=>
  have f:=g λk b j i=>a k b (Hb j) i;simp only [FR]
  grind
theorem Mb {A a:List (List (Nat×c))}:FR h (λk=>decide (k<a.length)) (A++a) t=FR h (λ_=>true) a t:=by
 induction A with
 | nil=>exact Fw λk f b _=>by have:=Kb (r:=a) b;simp [this]
 | cons x r g=>
  grind [FR]
theorem fo {base:Nat ->c} {L:Nat ->Bool} {R:List (List (Nat×c))} {t:Nat}:(FR base L R t=base t/\∀k b,R.reverse[k]? =some b ->BW b t≠none ->L k=false)\/∃k b,R.reverse[k]? =some b/\L k=true/\BW b t=some (FR base L R t):=by
 induction R with
 | nil=>exact .inl ⟨Z,λk b h=>by simp at h⟩
 | cons b r o=>
  cases hL:L r.length with
  | false=>
   grind [FR]
  | true=>
   cases hw:BW b t with
   | some a=>
    have e:FR base L (b::r) t=a:=by simp only [FR,hL,hw,Option.getD_some]
    exact .inr ⟨r.length,b,L0,hL,by rw [e];exact hw⟩
   | none=>
    have e:FR base L (b::r) t=FR base L r t:=by simp only [FR,hL,hw,Option.getD_none]
    rw [e];rcases o with ⟨j,i⟩ | ⟨k,f,j,i,s⟩
    .refine .inl ⟨j,λk f g l=>?_⟩;rcases fM g with g | ⟨rfl,rfl⟩
     .exact i k f g l
     .exact absurd hw l
    .exact .inr ⟨k,f,Hb j,i,s⟩
theorem Ma {L:Nat ->Bool} {i:Nat} {ws:List (Nat×c)} (v:R.reverse[i]? =some ws) (y:L i=false) (l:∀k,I k=if k=i then true else L k)
  (g:BW ws t≠none ->∀k f,R.reverse[k]? =some f ->i<k ->L k=true ->BW f t=none):FR h I R t=(BW ws t).getD (FR h L R t):=by
 induction R with
 | nil=>simp at v
 | cons x r w=>
  rcases fM v with j | ⟨rfl,rfl⟩
  .have s:r.length≠i:=by have:=Kb j;omega
   have b:=w j λo k f u=>g o k f (Hb u);simp only [FR,l,θ s]
   cases hLr:L r.length with
   | false=>exact b
   | true=>
    cases o:BW ws t with
    | none=>rw [o] at b;simp only [Option.getD_none] at b⊢;rw [b]
    | some a=>
     rw [g (by rw [o];simp) r.length x L0 (Kb j) hLr];rw [o] at b
     simpa using b
  .simp only [FR,l,if_true,y]
   congr 1
   refine Fw λk f u _=>?_;rw [l,θ (by have:=Kb u;omega)]
structure Rc where
 rd:List Nat
 ws:List (Nat×Option AV)
 nm:List Nat
 fs:List (Nat×Option (List AI))
 eff:Bool
 ok:Nat ->Nat ->Bool
def GS {α:Type} (ws:List (Nat×α)):List Nat ->Bool
 | []=>true
 | t::r=>(match BW ws t with
  | none=>true
  | some _=>false) && GS ws r
theorem Dr {l:List Nat} (h:GS s l=true) {t:Nat} (b:t∈l):BW s t=none:=by
 induction l with
 | nil=>cases b
 | cons a r f=>
  grind [GS]
def N6 {α:Type}:List (Nat×α) ->List Nat
 | []=> []
 | (k,_)::r=>k::N6 r
theorem Sr (h:BW s t≠none):t∈N6 s:=by
 induction s with
 | nil=>exact absurd Z h
 | cons p r a=>
  grind [BW,fx,N6]
def u0 (p:Nat ->Nat ->Bool):AI ->Bool
 | .blk _ cs=>qk p cs
 | .row _ _ xs=>xs.all λx=>YP p x.cells
 | .rowD _ _ _=>true
 | .loop L=>L4 p L.env
 | .map _ _=>true
 | .iter f i _ _=>p f i
 | .addr f i _=>p f i
 | .any=>true
 | .nb _ _ _=>true
 | .nr _ _ _ _ _=>true
 | .nm _ _ _=>true
 | .itz=>true
 | .multi _=>true
def S5 (p:Nat ->Nat ->Bool):List AI ->Bool
 | []=>true
 | o::r=>u0 p o && S5 p r
theorem bU (h:u0 a M=true) (g:M.Refs G A):a G A=true:=by
 cases M with
 | blk t B=>obtain ⟨c,j,g⟩:=g;exact NK h j g
 | row t k s=>obtain ⟨x,v,c,j,g⟩:=g;exact FE (iZ.1 h x v) j g
 | rowD t k s=>exact g.elim
 | loop L=>obtain ⟨t,b,w,g⟩:=g;exact NJ h w g
 | map _ z=>exact g.elim
 | iter y u _ _=>obtain ⟨r,l⟩:=g;subst r l;exact h
 | addr y u _=>obtain ⟨r,l⟩:=g;subst r l;exact h
 | any=>exact g.elim
 | nb _ _ _=>exact g.elim
 | nr _ _ _ _ _=>exact g.elim
 | nm _ _ _=>exact g.elim
 | itz=>exact g.elim
 | multi _=>exact g.elim
theorem YO (h:S5 a w=true) (c:M∈w) (j:M.Refs G A):a G A=true:=by
 induction w with
 | nil=>cases c
 | cons b r g=>
  grind [S5,bU]
def VE (p:Nat ->Nat ->Bool) (ex:List (Nat×Option AV)):List (Nat×Option AV) ->Bool
 | []=>true
 | (t,a)::r=>(match BW ex t with
  | some _=>true
  | none=>match a with
   | none=>true
   | some a=>a.ok p) && VE p ex r
theorem P3 {f:List (Nat×Option AV)} (h:VE a k f=true) (g:BW f t=some (some N)) (j:BW k t=none):N.ok a=true:=by
 induction f with
 | nil=>cases g
 | cons q r i=>
  obtain ⟨c,b⟩:=q;simp only [VE,fV] at h
  grind [BW,fx]
def VF (p:Nat ->Nat ->Bool) (ex:List (Nat×Option (List AI))):List (Nat×Option (List AI)) ->Bool
 | []=>true
 | (t,a)::r=>(match BW ex t with
  | some _=>true
  | none=>match a with
   | none=>true
   | some l=>S5 p l) && VF p ex r
theorem P4 {c:List (Nat×Option (List AI))} (h:VF a g c=true) (f:BW c t=some (some w)) (j:BW g t=none):S5 a w=true:=by
 induction c with
 | nil=>cases f
 | cons q r i=>
  obtain ⟨k,b⟩:=q;simp only [VF,fV] at h
  grind [BW,fx]
def sM (p:Nat ->Nat ->Bool) (ex:List (Nat×Option AV)):List Nat ->List (Nat×AV) ->Bool
 | _,[]=>true
 | ks,(t,a)::r=>(match ed t ks with
  | true=>true
  | false=>match BW ex t with
   | some _=>true
   | none=>a.ok p) && sM p ex (t::ks) r
theorem bW {g:List Nat} (h:sM a k g f=true) (i:get f t=some N) (l:t∉g) (s:BW k t=none):N.ok a=true:=by
 induction f generalizing g with
 | nil=>cases i
 | cons q r o=>
  obtain ⟨c,b⟩:=q;simp only [sM,fV] at h;rcases LR i with ⟨rfl,rfl⟩ | ⟨j,i⟩
  .have:ed c g=false:=by
    cases hm:ed c g with
    | false=>rfl
    | true=>exact absurd (Fd.1 hm) l
   grind
  grind
def sL (p:Nat ->Nat ->Bool) (ex:List (Nat×Option (List AI))):Hp ->Bool
 | []=>true
 | (f,l)::r=>(match BW ex f with
  | some _=>true
  | none=>S5 p l) && sL p ex r
theorem bV (h:sL a g o=true) (b:eQ o G=some w) (i:BW g G=none):S5 a w=true:=by
 induction o with
 | nil=>cases b
 | cons q r c=>
  grind [sL,eQ,fx]
def NB (ord:Bool) (rj ri:Rc):Bool:=
 (ord || (GS rj.ws ri.rd &&(GS rj.ws (N6 ri.ws) &&(GS ri.ws rj.rd &&(GS rj.fs ri.nm && GS ri.fs rj.nm))))) &&
 ((!ri.eff || (VE ri.ok ri.ws rj.ws && VF ri.ok ri.fs rj.fs)) &&(ord || (!rj.eff || (VE rj.ok rj.ws ri.ws && VF rj.ok rj.fs ri.fs))))
def eu:List (List Nat) ->Nat ->List Nat
 | [],_=> []
 | l::_,0=>l
 | _::r,i+1=>eu r i
def MS (pr:List Nat) (lo:Nat) (ri:Rc):List Rc ->Bool
 | []=>true
 | rj::r=>NB (ed (lo+r.length) pr) rj ri && MS pr lo ri r
def Hu (pre:List (List Nat)) (lo:Nat) (env:List (Nat×AV)) (hp:Hp):List Rc ->Bool
 | []=>true
 | ri::r=>MS (eu pre (lo+r.length)) lo ri r &&((!ri.eff || (sM ri.ok ri.ws [] env && sL ri.ok ri.fs hp)) && Hu pre lo env hp r)
variable {E Q:Rc}
theorem RN {b:List Nat} {r:List Rc} (h:MS b x E r=true) (c:r.reverse[S]? =some Q):NB (ed (x+S) b) Q E=true:=by
 induction r with
 | nil=>simp at c
 | cons a r f=>
  grind [MS]
variable {B:List Rc}
theorem Fa (h:Hu i x f o B=true) (c:B.reverse[A]? =some E) (k:B.reverse[S]? =some Q) (b:S<A):NB (ed (x+S) (eu i (x+A))) Q E=true:=by
 induction B with
 | nil=>simp at c
 | cons a r g=>
  grind [Hu,fM,RN]
theorem Ld (h:Hu i x f o B=true) (b:B.reverse[A]? =some E) (g:E.eff=true):sM E.ok E.ws [] f=true/\sL E.ok E.fs o=true:=by
 induction B with
 | nil=>simp at b
 | cons a r c=>
  grind [Hu]
def PX (ops:List Oper) (pre:List (List Nat)):List (List Nat) ->List Oper ->Nat ->Bool
 | [],[],_=>true
 | l::ls,o::os,i=>(l.all λx=>o.after.toList.any λe=>Region.binds .any e &&(Nat.beq e.on x || ed x (eu pre e.on))) &&((o.after.toList.all λe=>!Region.binds .any e || Nat.blt e.on i) && PX ops pre ls os (i+1))
 | _,_,_=>false
def HF (P:Program) (ops:Array Oper) (o:Oper) (K:Act ->World ->Prop) (a:Act) (w:World):Prop:=
 if Region.wanted o (yielded ops a.tmps) then o.wp P a w K (λ_ _ _=>False) else K (a.put o.dst undef) w
theorem GZ {b:Array Oper} {c:Act ->World ->Prop} (f:∀L y,K L y ->c L y) (h:HF P b H K L y):HF P b H c L y:=by grind [HF,mK]
theorem n8 (h:H.wp P L y K (λ_ _ _=>False)):H.wp P L y (λc g=>K c g/\∃v,c.tmps=(L.put H.dst v).tmps) (λ_ _ _=>False):=by
 unfold Oper.wp at h⊢
 generalize (execOp L.eval H).run P y=r at h
 cases r with
 | ok x y=>
  cases x with
  | value v=>exact ⟨h,v,Z⟩
  | skip=>exact ⟨h,_,Z⟩
  | defer d=>
   refine ⟨h,undef,?_⟩
   cases H.dst<;>rfl
  | enter f b=>
   grind [Oper.upon_enter]
  | row r b=>
   grind [Oper.upon_row]
  | _=>exact h.elim
 | halt x y=>
  cases x<;>exact h.elim
abbrev KU:=Nat ->Option (List AI) ->Prop
abbrev C0:KU:=λ_ _=>True
def IC (P:Program) (ops:Array Oper) (n:Nat) (o:Oper) (rc:Rc) (C:KU) (fl:Nat ->Option AV) (fm:Nat ->Option (List AI)):Prop:=
 ∀F ρ act w env hp,SR F ⟨n,env,hp⟩ ρ act w ->(∀f,C f (eQ hp f)) ->(∀t∈rc.rd,get env t=fl t) ->(∀f∈rc.nm,eQ hp f=fm f)→
  (rc.eff=true ->∀t a,get env t=some a ->BW rc.ws t=none ->a.ok rc.ok=true) ->(rc.eff=true ->∀f l,eQ hp f=some l ->BW rc.fs f=none ->S5 rc.ok l=true)→
  HF P ops o (λact' w'=>∃ρ' env' hp',SR F ⟨n,env',hp'⟩ ρ' act' w'/\(∀t,get env' t=(BW rc.ws t).getD (get env t))/\∀f,eQ hp' f=(BW rc.fs f).getD (eQ hp f)) act w
def Ik (P:Program) (F:Fr) (ops:Array Oper) (o:Oper) (s:AS) (d:Nat) (a:AV):Prop:=d<s.n/\∀ρ act w,SR F s ρ act w→
 HF P ops o (λact' w'=>∃v,act'=act.put (some d) v/\AR w' (F.O ρ s.hp) ρ a v/\(w'.os=w.os/\w'.tape=w.tape/\w'.output=w.output/\F.w0.drawn<=w'.drawn)/\w.heap.size<=w'.heap.size/\∀b,b<w.heap.size ->w'.heap[b]? =w.heap[b]?) act w
def eL (P:Program) (F:Fr) (ops:Array Oper) (o:Oper) (s s':AS) (p:Nat ->Nat ->Bool):Prop:=∀ρ act w,SR F s ρ act w→
 HF P ops o (λact' w'=>∃ρ',SR F s' ρ' act' w'/\(∃v,act'.tmps=(act.put o.dst v).tmps)/\∀f i,p f i=true ->ρ' f i=ρ f i) act w
theorem BP.stay {F:Fr} {r:Nat ->Nat ->Value} {g:World} (h:BP F o r y) (j:g.os=y.os/\g.tape=y.tape/\g.output=y.output/\F.w0.drawn<=g.drawn) (l:y.heap.size<=g.heap.size) (k:∀b,b<y.heap.size ->g.heap[b]? =y.heap[b]?):BP F o r g:=by
 refine ⟨λf i a j=>?_,h.inj,λb k=>⟨hU (h.mine b k).1 l,(h.mine b k).2⟩,j.1.trans h.os,j.2.1.trans h.tape,j.2.2.1.trans h.output,fO h.size0 l,λb c t=>?_,h.pins,j.2.2.2⟩
 .exact (h.sim f i a j).mono l (λb c _=>k b c) (λ_ _ h=>h) (λb s=>k b (h.mine b ⟨f,i,a,j,s⟩).1) λ_ _ _=>rfl
 .rw [k b (hU c h.size0)];exact h.keep b c t
theorem Ip {b:Hp} {c:List Nat} (h:BQ o c=some b):AP c b=true/\∀g,g∈c ->eQ b g=eQ o g:=by
 have i:∀(c:List Nat) (b:Hp),BQ o c=some b ->(∀g l,(g,l)∈b ->g∈c)/\∀g,g∈c ->eQ b g=eQ o g:=by
  intro c
  induction c with
  | nil=>intro b h;simp only [BQ,Option.some.injEq] at h;subst h;exact ⟨(λg l h=>by cases h),(λg h=>by cases h)⟩
  | cons a r j=>
   intro b h;simp only [BQ] at h
   split at h
   .cases h
   .rename_i l v
    obtain ⟨s,t⟩:=j l v
    split at h
    .rename_i u
     injection h with h;subst h
     refine ⟨λg x f=>gG _ (s g x f),λg f=>?_⟩;rcases fP.1 f with rfl | f
     .by_cases w:g∈r
      .grind
      .rw [u]
       cases hh:eQ l g with
       | none=>rfl
       | some x=>
        have:∀(l:Hp) x,eQ l g=some x ->∃y,(g,y)∈l:=by
         intro l
         induction l with
         | nil=>intro x h;cases h
         | cons p q j=>
          grind [eQ,fx]
        grind
     grind
    grind [eQ,fx,iB]
 obtain ⟨s,t⟩:=i c b h;refine ⟨?_,t⟩
 clear h t i
 induction b with
 | nil=>rfl
 | cons p r j=>
  obtain ⟨k,l⟩:=p;simp only [AP,fV];exact ⟨Fd.2 (s k l fu),j λg l f=>s g l (gG _ f)⟩
theorem Ek {hp CH:Hp} {nm:List Nat} (h:∀g,g∈nm ->eQ hp g=eQ CH g):Bp hp CH nm:=by
 induction nm with
 | nil=>trivial
 | cons a r b=>exact ⟨h a fu,b λg c=>h g (gG _ c)⟩
theorem NA {b:List (Nat×AV)} {rd:List Nat} {l:List (Nat×AV)} (c:pick b rd=some l):∀t a,get l t=some a ->t∈rd/\get b t=some a:=by
 induction rd generalizing l with
 | nil=>intro t a f;simp only [pick,Option.some.injEq] at c;subst c;cases f
 | cons x r g=>
  intro t a f;simp only [pick] at c
  grind [LR,get]
section
variable {P:Program} {ops:Array Oper} {n:Nat} {o:Oper}
variable {a:List Nat} {c f:Nat ->Nat ->Bool} {g i:List (Nat×AV)} {C:KU} {j:AV} {k s t:Hp} {u w:Nat}
theorem IC.pure {rd J:List Nat} {l i:List (Nat×AV)} {u y:Hp} {d:Nat} {a:AV} {fl:Nat ->Option AV} {fm:Nat ->Option (List AI)} (T:pick i rd=some l) (U:BQ y J=some u)
  (V:∀t a,get i t=some a ->fl t=some a) (W:∀f,eQ y f=fm f) {C:KU} (h:∀F,Ik P F ops o ⟨n,l,u⟩ d a):IC P ops n o ⟨rd,[(d,some a)],J,[],false,λ_ _=>true⟩ C fl fm:=by
 intro F r B w k E c _ Y X _ _;obtain ⟨S,R⟩:=Ip U;obtain ⟨A,Q,I⟩:=Ej F.lo c.heap J (Ek λg N=>by rw [X g N,<-W,R g N]) S;have z:=NA T
 have L:SR (B5 F F.lo E u r w A) ⟨n,l,u⟩ r B w:=by
  refine ⟨c.size,I▸c.defs,λt x K=>?_,Q⟩;obtain ⟨e1,e2⟩:=z t x K;rw [I];exact c.env t x (by show get k t=some x;rw [Y t e1];exact V t x e2)
 obtain ⟨g0,Z⟩:=h (B5 F F.lo E u r w A);refine GZ ?_ (Z r B w L);rintro O w' ⟨v,rfl,M,D,H,G⟩;refine ⟨r,(d,a)::k,E,SR.put (s:=⟨n,k,E⟩) ⟨c.size,c.defs.mono H (λb j _=>G b j) (λ_ _ h=>h),λt x K=>(c.env t x K).mono H (λb j _=>G b j) (λ_ _ h=>h) (λ_ _ _=>rfl),c.heap.stay ⟨D.1,D.2.1,D.2.2.1,fO c.heap.drawn D.2.2.2⟩ H G⟩ g0 (by rw [I] at M;exact M),λt=>?_,λf=>rfl⟩;simp only [BW,get]
 grind
theorem IC.pure2 {rd j:List Nat} {l y:List (Nat×AV)} {k I:Hp} {d f:Nat} {c1 c2:List AI} {a:AV} {fl:Nat ->Option AV} {fm:Nat ->Option (List AI)} (hl:pick y rd=some l) (hh:BQ I j=some k) (hf:ed f j=false)
  (hS:∀t a,get y t=some a ->fl t=some a) (hF:∀f,eQ I f=fm f) {C:KU} (hC:∀x,C f x ->x=some c1\/x=some c2) (h1:∀F,Ik P F ops o ⟨n,l,(f,c1)::k⟩ d a) (h2:∀F,Ik P F ops o ⟨n,l,(f,c2)::k⟩ d a):IC P ops n o ⟨rd,[(d,some a)],j,[],false,λ_ _=>true⟩ C fl fm:=by
 intro F G E w u B i hCf g1 g2 g3 g4;obtain ⟨p1,p2⟩:=Ip hh;have hfn:f∉j:=λhm=>by rw [Fd.2 hm] at hf;cases hf
 have S:∀c,eQ B f=some c ->(∀F,Ik P F ops o ⟨n,l,(f,c)::k⟩ d a) ->HF P ops o (λA X=>∃N z J,SR F ⟨n,z,J⟩ N A X/\(∀t,get z t=(BW [(d,some a)] t).getD (get u t))/\∀f,eQ J f=(BW ([]:List (Nat×Option (List AI))) f).getD (eQ B f)) E w:=λc hc h=>by
  have W:Bp B ((f,c)::k) (f::j):=Ek λg Z=>by
   rcases fP.1 Z with rfl | Z
   .simp [eQ,hc]
   grind [eQ,HV]
  have V:AP (f::j) ((f,c)::k)=true:=by
   simp only [AP,fV];refine ⟨Fd.2 fu,?_⟩
   have S:∀(H:Hp),AP j H=true ->AP (f::j) H=true:=by
    intro H
    induction H with
    | nil=>intro _;rfl
    | cons p r ih=>
     grind [AP,ed]
   grind
  obtain ⟨L,q1,R⟩:=Ej F.lo i.heap (f::j) W V;have K:=NA hl
  have U:SR (B5 F F.lo B ((f,c)::k) G w L) ⟨n,l,(f,c)::k⟩ G E w:=by
   refine ⟨i.size,R▸i.defs,λt x T=>?_,q1⟩;obtain ⟨e1,e2⟩:=K t x T;rw [R];exact i.env t x (by show get u t=some x;rw [g1 t e1];exact hS t x e2)
  obtain ⟨k0,k1⟩:=h (B5 F F.lo B ((f,c)::k) G w L);refine GZ ?_ (k1 G E w U);rintro A X ⟨v,rfl,Y,M,Q,O⟩;refine ⟨G,(d,a)::u,B,SR.put (s:=⟨n,u,B⟩) ⟨i.size,i.defs.mono Q (λb D _=>O b D) (λ_ _ h=>h),λt x T=>(i.env t x T).mono Q (λb D _=>O b D) (λ_ _ h=>h) (λ_ _ _=>rfl),i.heap.stay ⟨M.1,M.2.1,M.2.2.1,fO i.heap.drawn M.2.2.2⟩ Q O⟩ k0 (by rw [R] at Y;exact Y),λt=>?_,λf=>rfl⟩;simp only [BW,get]
  grind
 grind
def AV.okK (ok:Nat ->Nat ->Bool) (b:Bool):AV ->Bool
 | .top=>!b
 | a=>a.ok ok
theorem AV.okK_eq {b:Bool} (h:j≠ .top):j.okK c b=j.ok c:=by
 cases j<;>first | rfl | exact absurd rfl h
def Gh (ok:Nat ->Nat ->Bool) (xs:List Nat):List Nat ->List (Nat×AV) ->List (Nat×AV)
 | _,[]=> []
 | ks,(t,a)::r=>match ed t ks,a.okK ok (ed t xs) with
  | false,false=>(t,.top)::Gh ok xs (t::ks) r
  | _,_=>Gh ok xs (t::ks) r
variable {h:List (Nat×AV)}
theorem Jk {g ks:List Nat} {t:Nat}:get (Gh c g ks h) t=match ed t ks,get h t with
  | false,some a=>match a.okK c (ed t g) with
   | true=>none
   | false=>some .top
  | _,_=>none:=by
 induction h generalizing ks with
 | nil=>simp only [Gh,get];cases ed t ks<;>rfl
 | cons q r l=>
  obtain ⟨k,b⟩:=q;have f:=l (ks:=k::ks);simp only [Gh]
  by_cases e:k=t
  .subst e;have i:ed k (k::ks)=true:=Fd.2 fu;rw [i] at f;have j:get ((k,b)::r) k=some b:=by simp only [get,gh]
   rw [j]
   cases h1:ed k ks with
   | true=>exact f
   | false=>
    cases h2:b.okK c (ed k g) with
    | true=>simp only [h2];exact f
    | false=>simp only [h2,get,gh]
  .have i:ed t (k::ks)=ed t ks:=by simp only [ed,HV e,Bool.false_or]
   rw [i] at f;have j:get ((k,b)::r) t=get r t:=by simp only [get,HV e]
   rw [j]
   split
   .simp only [get,HV e];exact f
   .exact f
theorem VO {c:List (Nat×AV)} (b:B8 f h=some c) (t:Nat):get c t=(get h t).map λa=>match a.ok f with
  | true=>a
  | false=> .top:=by
 induction h generalizing c with
 | nil=>simp only [B8,Option.some.injEq] at b;subst b;rfl
 | cons q r j=>
  obtain ⟨k,x⟩:=q;simp only [B8] at b
  split at b
  .cases b
  .rename_i s l
   have g:=j l
   split at b<;>(injection b with b;subst b)
   .rename_i i
    by_cases e:k=t
    .subst e;simp only [get,gh,gs,i]
    .simp only [get,HV e];exact g
   .rename_i i
    by_cases e:k=t
    .subst e;simp only [get,gh,gs,i]
    .simp only [get,HV e];exact g
def X4:List (Nat×AV) ->List (Nat×Option AV)
 | []=> []
 | (t,a)::r=>(t,some a)::X4 r
theorem KX (l:List (Nat×AV)) (t:Nat):BW (X4 l) t=(get l t).map some:=by
 induction l with
 | nil=>rfl
 | cons q r a=>
  grind [X4,BW,get]
theorem IX (l a:List (Nat×AV)) (t:Nat):get (l++a) t=(get l t).or (get a t):=by
 induction l with
 | nil=>rfl
 | cons q r b=>
  grind [get]
def Od (hs':Hp):List Nat ->List (Nat×Option (List AI))
 | []=> []
 | f::r=>(f,eQ hs' f)::Od hs' r
theorem IP:BW (Od t a) w=if w∈a then some (eQ t w) else none:=by
 induction a with
 | nil=>simp [Od,BW]
 | cons b r c=>
  simp only [Od,BW]
  by_cases e:b=w
  .subst e;simp
  grind [HV]
def KJ (nm:List Nat):Hp ->Hp
 | []=> []
 | (g,l)::r=>match ed g nm with
  | true=>KJ nm r
  | false=>(g,l)::KJ nm r
theorem JE {b:Hp} (f:Nat):eQ (KJ a b) f=if f∈a then none else eQ b f:=by
 induction b with
 | nil=>simp [KJ,eQ]
 | cons q r g=>
  obtain ⟨k,l⟩:=q;simp only [KJ]
  by_cases e:k=f
  .subst e
   cases hm:ed k a with
   | true=>simp only [g,ϱ (Fd.1 hm)]
   | false=>
    have c:k∉a:=λh=>by rw [Fd.2 h] at hm;cases hm
    simp [eQ,c]
  grind [eQ,HV]
theorem TD {H b:Hp} (h:AP a H=true) (f:Nat) (j:f∈a ->eQ b f=none):eQ (H++b) f=if f∈a then eQ H f else eQ b f:=by
 have c:∀H:Hp,eQ (H++b) f=(eQ H f).or (eQ b f):=by
  intro H
  induction H with
  | nil=>rfl
  | cons p r i=>
   grind [eQ]
 rw [c]
 split
 .grind
 .rename_i g
  cases hh:eQ H f with
  | none=>rfl
  | some l=>exact absurd (F2 h hh) g
def NH (nm:List Nat) (p:Nat ->Nat ->Bool) (f i:Nat):Bool:=!(ed f nm) || p f i
def fk (dv:List (Nat×AV)) (nm:List Nat) (p:Nat ->Nat ->Bool) (env0:List (Nat×AV)) (xs:List Nat):List (Nat×AV):=dv++Gh (NH nm p) xs [] env0
theorem IC.eff {rd R:List Nat} {l' M:List (Nat×AV)} {fl:Nat ->Option AV} {fm:Nat ->Option (List AI)} (hl:pick g rd=some i) (hh:BQ k a=some s)
  (hS:∀c z,get g c=some z ->fl c=some z) (hF:∀u,eQ k u=fm u) (h:∀F,eL P F ops o ⟨n,i,s⟩ ⟨n,l',t⟩ f)
  (hdv:(M=[]/\o.dst=none)\/∃d z,M=[(d,z)]/\o.dst=some d/\Nat.blt d n=true/\get l' d=some z/\z.ok (I7 a)=true) (n1:AP a t=true) (n2:FJ a t=true):
  IC P ops n o ⟨rd,X4 (fk M a f g R),a,Od t a,true,NH a f⟩ C fl fm:=by
 intro F ρ V w J hp D _ h1 h2 h3 h4;obtain ⟨p1,p2⟩:=Ip hh;have Y:=Ek (hp:=hp) (CH:=s) (nm:=a) λr hg=>by rw [h2 r hg,<-hF,p2 r hg]
 obtain ⟨T,q1,q2⟩:=Ej F.lo D.heap a Y p1;have X:=NA hl
 have hsm:SR (B5 F F.lo hp s ρ w T) ⟨n,i,s⟩ ρ V w:=by
  refine ⟨D.size,q2▸D.defs,λc x hx=>?_,q1⟩;obtain ⟨O,U⟩:=X c x hx;rw [q2];exact D.env c x (by show get J c=some x;rw [h1 c O];exact hS c x U)
 refine GZ ?_ (h (B5 F F.lo hp s ρ w T) ρ V w hsm);rintro Q w' ⟨ρ',N,⟨v,hv⟩,hp'⟩
 have H:∀r j,dr (KJ a hp) r j=if r∈a then none else dr hp r j:=λr j=>by
  simp only [dr,JE]
  split<;>rfl
 have I:∀r j K,dr (KJ a hp) r j=some K ->K.Less (NH a f) K:=λr j K B=>by
  rw [H] at B
  split at B
  .cases B
  .rename_i hg
   simp only [dr] at B
   cases hfa:eQ hp r with
   | none=>rw [hfa] at B;cases B
   | some lo=>
    rw [hfa] at B;have G:=h4 Z r lo hfa (by rw [IP,θ hg]);exact ⟨λ_ _ _ _ h=>h,λu j hr=>(iR B).elim (λhm=>YO G hm hr) (λ⟨_,m,_,_,e⟩=>absurd (e▸hr) A7.norefs),λc cs e=>⟨cs,e⟩,λc cs e=>⟨cs,e⟩⟩
 obtain ⟨W,a1,a2,a3,a4,a5,_,a6⟩:=Pi (ok:=NH a f) D.heap a Y p1 H (λr j K B=>⟨K,B,I r j K B⟩) (λr j K B=>⟨K,B,I r j K B⟩) T q1 N.heap n1 n2
  (λu j S G=>hp' u j (by simpa only [NH,Fd.2 S,Bool.not_true,Bool.false_or] using G))
 have E:Q.tmps.size=n/\∀c,get M c=none ->Q.tmps.getD c undef=V.tmps.getD c undef:=by
  refine ⟨N.size,λc ht=>?_⟩;rcases hdv with ⟨O,U⟩ | ⟨d,z,O,U,e3,_⟩
  .rw [hv,U];rfl
  .rw [hv,U];refine L8 λe=>?_;subst e;rw [O] at ht;simp [get] at ht
 refine ⟨W,fk M a f g R++J,t++KJ a hp,⟨E.1,N.defs.mono (ϖ _) (λ_ _ _=>rfl) (λb _=>a6 b),λc x hx=>?_,a1⟩,λc=>?_,λu=>?_⟩
 .have A:get (fk M a f g R++J) c=some x:=hx;rw [IX,fk,IX] at A
  cases L:get M c with
  | some y=>
   rw [L] at A
   simp at A
   subst A;rcases hdv with ⟨O,U⟩ | ⟨d,z,O,U,e3,e4,e5⟩
   .rw [O] at L;cases L
   .rw [O] at L;rcases LR L with ⟨rfl,rfl⟩ | ⟨_,L⟩
    .exact a2 _ _ (λu j S=>Fd.1 (AV.ok_spec e5 S)) (N.env d z e4)
    .cases L
  | none=>
   rw [L] at A;simp only [Option.none_or] at A
   cases hk:get (Gh (NH a f) R [] g) c with
   | some y=>
    rw [hk] at A
    simp at A
    subst A;rw [Jk] at hk
    have:y=AV.top:=by
     split at hk
     .split at hk
      .cases hk
      .injection hk with hk;exact hk.symm
     .cases hk
    rw [this];exact .top
   | none=>
    rw [hk] at A;simp only [Option.none_or] at A;have G:=h3 Z c x A (by rw [KX,fk,IX,L,hk];rfl);rw [E.2 c L];exact a3 _ _ (λu j S=>AV.ok_spec G S) (D.env c x A)
 .show get (fk M a f g R++J) c=(BW (X4 (fk M a f g R)) c).getD (get J c);rw [KX,IX]
  cases get (fk M a f g R) c<;>rfl
 .show eQ (t++KJ a hp) u=(BW (Od t a) u).getD (eQ hp u);rw [TD n1 u (λS=>by rw [JE,ϱ S]),IP,JE]
  split<;>simp
end
variable {a:List (List Nat)} {c:Array Oper} {L:Nat ->Bool}
def Lf (listed:Array Bool) (k:Nat):Bool:=listed.getD k false
def cnt (L:Nat ->Bool):Nat ->Nat
 | 0=>0
 | n+1=>cnt L n+(match L n with
  | true=>0
  | false=>1)
theorem lX {a:Nat ->Bool} {i n:Nat} (j:L i=false) (f:∀k,a k=if k=i then true else L k) (g:i<n):cnt a n+1=cnt L n:=by
 induction n with
 | zero=>omega
 | succ n b=>
  have c:∀m,m<=i ->cnt a m=cnt L m:=by
   intro m
   induction m with
   | zero=>intro _;rfl
   | succ m b=>intro h;simp only [cnt,b (by omega),f,θ (show ¬m=i by omega)]
  grind [cnt]
theorem lY {i n:Nat} (c:L i=false) (b:i<n):0<cnt L n:=by
 induction n with
 | zero=>omega
 | succ n a=>
  grind [cnt]
theorem qd {listed:Array Bool} {i:Nat} (a:i<listed.size) (k:Nat):Lf (listed.setIfInBounds i true) k=if k=i then true else Lf listed k:=by
 unfold Lf
 by_cases e:k=i
 .simp_all
 .rw [θ e];simp [Array.getElem?_setIfInBounds_ne (λh=>e h.symm)]
structure Ee (ops:Array Oper) (pre:List (List Nat)):Prop where
 preds:∀(j:Nat) o,ops[j]? =some o ->∀x∈eu pre j,∃e∈o.after,Region.binds .any e=true/\(e.on=x\/x∈eu pre e.on)
 back:∀(j:Nat) o,ops[j]? =some o ->∀e∈o.after,Region.binds .any e=true ->e.on<j
 nod:∀(j:Nat) o,ops[j]? =some o ->Op.isDefer o.op=false
theorem Uu (h:PX c.toList a a c.toList 0=true) (s:c.toList.all (λo=>!Op.isDefer o.op)=true):Ee c a:=by
 have r:∀(g:List (List Nat)) (f:List Oper) (i:Nat),PX c.toList a g f i=true ->(∀j,eu g j=eu a (i+j)) ->∀(j:Nat) o,f[j]? =some o→
   (∀x∈eu a (i+j),∃e∈o.after,Region.binds .any e=true/\(e.on=x\/x∈eu a e.on))/\∀e∈o.after,Region.binds .any e=true ->e.on<i+j:=by
  intro g
  induction g with
  | nil=>intro f i h _ j o b;cases f with
   | nil=>simp at b
   | cons _ _=>simp [PX] at h
  | cons l g y=>
   intro f i h v j o b
   cases f with
   | nil=>simp at b
   | cons C f=>
    simp only [PX,fV] at h;obtain ⟨B,A,z⟩:=h
    cases j with
    | zero=>
     simp at b;subst b
     have w:=v 0;simp only [eu,gg] at w;refine ⟨λx u=>?_,λe t k=>?_⟩
     .rw [gg,<-w] at u;have:=iZ.1 B x u;obtain ⟨e,t,k⟩:=List.any_eq_true.1 this;simp only [fV,Bool.or_eq_true] at k;exact ⟨e,Array.mem_toList_iff.1 t,k.1,k.2.imp fx Fd.1⟩
     .have:=iZ.1 A e (Array.mem_toList_iff.2 t);rw [k] at this
      simpa using IB (by simpa using this)
    | succ j=>
     have:=y f (i+1) z (λj=>by have:=v (j+1);simp only [eu] at this;rw [this];congr 1;omega) j o (by simpa using b);rw [show i+1+j=i+(j+1) by omega] at this;exact this
 have D:=r a c.toList 0 h (λj=>by rw [gf]);refine ⟨λj o b=>?_,λj o b=>?_,λj o b=>by simpa using iZ.1 s o (Array.mem_toList_iff.2 (Array.mem_of_getElem? b))⟩
 .grind
 simp_all
theorem Ee.lt (h:Ee c a):∀j,j<c.size ->∀x∈eu a j,x<j:=by
 intro j
 induction j using Nat.strongRecOn with
 | _ j l=>
  intro b x g;obtain ⟨e,i,k,f⟩:=h.preds j _ (gS b) x g;have:=h.back j _ (gS b) e i k
  grind
section
variable {P:Program} {ops:Array Oper} {pre:List (List Nat)} {r:Option Nat} {Q:Exit ->Act ->World ->Prop}
variable {K:Act ->World ->Prop} {w:World} {o:Oper} {a:Act}
theorem En {s:Act ->World ->Prop} {Q k:Exit ->Act ->World ->Prop} (g:∀a w,K a w ->s a w) (f:∀e a w,e≠ .normal ->Q e a w ->k e a w) (b:o.wpIn (Pq r) 0 P a w K Q):o.wpIn (Pq r) 0 P a w s k:=by
 unfold Oper.wpIn at*;refine ⟨b.1,?_⟩;have b:=b.2
 generalize (o.semAt (Pq r).round a.eval).run P w=j at*
 have l:LetsOut Q ->LetsOut k:=λ⟨a,w,h⟩=>⟨a,w,f _ _ _ (by simp) h⟩
 cases j with
 | ok x t=>
  cases x<;>simp only [Oper.uponIn] at b⊢<;>
   first
    | exact g _ _ b
    | exact ⟨b.1,CallsIn.mono b.2 (λe i c=>by cases e<;>first | exact g _ _ c | exact f _ _ _ (by simp) c | exact l c)⟩
    | exact ⟨b.1,RowsIn.mono b.2 (λ_ _ c=>g _ _ c)⟩
    | exact ⟨b.1,RoundIn.mono b.2 (λe i c=>by cases e<;>first | exact g _ _ c | exact f _ _ _ (by simp) c | exact l c)⟩
 | halt x t=>cases x<;>simp only [Oper.uponIn] at b⊢<;>first | exact f _ _ _ (by simp) b | exact b
def Du (P:Program) (r:Option Nat) (ops:Array Oper) (o:Oper) (Q:Exit ->Act ->World ->Prop) (K:Act ->World ->Prop) (a:Act) (w:World):Prop:=
 if Region.wanted o (yielded ops a.tmps) then o.wpIn (Pq r) 0 P a w K Q else K (a.put o.dst undef) w
theorem U2 (b:Op.isDefer o.op=false) (h:HF P ops o K a w):Du P r ops o Q K a w:=by grind [HF,Du,Em]
theorem KY (Z:Ee ops pre) (D v:Nat) (hhi:v<=ops.size) (O:∀j,v<=j ->j<ops.size ->∀x,D<=x ->x<v ->x∈eu pre j) (Inv:(Nat ->Bool) ->Act ->World ->Prop)
  (step:∀(L:Nat ->Bool) a w i,D<=i ->i<v ->L i=false ->(∀x∈eu pre i,L x=true) ->(∀j,j<ops.size ->L j=true ->∀x∈eu pre j,L x=true) ->Inv L a w ->∃o,ops[i]? =some o/\Du P r ops o Q (Inv λk=>if k=i then true else L k) a w)
  (fin:∀listed a w,listed.size=ops.size ->(∀k,Lf listed k=decide (k<v)) ->Inv (Lf listed) a w ->wpAnyIn (Pq r) 0 P .any ops Q (cnt (Lf listed) ops.size) listed a w):
  ∀b (listed:Array Bool) a w,listed.size=ops.size ->b=cnt (Lf listed) ops.size ->(∀j,j<ops.size ->Lf listed j=true ->∀x∈eu pre j,Lf listed x=true) ->(∀k,k<D ->Lf listed k=true) ->(∀k,v<=k ->Lf listed k=false) ->Inv (Lf listed) a w ->wpAnyIn (Pq r) 0 P .any ops Q b listed a w:=by
 intro b
 induction b with
 | zero=>
  grind [Lf,lY]
 | succ b ih=>
  intro listed a w Y hf B G J hI
  by_cases t:∀k,D<=k ->k<v ->Lf listed k=true
  .grind
  .have hmr:∀{j},j∈Region.ready .any ops listed ->j<ops.size/\Lf listed j=false/\∀x∈eu pre j,Lf listed x=true:=λ{j} C=>by
    obtain ⟨u,o,l,R⟩:=mem_ready.1 C;have A:j<ops.size:=(gr.1 l).1;refine ⟨A,?_,λx T=>?_⟩
    .unfold Lf;rw [iy,gS (by omega)] at u⊢;exact u
    .obtain ⟨e,U,V,z⟩:=Z.preds j o l x T;have N:=R e U V;rcases z with rfl | z
     .exact N
     .exact B e.on (by have:=Z.back j o l e U V;omega) N x z
   have hne:Region.ready .any ops listed≠ []:=by
    have hex:∃k,k<ops.size/\Lf listed k=false:=by
     refine Classical.byContradiction λM=>t λk I H=>?_
     cases y:Lf listed k with
     | true=>rfl
     | false=>exact absurd ⟨k,by omega,y⟩ M
    obtain ⟨k,s⟩:=hex
    have E:∃k,(k<ops.size/\Lf listed k=false)/\∀j,j<k ->¬(j<ops.size/\Lf listed j=false):=by
     revert s
     induction k using Nat.strongRecOn with
     | _ k W=>
      intro s
      by_cases C:∃j,j<k/\(j<ops.size/\Lf listed j=false)
      .obtain ⟨j,u,l⟩:=C;exact W j u l
      .exact ⟨k,s,λj u l=>C ⟨j,u,l⟩⟩
    obtain ⟨k,s,hkm⟩:=E
    have hr:k∈Region.ready .any ops listed:=by
     refine mem_ready.2 ⟨?_,ops[k],gS s.1,λe U V=>?_⟩
     .have:=s.2;unfold Lf at this;rw [iy,gS (by omega)] at this⊢;exact this
     .have A:=Z.back k _ (gS s.1) e U V
      cases y:Lf listed e.on with
      | true=>exact y
      | false=>exact absurd ⟨by omega,y⟩ (hkm e.on A)
    intro h0;rw [h0] at hr;cases hr
   refine ⟨λh0=>absurd h0 hne,λi hi'=>?_⟩;obtain ⟨u,l,R⟩:=hmr hi';have F:D<=i:=Nat.le_of_not_lt λM=>by rw [G i M] at l;cases l
   have K:i<v:=Nat.lt_of_not_le λM=>t λk I H=>R k (O i M u k I H);obtain ⟨o,ho,f⟩:=step (Lf listed) a w i F K l R B hI;have c:=qd (listed:=listed) (i:=i) (by omega)
   have next:∀g S,Inv (λk=>if k=i then true else Lf listed k) g S ->wpAnyIn (Pq r) 0 P .any ops Q b (listed.setIfInBounds i true) g S:=λg S hI'=>by
    refine ih _ g S (by simpa using Y) ?_ (λj C y x T=>?_) (λk s=>?_) (λk s=>?_) ?_
    .have:=lX l c u;omega
    .rw [c] at y⊢
     by_cases e:x=i
     .rw [ϱ e]
     .rw [θ e]
      by_cases e2:j=i
      .subst e2;exact R x T
      .rw [θ e2] at y;exact B j C y x T
    .rw [c];split
     .rfl
     .exact G k s
    .rw [c,θ (by omega)];exact J k s
    .have:Lf (listed.setIfInBounds i true)=λk=>if k=i then true else Lf listed k:=funext c
     rw [this];exact hI'
   unfold wpOpIn;rw [ho];simp only [];unfold Du at f
   split
   .rename_i X
    rw [ϱ X] at f;exact En next (λ_ _ _ _ h=>h) f
   .rename_i X
    rw [θ X] at f;exact ⟨λ_ _=>trivial,next _ _ f⟩
end
section
variable {P:Program} {F:Fr} {ops:Array Oper} {pre:List (List Nat)} {Q:Exit ->AS ->Prop}
variable {a:Nat} {s:AS} {R:List Rc} {C:KU} {c:Nat}
def jR (P:Program) (F:Fr) (ops:Array Oper) (lo:Nat) (Q:Exit ->AS ->Prop) (s:AS):Prop:=∀ρ act w listed,SR F s ρ act w ->listed.size=ops.size ->(∀k,Lf listed k=decide (k<lo)) ->wpAnyIn (Pq F.rnd) 0 P .any ops (Sj F Q) (cnt (Lf listed) ops.size) listed act w
theorem SR.drew {j:Nat ->Nat ->Value} {f:Act} {w a:World} (h:SR F s j f w) (k:a.heap=w.heap) (u:a.os=w.os) (r:a.tape=w.tape) (o:a.output=w.output) (v:w.drawn<=a.drawn:=by first | exact Nat.le_succ _ | exact ϖ _):SR F s j f a:=by
 have g:w.heap.size<=a.heap.size:=by rw [k];exact ϖ _
 have i:∀b,b<w.heap.size ->a.heap[b]? =w.heap[b]?:=λb _=>by rw [k]
 exact ⟨h.size,h.defs.mono g (λb c _=>i b c) (λ_ _ h=>h),λt x l=>(h.env t x l).mono g (λb c _=>i b c) (λ_ _ h=>h) (λ_ _ _=>rfl),h.heap.stay ⟨u,r,o,fO h.heap.drawn v⟩ g i⟩
theorem qV {id:Nat} {l:List Oper} (i:P.follows .mixedOrders=true) (h:jR P F l.toArray 0 Q s):Bl P F (.region id l.toArray true) Q s:=λc a w g=>by
 refine wpIn_region_any i ?_
 have b:∀k,Lf (Array.replicate l.toArray.size false) k=false:=λk=>by
  unfold Lf;rw [iy,Array.getElem?_replicate]
  split<;>rfl
 have j:∀n,cnt (Lf (Array.replicate l.toArray.size false)) n=n:=by
  intro n
  induction n with
  | zero=>rfl
  | succ n f=>simp only [cnt,f,b]
 have:=h c a {w with drawn:=w.drawn+1} (Array.replicate l.toArray.size false) (g.drew Z Z Z Z) (by simp) (λk=>by rw [b];simp)
 rwa [j] at this
def Pt (pre:List (List Nat)) (lo hi:Nat):Nat ->Nat ->Bool
 | _,0=>true
 | j,m+1=>inAll lo (hi - lo) (eu pre j) && Pt pre lo hi (j+1) m
where inAll (x:Nat):Nat ->List Nat ->Bool
 | 0,_=>true
 | m+1,l=>ed x l && inAll (x+1) m l
theorem VU {x m:Nat} {l:List Nat} (h:Pt.inAll x m l=true):∀y,x<=y ->y<x+m ->y∈l:=by
 induction m generalizing x with
 | zero=>intro y b a;omega
 | succ m c=>
  simp only [Pt.inAll,fV] at h;intro y b a
  by_cases e:x=y
  .subst e;exact Fd.1 h.1
  grind
theorem V6 {b m:Nat} (i:a<=c) (h:Pt pre a c b m=true):∀j,b<=j ->j<b+m ->∀x,a<=x ->x<c ->x∈eu pre j:=by
 induction m generalizing b with
 | zero=>intro j o l;omega
 | succ m g=>
  simp only [Pt,fV] at h;intro j o l x f k
  by_cases e:b=j
  .subst e;exact VU h.1 x f (by omega)
  .exact g h.2 j (by omega) (by omega) x f k
def T6 (pre:List (List Nat)) (n lo hi:Nat):Bool:=Nat.ble lo hi &&(Nat.ble hi n && Pt pre lo hi hi (n - hi))
theorem LK {n:Nat} (h:T6 pre n a c=true):a<=c/\c<=n/\∀j,c<=j ->j<n ->∀x,a<=x ->x<c ->x∈eu pre j:=by
 simp only [T6,fV] at h;have f:=Nat.le_of_ble_eq_true h.1;have b:=Nat.le_of_ble_eq_true h.2.1
 grind [V6]
theorem Fm (g:Ee ops pre) {b:Array Bool} (i:∀k,Lf b k=decide (k<a)):∀j,j<ops.size ->Lf b j=true ->∀x∈eu pre j,Lf b x=true:=λj h c x f=>by
 rw [i] at c⊢;have:=hJ c;have:=g.lt j h x f;exact Υ (by omega)
theorem pt {o:Oper} (I:Ee ops pre) (N:ops[a]? =some o) (T:T6 pre ops.size a (a+1)=true) (h:A8 P F ops [o] (λe l=>e= .normal/\jR P F ops (a+1) Q l) s):jR P F ops a Q s:=λK t w r M D B=>by
 obtain ⟨_,V,U⟩:=LK T;have f:=h K t w M;refine KY I a (a+1) V U (λL g x=>((L a=false/\g=t/\x=w)\/(L a=true/\∃l c,jR P F ops (a+1) Q l/\SR F l c g x))) ?_ ?_ _ r t w D Z (Fm I B) (λk J=>by rw [B];exact Υ J) (λk J=>by rw [B];exact fb (by omega)) (.inl ⟨by rw [B];simp,Z,Z⟩)
 .intro L g x i R O G _ _ H;have:i=a:=by omega
  subst this;rcases H with ⟨_,rfl,rfl⟩ | ⟨z,_⟩
  .refine ⟨o,N,?_⟩;unfold wpListIn at f;unfold Du
   split
   .rename_i C
    rw [ϱ C] at f;refine En ?_ ?_ f
    .rintro b w ⟨l,c,⟨_,v⟩,u⟩;exact .inr ⟨by simp,l,c,v,u⟩
    .rintro e b w E ⟨l,c,⟨S,v⟩,u⟩;exact absurd S E
   .rename_i C
    rw [θ C] at f;obtain ⟨_,l,c,⟨_,v⟩,u⟩:=f;exact .inr ⟨by simp,l,c,v,u⟩
  .rw [G] at z;cases z
 .intro j g x y A H;rcases H with ⟨z,_⟩ | ⟨_,l,c,v,u⟩
  .rw [A] at z;simp at z
  .exact v c g x j u y A
abbrev RS (R:List Rc):=R.map Rc.ws
abbrev RF (R:List Rc):=R.map Rc.fs
def fl (base:AS) (R:List Rc):Nat ->Option AV:=FR (get base.env) (λ_=>true) (RS R)
def fm (base:AS) (R:List Rc):Nat ->Option (List AI):=FR (eQ base.hp) (λ_=>true) (RF R)
def X0 (P:Program) (ops:Array Oper) (lo:Nat) (base:AS) (C:KU):List Rc ->Prop
 | []=>True
 | rc::r=>X0 P ops lo base C r/\(∃o,ops[lo+r.length]? =some o/\IC P ops base.n o rc C (fl base r) (fm base r))/\(∀f,BW rc.fs f≠none ->f∈rc.nm)/\∀f c,BW rc.fs f=some c ->C f c
theorem X0.at {b:AS} (h:X0 P ops a b C R) {k:Nat} {g:Rc} (i:R.reverse[k]? =some g):∃A r,R=A++g::r/\r.length=k/\(∃o,ops[a+k]? =some o/\IC P ops b.n o g C (fl b r) (fm b r))/\(∀f,BW g.fs f≠none ->f∈g.nm)/\∀f c,BW g.fs f=some c ->C f c:=by
 induction R with
 | nil=>simp at i
 | cons x r l=>
  rcases fM i with i | ⟨rfl,rfl⟩
  .obtain ⟨A,j,t,s⟩:=l h.1 i;exact ⟨x::A,j,by rw [t];rfl,s⟩
  .exact ⟨[],r,Z,Z,h.2.1,h.2.2⟩
def qg (P:Program) (F:Fr) (ops:Array Oper) (lo:Nat) (Q:Exit ->AS ->Prop) (C:KU) (base:AS) (R:List Rc) (env:List (Nat×AV)) (hp:Hp):Prop:=
 (∀f,C f (eQ base.hp f)) ->X0 P ops lo base C R ->(∀t a,get env t=some a ->fl base R t=some a) ->(∀f,eQ hp f=fm base R f) ->jR P F ops lo Q base
theorem dH (b:∀f,C f (eQ s.hp f)) (h:qg P F ops a Q C s [] s.env s.hp):jR P F ops a Q s:=h b trivial (λ_ _ h=>h) λ_=>rfl
structure gZ (pre:List (List Nat)) (lo i j:Nat) (ri rj:Rc):Prop where
 race:(lo+j)∉eu pre (lo+i) ->GS rj.ws ri.rd=true/\GS rj.ws (N6 ri.ws)=true/\GS ri.ws rj.rd=true/\GS rj.fs ri.nm=true/\GS ri.fs rj.nm=true
 late:ri.eff=true ->VE ri.ok ri.ws rj.ws=true/\VF ri.ok ri.fs rj.fs=true
 early:(lo+j)∉eu pre (lo+i) ->rj.eff=true ->VE rj.ok rj.ws ri.ws=true/\VF rj.ok rj.fs ri.fs=true
theorem FZ {i j:Nat} {f c:Rc} (h:NB (ed (a+j) (eu pre (a+i))) c f=true):gZ pre a i j f c:=by
 have k:(a+j)∉eu pre (a+i) ->ed (a+j) (eu pre (a+i))=false:=λb=>by
  cases hh:ed (a+j) (eu pre (a+i)) with
  | false=>rfl
  | true=>exact absurd (Fd.1 hh) b
 simp only [NB,fV,Bool.or_eq_true,Bool.not_eq_true'] at h;refine ⟨λb=>?_,λg=>?_,λb g=>?_⟩
 all_goals (grind)
theorem dI {j hi:Nat} {C:KU} {s:AS} {R:List Rc} {env:List (Nat×AV)} {hp:Hp} (hps:Ee ops pre) (hhi:Nat.beq (j+R.length) hi=true) (hc:T6 pre ops.size j hi=true) (G:Hu pre j s.env s.hp R=true) (h:jR P F ops hi Q ⟨s.n,env,hp⟩):qg P F ops j Q C s R env hp:=λhC hV hE hH=>by
 intro ρ act w H hs hsz hL;have hhi':=fx hhi;subst hhi';obtain ⟨_,c2,c3⟩:=LK hc
 let Inv:(Nat ->Bool) ->Act ->World ->Prop:=λL act w=>∃ρ env hp,SR F ⟨s.n,env,hp⟩ ρ act w/\(∀t,get env t=FR (get s.env) (λk=>L (j+k)) (RS R) t)/\∀f,eQ hp f=FR (eQ s.hp) (λk=>L (j+k)) (RF R) f
 have hnone:∀{α:Type} (base:Nat ->α) (R:List (List (Nat×α))) t,FR base (λk=>Lf H (j+k)) R t=base t:=by
  intro α base R t
  induction R with
  | nil=>rfl
  | cons ws r ih=>
   have h0:Lf H (j+r.length)=false:=by rw [hL];exact fb (by omega)
   simp only [FR,h0];exact ih
 refine KY hps j (j+R.length) c2 c3 Inv ?_ ?_ _ H act w hsz Z (Fm hps hL) (λk u=>by rw [hL];exact Υ u) (λk u=>by rw [hL];exact fb (by omega)) ⟨ρ,s.env,s.hp,hs,λt=>(hnone _ _ t).symm,λf=>(hnone _ _ f).symm⟩
 .intro L act w i' hi1 hi2 M hpre hcl ⟨ρ,env1,hp1,hsr,hE1,hH1⟩
  obtain ⟨i,rfl⟩:∃i,i'=j+i:=⟨i' - j,by omega⟩
  have hiR:i<R.length:=by omega
  have D:R.reverse[i]? =some (R.reverse[i]'(by simpa using hiR)):=ω (by simpa using hiR)
  generalize R.reverse[i]'(by simpa using hiR)=rc at D
  obtain ⟨A,r,e1,e2,⟨o,ho,hsound⟩,hfk,_⟩:=hV.at D
  -- the order against others
  have S:∀{k ws},(RS R).reverse[k]? =some ws ->∃B:Rc,R.reverse[k]? =some B/\B.ws=ws:=λ{k ws} u=>by
   rw [<-List.map_reverse,η] at u
   cases hh:R.reverse[k]? with
   | none=>rw [hh] at u;cases u
   | some B=>rw [hh] at u;injection u with u;exact ⟨B,hh,u⟩
  have J:∀{k ws},(RF R).reverse[k]? =some ws ->∃B:Rc,R.reverse[k]? =some B/\B.fs=ws:=λ{k ws} u=>by
   rw [<-List.map_reverse,η] at u
   cases hh:R.reverse[k]? with
   | none=>rw [hh] at u;cases u
   | some B=>rw [hh] at u;injection u with u;exact ⟨B,hh,u⟩
  have X:∀{k B},R.reverse[k]? =some B ->k<i ->L (j+k)=false ->gZ pre j i k rc B/\(j+k)∉eu pre (j+i):=λ{k B} u v c=>
   ⟨FZ (Fa G D u v),λhm=>by rw [hpre _ hm] at c;cases c⟩
  have z:∀{k B},R.reverse[k]? =some B ->i<k ->L (j+k)=true ->gZ pre j k i B rc/\(j+i)∉eu pre (j+k):=λ{k B} u v c=>
   ⟨FZ (Fa G u D v),λhm=>by
    have hkR:=Kb u
    rw [hcl (j+k) (by omega) c _ hm] at M;cases M⟩
  have hR:RS R=(RS (A++ [rc]))++RS r/\RF R=(RF (A++ [rc]))++RF r:=by
   rw [e1];simp [RS,RF]
  have hsame:∀t∈rc.rd,FR (get s.env) (λk=>L (j+k)) (RS R) t=fl s r t:=λt ht=>by
   have V:FR (get s.env) (λk=>L (j+k)) (RS R) t=FR (get s.env) (λk=>decide (k<(RS r).length)) (RS R) t:=by
    refine Fw λk ws u I=>?_;obtain ⟨B,y,rfl⟩:=S u;have W:(RS r).length=i:=by simp [RS,e2]
    rw [W];rcases Nat.lt_trichotomy k i with v | U | T
    .rw [Υ v]
     cases c:L (j+k) with
     | true=>rfl
     | false=>
      obtain ⟨O,N⟩:=X y v c;exact absurd (Dr (O.race N).1 ht) I
    .subst U;rw [fb (ir _)];exact M
    .rw [fb (by omega)]
     cases c:L (j+k) with
     | false=>rfl
     | true=>
      obtain ⟨O,N⟩:=z y T c;exact absurd (Dr (O.race N).2.2.1 ht) I
   rw [V,hR.1,Mb];rfl
  have hsameF:∀f∈rc.nm,FR (eQ s.hp) (λk=>L (j+k)) (RF R) f=fm s r f:=λf hf=>by
   have V:FR (eQ s.hp) (λk=>L (j+k)) (RF R) f=FR (eQ s.hp) (λk=>decide (k<(RF r).length)) (RF R) f:=by
    refine Fw λk ws u I=>?_;obtain ⟨B,y,rfl⟩:=J u;have W:(RF r).length=i:=by simp [RF,e2]
    rw [W];rcases Nat.lt_trichotomy k i with v | U | T
    .rw [Υ v]
     cases c:L (j+k) with
     | true=>rfl
     | false=>
      obtain ⟨O,N⟩:=X y v c;exact absurd (Dr (O.race N).2.2.2.1 hf) I
    .subst U;rw [fb (ir _)];exact M
    .rw [fb (by omega)]
     cases c:L (j+k) with
     | false=>rfl
     | true=>
      obtain ⟨O,N⟩:=z y T c;exact absurd (Dr (O.race N).2.2.2.2 hf) I
   rw [V,hR.2,Mb];rfl
  refine ⟨o,ho,U2 (hps.nod _ _ ho)<| GZ ?_ (hsound F ρ act w env1 hp1 hsr (λf=>by
   rw [hH1];rcases fo (base:=eQ s.hp) (L:=λk=>L (j+k)) (R:=RF R) (t:=f) with ⟨V,_⟩ | ⟨k,ws,u,c,I⟩
   .rw [V];exact hC f
   .obtain ⟨B,y,rfl⟩:=J u;obtain ⟨_,_,_,_,_,_,hc⟩:=hV.at y
    exact hc f _ I) (λt ht=>by rw [hE1,hsame t ht]) (λf hf=>by rw [hH1,hsameF f hf]) (λhe t a ha hl=>?_) (λhe f l hf hl=>?_))⟩
  .rintro act' w' ⟨Y,env',hp',E,hE',hH'⟩
   have hset:∀k,(λk=>if j+k=j+i then true else L (j+k)) k=if k=i then true else L (j+k):=λk=>by
    by_cases e:k=i
    .subst e;simp
    .have:¬(j+k=j+i):=by omega
     simp [e]
   refine ⟨Y,env',hp',E,λt=>?_,λf=>?_⟩
   .rw [hE',hE1];refine (Ma (i:=i) (ws:=rc.ws) (by rw [<-List.map_reverse,η,D];rfl) M hset λI k ws' u v c=>?_).symm;obtain ⟨B,y,rfl⟩:=S u;obtain ⟨O,N⟩:=z y v c;have:=Dr (t:=t) (O.race N).2.1
    cases hh:BW B.ws t with
    | none=>rfl
    | some x=>exact absurd (this (Sr (by rw [hh];simp))) I
   .rw [hH',hH1];refine (Ma (i:=i) (ws:=rc.fs) (by rw [<-List.map_reverse,η,D];rfl) M hset λI k ws' u v c=>?_).symm;obtain ⟨B,y,rfl⟩:=J u;obtain ⟨O,N⟩:=z y v c;exact Dr (O.race N).2.2.2.2 (hfk f I)
  .rw [hE1] at ha;rcases fo (base:=get s.env) (L:=λk=>L (j+k)) (R:=RS R) (t:=t) with ⟨V,_⟩ | ⟨k,ws,u,c,I⟩
   .rw [V] at ha;exact bW (Ld G D he).1 ha (λh=>by cases h) hl
   .rw [ha] at I;obtain ⟨B,y,rfl⟩:=S u;rcases Nat.lt_trichotomy k i with v | U | T
    .exact P3 ((FZ (Fa G D y v)).late he).1 I hl
    .subst U;rw [M] at c;cases c
    .obtain ⟨O,N⟩:=z y T c;exact P3 (O.early N he).1 I hl
  .rw [hH1] at hf;rcases fo (base:=eQ s.hp) (L:=λk=>L (j+k)) (R:=RF R) (t:=f) with ⟨V,_⟩ | ⟨k,ws,u,c,I⟩
   .rw [V] at hf;exact bV (Ld G D he).2 hf hl
   .rw [hf] at I;obtain ⟨B,y,rfl⟩:=J u;rcases Nat.lt_trichotomy k i with v | U | T
    .exact P4 ((FZ (Fa G D y v)).late he).2 I hl
    .subst U;rw [M] at c;cases c
    .obtain ⟨O,N⟩:=z y T c;exact P4 (O.early N he).2 I hl
 .intro K act' w' hsz' hL' ⟨Y,env',hp',E,hE',hH'⟩
  have hall:∀{α:Type} (base:Nat ->α) (R':List (List (Nat×α))) t,R'.length=R.length ->FR base (λk=>Lf K (j+k)) R' t=FR base (λ_=>true) R' t:=λbase R' t W=>
   Fw λk ws u _=>by rw [hL',Υ];have:=Kb u;omega
  have hHh:∀f i,dr hp' f i=dr hp f i:=λf i=>by
   simp only [dr,hH',hH,hall _ (RF R) f (by simp [RF])];rfl
  have hheap:BP F hp Y w':=E.heap.less (λg i o' ho=>⟨o',by show dr hp' g i=some o';rw [hHh];exact ho,λ_ _ _ h=>h⟩) λg i o ho=>⟨o,by rw [<-hHh];exact ho,λt cs e=>⟨cs,e⟩⟩
  have hO:F.O Y hp'=F.O Y hp:=funext λb=>propext ⟨λh=>h.imp id λ⟨f,i,o,V,h2⟩=>⟨f,i,o,by rw [<-hHh];exact V,h2⟩,λh=>h.imp id λ⟨f,i,o,V,h2⟩=>⟨f,i,o,by rw [hHh];exact V,h2⟩⟩;refine h Y act' w' K ⟨E.size,hO▸E.defs,λt a ha=>?_,hheap⟩ hsz' hL';have V:=hE t a ha;have h2:=E.env t a (by show get env' t=some a;rw [hE',hall _ (RS R) t (by simp [RS])];exact V);rw [<-hO];exact h2
end
section
variable {P:Program} {F:Fr} {ops:Array Oper} {Q:Exit ->AS ->Prop}
def Dw (P:Program) (F:Fr) (ops:Array Oper) (pre:List (List Nat)) (lo:Nat) (rest:List Oper) (Q:Exit ->AS ->Prop) (s:AS):Prop:=Ee ops pre ->(∀k:Nat,rest[k]? =ops[lo+k]?) ->jR P F ops lo Q s
def R9 (P:Program) (F:Fr) (ops:Array Oper) (pre:List (List Nat)) (lo:Nat) (rest:List Oper) (Q:Exit ->AS ->Prop) (C:KU) (base:AS) (R:List Rc) (env:List (Nat×AV)) (hp:Hp):Prop:=Ee ops pre ->(∀k:Nat,rest[k]? =ops[lo+R.length+k]?) ->qg P F ops lo Q C base R env hp
theorem DB {id:Nat} {l:List Oper} {s:AS} (a:List (List Nat)) (f:P.follows .mixedOrders=true) (b:PX l a a l 0=true) (h:Dw P F l.toArray a 0 l Q s) (c:l.all (λo=>!Op.isDefer o.op)=true:=by rfl):Bl P F (.region id l.toArray true) Q s:=
 qV f (h (Uu (by simpa using b) (by simpa using c)) λk=>by simp)
variable {pre:List (List Nat)} {lo:Nat} {rest:List Oper} {s:AS} {o:Oper}
variable {a:List (Nat×AV)} {c:Hp} {f:Nat}
theorem Cr (h:Q .normal s):Dw P F ops pre lo [] Q s:=λt b f A w a g r y=>by
 have l:=b 0
 have v:ops.size<=lo:=by
  simp at l
  exact l
 have b:Region.ready .any ops a=[]:=by
  refine List.eq_nil_iff_forall_not_mem.2 λj x=>?_;obtain ⟨c,o,z,_⟩:=mem_ready.1 x;have u:j<ops.size:=(gr.1 z).1;have:=y j;rw [Υ (by omega)] at this;unfold Lf at this;rw [iy,gS (by omega)] at c this
  simp at c this
  rw [this] at c;cases c
 cases cnt (Lf a) ops.size with
 | zero=>exact ⟨b,s,f,h,g⟩
 | succ n=>exact ⟨λ_=>⟨s,f,h,g⟩,λi k=>by rw [b] at k;cases k⟩
theorem Ag (x:Nat) (y:Nat.beq (lo+1) x=true) (G:T6 pre (lo+(rest.length+1)) lo x=true) (h:A8 P F ops [o] (λe b=>e= .normal/\Dw P F ops pre x rest Q b) s):Dw P F ops pre lo (o::rest) Q s:=λf l=>by
 have g:=fx y;subst g;have E:ops[lo]? =some o:=by have:=l 0;simpa using this.symm
 have v:ops.size=lo+(rest.length+1):=by
  have j:=l (rest.length+1);have i:=l rest.length;have B:(o::rest)[rest.length]?≠none:=by simp
  rw [i] at B;have I:lo+rest.length<ops.size:=Nat.lt_of_not_le λc=>B (Array.getElem?_eq_none c);have H:ops[lo+(rest.length+1)]? =none:=by rw [<-j];simp
  have:=Array.getElem?_eq_none_iff.1 H;omega
 refine pt f E (by rw [v];exact G) (λC A w D=>?_)
 have t:∀(e:Exit) b,(e= .normal/\Dw P F ops pre (lo+1) rest Q b) ->(e= .normal/\jR P F ops (lo+1) Q b):=λe b ⟨j,i⟩=>⟨j,i f λk=>by
  have:=l (k+1);rw [List.getElem?_cons_succ] at this
  rw [this];congr 1;omega⟩
 have c:=h C A w D;unfold wpListIn at c⊢
 have z:∀e a w,Sj F (λe b=>e= .normal/\Dw P F ops pre (lo+1) rest Q b) e a w ->Sj F (λe b=>e= .normal/\jR P F ops (lo+1) Q b) e a w:=λe a w ⟨b,r,j,i⟩=>⟨b,r,t e b j,i⟩
 split
 .rename_i u
  rw [ϱ u] at c;exact En (λa w h=>z _ _ _ h) (λe a w _ h=>z e a w h) c
 .rename_i u
  rw [θ u] at c;exact ⟨c.1,z _ _ _ c.2⟩
theorem DP (h:R9 P F ops pre lo rest Q C0 ⟨f,a,c⟩ [] a c):Dw P F ops pre lo rest Q ⟨f,a,c⟩:=λb g=>dH (λ_=>trivial) (h b g)
abbrev C2 (f:Nat) (c1 c2:List AI):KU:=λg x=>g=f ->x=some c1\/x=some c2
theorem Yq (b:Nat) {j:List AI} (t:List AI) (r:eQ c b=some j) (h:R9 P F ops pre lo rest Q (C2 b j t) ⟨f,a,c⟩ [] a c):Dw P F ops pre lo rest Q ⟨f,a,c⟩:=λi k=>dH (λg l=>by subst l;exact .inl r) (h i k)
variable {C:KU} {base:AS} {R:List Rc} {env:List (Nat×AV)} {hp:Hp}
variable {a:List (Nat×AV)} {c:Nat ->Nat ->Bool} {f:Array Edge} {g:Option Tmp} {h:String} {i:AV} {j:TypeId} {k:Hp} {t:Op} {u:Nat} {w:Bool} {x:Rc} {y:Nat}
theorem uL (g:Nat) (k:Nat.beq (lo+(x::R).length) g=true) (y:T6 pre (g+rest.length) lo g=true) (f:Hu pre lo base.env base.hp (x::R)=true) (h:Dw P F ops pre g rest Q ⟨base.n,env,hp⟩):R9 P F ops pre lo rest Q C base (x::R) env hp:=λb j=>by
 have c:=fx k;subst c
 have a:ops.size<=lo+(x::R).length+rest.length:=by
  have G:=j rest.length;have D:ops[lo+(x::R).length+rest.length]? =none:=by rw [<-G];simp
  exact Array.getElem?_eq_none_iff.1 D
 intro B hV A z
 have w:lo+(x::R).length<=ops.size:=by
  obtain ⟨o,u,_⟩:=hV.2.1;have:=(gr.1 u).1;simp only [i3];omega
 have i:ops.size=lo+(x::R).length+rest.length:=by
  rcases hrl:rest with _ | ⟨o,r⟩
  .rw [hrl] at a;simp only [List.length_nil,gg] at a⊢;omega
  .have t:=j r.length;rw [hrl] at t a;have l:(o::r)[r.length]?≠none:=by simp
   rw [t] at l;have E:lo+(x::R).length+r.length<ops.size:=Nat.lt_of_not_le λv=>l (Array.getElem?_eq_none v);simp only [i3] at a E⊢;omega
 exact dI b (gh _) (by rw [i];exact y) f (h b j) B hV A z
theorem A5 (b:AA P F ⟨g,t,j,h,f,none⟩ s y i):Ik P F ops ⟨g,t,j,h,f,none⟩ s y i:=by
 refine ⟨IB b.1,λu l w c=>?_⟩;unfold HF;rw [ϱ (by simp [Region.wanted])];refine mK ?_ (b.2.2 u l w c);rintro r D ⟨v,B,A,k,z,x⟩;exact ⟨v,B,A,⟨k.os.trans c.heap.os.symm,k.tape.trans c.heap.tape.symm,k.output.trans c.heap.output.symm,k.drawn⟩,z,x⟩
theorem Yk {f:Nat ->Nat ->Value} {b:Act} {a:World} (h:SR F s f b a) {j t:Nat} (i:(ops[j]?).bind (·.dst)=some t) (g:get s.env t=some (.d (.raw (.bool w)))):yielded ops b.tmps j=some w:=by
 have c:=h.env t _ g;unfold yielded;rw [i]
 cases c with
 | d c=>
  generalize k:b.tmps.getD t undef=v at c
  cases c with
  | raw _=>
   simp only [i7];rw [iy] at k
   grind [undef]
theorem FK {l k:Nat} {b:Bool} (E:(ops[l]?).bind (·.dst)=some k) (D:get s.env k=some (.d (.raw (.bool w)))) (G:w=b) (r:AA P F ⟨g,t,j,h,f,some (l,b)⟩ s y i):Ik P F ops ⟨g,t,j,h,f,some (l,b)⟩ s y i:=by
 refine ⟨IB r.1,λB z c u=>?_⟩;unfold HF;rw [ϱ (by simp [Region.wanted,Yk u E D,G])];refine mK ?_ (r.2.2 B z c u);rintro A L ⟨v,K,J,x,I,H⟩;exact ⟨v,K,J,⟨x.os.trans u.heap.os.symm,x.tape.trans u.heap.tape.symm,x.output.trans u.heap.output.symm,x.drawn⟩,I,H⟩
theorem Fs {b:AS} (a:AH P F ⟨g,t,j,h,f,none⟩ s b c):eL P F ops ⟨g,t,j,h,f,none⟩ s b c:=by grind [HF,Region.wanted,mK,n8,AH,eL]
theorem Kp {lo:Nat} {R:List Rc} {rc:Rc} (a:∀k:Nat,(o::rest)[k]? =ops[lo+R.length+k]?):ops[lo+R.length]? =some o/\∀k:Nat,rest[k]? =ops[lo+(rc::R).length+k]?:=by
 refine ⟨by have:=a 0;simpa using this.symm,λk=>?_⟩;have:=a (k+1)
 grind
def fp (rd nm:List Nat) (d:Nat) (a:AV):Rc:=⟨rd,[(d,some a)],nm,[],false,λ_ _=>true⟩
theorem CK (rd b:List Nat) (B:pick env rd=some a) (D:BQ hp b=some k) (h:∀F,Ik P F ops o ⟨base.n,a,k⟩ u i) (H:R9 P F ops pre lo rest Q C base (fp rd b u i::R) ((u,i)::env) hp):R9 P F ops pre lo (o::rest) Q C base R env hp:=λr z I hV y w=>by
 obtain ⟨A,j⟩:=Kp (rc:=fp rd b u i) z;refine H r j I ⟨hV,⟨o,A,IC.pure B D y w h⟩,λf E=>absurd Z E,λf c G=>by cases G⟩ (λt x g=>?_) λf=>?_
 .show FR _ _ (RS (fp rd b u i::R)) t=_;simp only [RS,gA,FR,fp,BW];rcases LR g with ⟨rfl,rfl⟩ | ⟨v,g⟩
  .simp
  .rw [HV v];exact y t x g
 .show _=FR _ _ (RF (fp rd b u i::R)) f;simp only [RF,gA,FR,fp,BW];exact w f
theorem I0 (rd b:List Nat) {f:Nat} {y w:List AI} (E:pick env rd=some a) (G:BQ hp b=some k) (v:ed f b=false) (L:∀F,Ik P F ops o ⟨base.n,a,(f,y)::k⟩ u i) (K:∀F,Ik P F ops o ⟨base.n,a,(f,w)::k⟩ u i) (I:R9 P F ops pre lo rest Q (C2 f y w) base (fp rd b u i::R) ((u,i)::env) hp):R9 P F ops pre lo (o::rest) Q (C2 f y w) base R env hp:=λj B J hV A z=>by
 obtain ⟨D,h⟩:=Kp (rc:=fp rd b u i) B;refine I j h J ⟨hV,⟨o,D,IC.pure2 E G v A z (λx g=>g Z) L K⟩,λf v=>absurd Z v,λf c H=>by cases H⟩ (λt x g=>?_) λf=>?_
 .show FR _ _ (RS (fp rd b u i::R)) t=_;simp only [RS,gA,FR,fp,BW];rcases LR g with ⟨rfl,rfl⟩ | ⟨r,g⟩
  .simp
  .rw [HV r];exact A t x g
 .show _=FR _ _ (RF (fp rd b u i::R)) f;simp only [RF,gA,FR,fp,BW];exact z f
theorem Az (rd:List Nat) (b:pick env rd=some a) (c:BQ hp (gW base.hp)=some k) (h:∀F,Ik P F ops o ⟨base.n,a,k⟩ u i) (f:R9 P F ops pre lo rest Q C base (fp rd (gW base.hp) u i::R) ((u,i)::env) hp):R9 P F ops pre lo (o::rest) Q C base R env hp:=CK rd _ b c h f
def iQ (rd nm:List Nat) (dv:List (Nat×AV)) (p:Nat ->Nat ->Bool) (env:List (Nat×AV)) (hs':Hp) (xs:List Nat):Rc:=⟨rd,X4 (fk dv nm p env xs),nm,Od hs' nm,true,NH nm p⟩
theorem qA (M:List Nat) (rd z:List Nat) (I:List (Nat×AV)) {l' H:List (Nat×AV)} {u E N:Hp} (hl:pick env rd=some a) (hh:BQ hp z=some k) (h:∀F,eL P F ops o ⟨base.n,a,k⟩ ⟨base.n,l',u⟩ c)
  (V:(I=[]/\o.dst=none)\/∃d j,I=[(d,j)]/\o.dst=some d/\Nat.blt d base.n=true/\get l' d=some j/\j.ok (I7 z)=true) (n1:AP z u=true) (n2:FJ z u=true)
  (X:B8 (NH z c) env=some H) (w:CE z hp=some E) (K:some (u++E)=some N) (hK:R9 P F ops pre lo rest Q C base (iQ rd z I c env u M::R) (I++H) N) (Y:∀f i,BW (Od u z) f=some i ->C f i:=by intro _ _ _;trivial):R9 P F ops pre lo (o::rest) Q C base R env hp:=λT hr hC hV O W=>by
 injection K with K
 subst K;obtain ⟨ho,D⟩:=Kp (rc:=iQ rd z I c env u M) hr
 have A:∀f,eQ E f=if f∈z then none else eQ hp f:=by
  clear hK W O hr D hh
  intro f
  induction hp generalizing E with
  | nil=>simp only [CE,Option.some.injEq] at w;subst w;simp [eQ]
  | cons q r ih=>
   obtain ⟨g,x⟩:=q;simp only [CE] at w
   split at w
   .cases w
   .rename_i r' D
    have J:=ih D
    split at w<;>(injection w with w;subst w)
    .rename_i B
     by_cases e:g=f
     .subst e;rw [J,ϱ (Fd.1 B),ϱ (Fd.1 B)]
     .simp only [eQ,HV e];exact J
    .rename_i B
     by_cases e:g=f
     .subst e;have:g∉z:=λh=>by rw [Fd.2 h] at B;cases B
      simp [eQ,this]
     .simp only [eQ,HV e];exact J
 refine hK T D hC ⟨hV,⟨o,ho,IC.eff hl hh O W h V n1 n2⟩,λf U=>?_,Y⟩ (λt x v=>?_) λf=>?_
 .have L:BW (Od u z) f≠none:=U;rw [IP] at L
  by_cases B:f∈z
  .exact B
  .rw [θ B] at L;exact absurd Z L
 .show FR _ _ (RS (iQ rd z I c env u M::R)) t=_;simp only [RS,gA,FR,iQ];rw [KX,fk,IX];rw [IX] at v
  cases hd:get I t with
  | some y=>rw [hd] at v;simp at v;subst v;simp
  | none=>
   rw [hd] at v;simp only [Option.none_or] at v⊢;rw [VO X] at v;rw [Jk];have B:ed t []=false:=rfl;rw [B]
   cases hg:get env t with
   | none=>rw [hg] at v;cases v
   | some b=>
    rw [hg] at v;simp only [gs,Option.some.injEq] at v
    by_cases G:b= .top
    .subst G
     have S:x= .top:=by
      cases hq:AV.top.ok (NH z c)<;>(rw [hq] at v;exact v.symm)
     subst S
     cases hm2:ed t M with
     | true=>
      simp only [AV.okK,Bool.not_true,gs,Option.getD_some]
     | false=>
      simp only [AV.okK,Bool.not_false,jA,Option.getD_none];exact O t _ hg
    simp only [AV.okK_eq G]
    cases hb:b.ok (NH z c) with
    | true=>
     rw [hb] at v;simp only at v;subst v;simp only [jA,Option.getD_none];exact O t b hg
    | false=>
     rw [hb] at v;simp only at v;subst v;simp only [gs,Option.getD_some]
 .show _=FR _ _ (RF (iQ rd z I c env u M::R)) f;simp only [RF,gA,FR,iQ];rw [TD n1 f (λU=>by rw [A,ϱ U]),IP,A]
  split
  .simp
  .simp only [Option.getD_none];exact W f
theorem Fp (rd j:List Nat) (v:List (Nat×AV)) {A r:List (Nat×AV)} {i t u:Hp} (E:pick env rd=some a) (G:BQ hp j=some k) (h:∀F,eL P F ops o ⟨base.n,a,k⟩ ⟨base.n,A,i⟩ c)
  (y:(v=[]/\o.dst=none)\/∃d g,v=[(d,g)]/\o.dst=some d/\Nat.blt d base.n=true/\get A d=some g/\g.ok (I7 j)=true) (D:AP j i=true) (B:FJ j i=true)
  (z:B8 (NH j c) env=some r) (w:CE j hp=some t) (x:some (i++t)=some u) (H:R9 P F ops pre lo rest Q C base (iQ rd j v c env i []::R) (v++r) u) (hCn:∀f b,BW (Od i j) f=some b ->C f b:=by intro _ _ _;trivial):R9 P F ops pre lo (o::rest) Q C base R env hp:=qA [] rd j v E G h y D B z w x H hCn
theorem Cg (c:Nat) {n:Nat} {a:List (Nat×AV)} {b:Hp} (g:Nat.beq (lo+(x::R).length) c=true) (i:T6 pre (c+rest.length) lo c=true) (f:Hu pre lo a b (x::R)=true) (h:Dw P F ops pre c rest Q ⟨n,env,hp⟩):R9 P F ops pre lo rest Q C ⟨n,a,b⟩ (x::R) env hp:=uL c g i f h
end
abbrev rg (n:Nat):List Nat:=List.range n
section
variable {P:Program} {ops:Array Oper} {Q:Exit ->AS ->Prop} {F:Fr} {pre:List (List Nat)} {lo:Nat} {rest:List Oper} {C:KU} {base:AS} {R:List Rc} {env:List (Nat×AV)} {hp:Hp}
variable {a:Array Edge} {c:String} {f:TypeId} {g:Nat} {h:AV}
theorem AQ (rd:List Nat) {l:List (Nat×AV)} {j:Option Tmp} {i:Op} (k:pick env rd=some l) (b:∀{F},AA P F ⟨j,i,f,c,a,none⟩ ⟨base.n,l,[]⟩ g h) (o:R9 P F ops pre lo rest Q C base (fp rd [] g h::R) ((g,h)::env) hp):
  R9 P F ops pre lo (⟨j,i,f,c,a,none⟩::rest) Q C base R env hp:=CK rd [] k Z (λ_=>A5 b) o
theorem Av (t:Nat) (b:get env t=some h) (i:Nat.blt g base.n=true) (j:R9 P F ops pre lo rest Q C base (fp [t] [] g h::R) ((g,h)::env) hp):
  R9 P F ops pre lo (⟨some g,.move (.tmp t),f,c,a,none⟩::rest) Q C base R env hp:=
 AQ [t] (l:=[(t,h)]) (by simp [pick,b]) (JT (by simp [AS.ev,get]) i) j
end
theorem Bl.code {P:Program} {F:Fr} {Q:Exit ->AS ->Prop} {s:AS} {c a:Code} (e:c=a) (h:Bl P F a Q s):Bl P F c Q s:=e▸h
end Go.Proofs.YteifpcnphnhaoaaGreat
