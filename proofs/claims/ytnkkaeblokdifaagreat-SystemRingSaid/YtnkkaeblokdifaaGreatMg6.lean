import Derived.Test.YtnkkaeblokdifaaGreatMg5
import Derived.Orders
namespace Go.Proofs.YtnkkaeblokdifaaGreat
open Go.RowKit
variable {a:Nat ->Nat ->Bool} {c:Type} {f:List (Nat×AV)} {t:Nat} {R:List (List (Nat×c))} {g:List (Nat×Option (List AJ))} {h:Nat ->c} {i:List (List Nat)} {j:Type} {k:List (Nat×Option AV)} {o:Hp} {s:List (Nat×c)} {u:List j} {w:List AJ} {K:Act ->World ->Prop} {x:Nat} {y:World} {z A:Nat} {P:Program} {C F:j} {G:Nat} {H:Oper} {I:Nat ->Bool} {L:Act} {M:AV} {N:AJ} {S:Nat}
def BT {α:Type}:List (Nat×α) ->Nat ->Option α
 | [],_=>none
 | (k,a)::r,t=>match Nat.beq k t with
  | true=>some a
  | false=>BT r t
def FO {α:Type} (base:Nat ->α) (L:Nat ->Bool):List (List (Nat×α)) ->Nat ->α
 | [],t=>base t
 | ws::r,t=>match L r.length with
  | true=>(BT ws t).getD (FO base L r t)
  | false=>FO base L r t
theorem HX (h:u.reverse[z]? =some C):(F::u).reverse[z]? =some C:=by grind
theorem LF:(F::u).reverse[u.length]? =some F:=by simp
theorem dd (h:(F::u).reverse[z]? =some C):u.reverse[z]? =some C\/(z=u.length/\C=F):=by grind
theorem KU {r:List j} (h:r.reverse[z]? =some C):z<r.length:=by grind
theorem Fp {L:Nat ->Bool} (a:∀k b,R.reverse[k]? =some b ->BT b t≠none ->L k=I k):FO h L R t=FO h I R t:=by
 induction R with
 | nil=>rfl
 | cons b r g=>
  have f:=g λk b j i=>a k b (HX j) i;simp only [FO]
  grind
theorem MN {A a:List (List (Nat×c))}:FO h (λk=>decide (k<a.length)) (A++a) t=FO h (λ_=>true) a t:=by
 induction A with
 | nil=>exact Fp λk f b _=>by have:=KU (r:=a) b;simp [this]
 | cons x r g=>
  grind [FO]
theorem eM {base:Nat ->c} {L:Nat ->Bool} {R:List (List (Nat×c))} {t:Nat}:(FO base L R t=base t/\∀k b,R.reverse[k]? =some b ->BT b t≠none ->L k=false)\/∃k b,R.reverse[k]? =some b/\L k=true/\BT b t=some (FO base L R t):=by
 induction R with
 | nil=>exact .inl ⟨Z,λk b h=>by simp at h⟩
 | cons b r o=>
  cases hL:L r.length with
  | false=>
   grind [FO]
  | true=>
   cases hw:BT b t with
   | some a=>
    have e:FO base L (b::r) t=a:=by simp only [FO,hL,hw,Option.getD_some]
    exact .inr ⟨r.length,b,LF,hL,by rw [e];exact hw⟩
   | none=>
    have e:FO base L (b::r) t=FO base L r t:=by simp only [FO,hL,hw,Option.getD_none]
    rw [e];rcases o with ⟨j,i⟩ | ⟨k,f,j,i,s⟩
    .refine .inl ⟨j,λk f g l=>?_⟩;rcases dd g with g | ⟨rfl,rfl⟩
     .exact i k f g l
     .exact absurd hw l
    .exact .inr ⟨k,f,HX j,i,s⟩
theorem MM {L:Nat ->Bool} {i:Nat} {ws:List (Nat×c)} (v:R.reverse[i]? =some ws) (y:L i=false) (l:∀k,I k=if k=i then true else L k)
  (g:BT ws t≠none ->∀k f,R.reverse[k]? =some f ->i<k ->L k=true ->BT f t=none):FO h I R t=(BT ws t).getD (FO h L R t):=by
 induction R with
 | nil=>simp at v
 | cons x r w=>
  rcases dd v with j | ⟨rfl,rfl⟩
  .have s:r.length≠i:=by have:=KU j;omega
   have b:=w j λo k f u=>g o k f (HX u);simp only [FO,l,η s]
   cases hLr:L r.length with
   | false=>exact b
   | true=>
    cases o:BT ws t with
    | none=>rw [o] at b;simp only [Option.getD_none] at b⊢;rw [b]
    | some a=>
     rw [g (by rw [o];simp) r.length x LF (KU j) hLr];rw [o] at b
     simpa using b
  .simp only [FO,l,if_true,y]
   congr 1
   refine Fp λk f u _=>?_;rw [l,η (by have:=KU u;omega)]
structure Rc where
 rd:List Nat
 ws:List (Nat×Option AV)
 nm:List Nat
 fs:List (Nat×Option (List AJ))
 eff:Bool
 ok:Nat ->Nat ->Bool
def GK {α:Type} (ws:List (Nat×α)):List Nat ->Bool
 | []=>true
 | t::r=>(match BT ws t with
  | none=>true
  | some _=>false) && GK ws r
theorem Di {l:List Nat} (h:GK s l=true) {t:Nat} (b:t∈l):BT s t=none:=by
 induction l with
 | nil=>cases b
 | cons a r f=>
  grind [GK]
def Mq {α:Type}:List (Nat×α) ->List Nat
 | []=> []
 | (k,_)::r=>k::Mq r
theorem SI (h:BT s t≠none):t∈Mq s:=by
 induction s with
 | nil=>exact absurd Z h
 | cons p r a=>
  grind [BT,Υ,Mq]
def sW (p:Nat ->Nat ->Bool):AJ ->Bool
 | .blk _ cs=>og p cs
 | .row _ _ xs=>xs.all λx=>XR p x.cells
 | .rowD _ _ _=>true
 | .loop L=>LI p L.env
 | .map _ _=>true
 | .iter f i _ _=>p f i
 | .addr f i _=>p f i
 | .any=>true
 | .nb _ _ _=>true
 | .nr _ _ _ _ _=>true
 | .nm _ _ _=>true
 | .itz=>true
 | .multi _=>true
def Rs (p:Nat ->Nat ->Bool):List AJ ->Bool
 | []=>true
 | o::r=>sW p o && Rs p r
theorem Zz (h:sW a N=true) (g:N.Refs G A):a G A=true:=by
 cases N with
 | blk t B=>obtain ⟨c,j,g⟩:=g;exact Mf h j g
 | row t k s=>obtain ⟨x,v,c,j,g⟩:=g;exact Ew (gX.1 h x v) j g
 | rowD t k s=>exact g.elim
 | loop L=>obtain ⟨t,b,w,g⟩:=g;exact Me h w g
 | map _ z=>exact g.elim
 | iter y u _ _=>obtain ⟨r,l⟩:=g;subst r l;exact h
 | addr y u _=>obtain ⟨r,l⟩:=g;subst r l;exact h
 | any=>exact g.elim
 | nb _ _ _=>exact g.elim
 | nr _ _ _ _ _=>exact g.elim
 | nm _ _ _=>exact g.elim
 | itz=>exact g.elim
 | multi _=>exact g.elim
theorem XQ (h:Rs a w=true) (c:N∈w) (j:N.Refs G A):a G A=true:=by
 induction w with
 | nil=>cases c
 | cons b r g=>
  grind [Rs,Zz]
def US (p:Nat ->Nat ->Bool) (ex:List (Nat×Option AV)):List (Nat×Option AV) ->Bool
 | []=>true
 | (t,a)::r=>(match BT ex t with
  | some _=>true
  | none=>match a with
   | none=>true
   | some a=>a.ok p) && US p ex r
theorem Oy {f:List (Nat×Option AV)} (h:US a k f=true) (g:BT f t=some (some M)) (j:BT k t=none):M.ok a=true:=by
 induction f with
 | nil=>cases g
 | cons q r i=>
  obtain ⟨c,b⟩:=q;simp only [US,eA] at h
  grind [BT,Υ]
def UT (p:Nat ->Nat ->Bool) (ex:List (Nat×Option (List AJ))):List (Nat×Option (List AJ)) ->Bool
 | []=>true
 | (t,a)::r=>(match BT ex t with
  | some _=>true
  | none=>match a with
   | none=>true
   | some l=>Rs p l) && UT p ex r
theorem Oz {c:List (Nat×Option (List AJ))} (h:UT a g c=true) (f:BT c t=some (some w)) (j:BT g t=none):Rs a w=true:=by
 induction c with
 | nil=>cases f
 | cons q r i=>
  obtain ⟨k,b⟩:=q;simp only [UT,eA] at h
  grind [BT,Υ]
def qQ (p:Nat ->Nat ->Bool) (ex:List (Nat×Option AV)):List Nat ->List (Nat×AV) ->Bool
 | _,[]=>true
 | ks,(t,a)::r=>(match dB t ks with
  | true=>true
  | false=>match BT ex t with
   | some _=>true
   | none=>a.ok p) && qQ p ex (t::ks) r
theorem aB {g:List Nat} (h:qQ a k g f=true) (i:get f t=some M) (l:t∉g) (s:BT k t=none):M.ok a=true:=by
 induction f generalizing g with
 | nil=>cases i
 | cons q r o=>
  obtain ⟨c,b⟩:=q;simp only [qQ,eA] at h;rcases Ky i with ⟨rfl,rfl⟩ | ⟨j,i⟩
  .have:dB c g=false:=by
    cases hm:dB c g with
    | false=>rfl
    | true=>exact absurd (Fl.1 hm) l
   grind
  grind
def qP (p:Nat ->Nat ->Bool) (ex:List (Nat×Option (List AJ))):Hp ->Bool
 | []=>true
 | (f,l)::r=>(match BT ex f with
  | some _=>true
  | none=>Rs p l) && qP p ex r
theorem aA (h:qP a g o=true) (b:cu o G=some w) (i:BT g G=none):Rs a w=true:=by
 induction o with
 | nil=>cases b
 | cons q r c=>
  grind [qP,cu,Υ]
def Ma (ord:Bool) (rj ri:Rc):Bool:=
 (ord || (GK rj.ws ri.rd &&(GK rj.ws (Mq ri.ws) &&(GK ri.ws rj.rd &&(GK rj.fs ri.nm && GK ri.fs rj.nm))))) &&
 ((!ri.eff || (US ri.ok ri.ws rj.ws && UT ri.ok ri.fs rj.fs)) &&(ord || (!rj.eff || (US rj.ok rj.ws ri.ws && UT rj.ok rj.fs ri.fs))))
def dM:List (List Nat) ->Nat ->List Nat
 | [],_=> []
 | l::_,0=>l
 | _::r,i+1=>dM r i
def Lu (pr:List Nat) (lo:Nat) (ri:Rc):List Rc ->Bool
 | []=>true
 | rj::r=>Ma (dB (lo+r.length) pr) rj ri && Lu pr lo ri r
def Hk (pre:List (List Nat)) (lo:Nat) (env:List (Nat×AV)) (hp:Hp):List Rc ->Bool
 | []=>true
 | ri::r=>Lu (dM pre (lo+r.length)) lo ri r &&((!ri.eff || (qQ ri.ok ri.ws [] env && qP ri.ok ri.fs hp)) && Hk pre lo env hp r)
variable {E Q:Rc}
theorem Qf {b:List Nat} {r:List Rc} (h:Lu b x E r=true) (c:r.reverse[S]? =some Q):Ma (dB (x+S) b) Q E=true:=by
 induction r with
 | nil=>simp at c
 | cons a r f=>
  grind [Lu]
variable {B:List Rc}
theorem Fa (h:Hk i x f o B=true) (c:B.reverse[A]? =some E) (k:B.reverse[S]? =some Q) (b:S<A):Ma (dB (x+S) (dM i (x+A))) Q E=true:=by
 induction B with
 | nil=>simp at c
 | cons a r g=>
  grind [Hk,dd,Qf]
theorem LS (h:Hk i x f o B=true) (b:B.reverse[A]? =some E) (g:E.eff=true):qQ E.ok E.ws [] f=true/\qP E.ok E.fs o=true:=by
 induction B with
 | nil=>simp at b
 | cons a r c=>
  grind [Hk]
def Ou (ops:List Oper) (pre:List (List Nat)):List (List Nat) ->List Oper ->Nat ->Bool
 | [],[],_=>true
 | l::ls,o::os,i=>(l.all λx=>o.after.toList.any λe=>Region.binds .any e &&(Nat.beq e.on x || dB x (dM pre e.on))) &&((o.after.toList.all λe=>!Region.binds .any e || Nat.blt e.on i) && Ou ops pre ls os (i+1))
 | _,_,_=>false
def Gt (P:Program) (ops:Array Oper) (o:Oper) (K:Act ->World ->Prop) (a:Act) (w:World):Prop:=
 if Region.wanted o (yielded ops a.tmps) then o.wp P a w K (λ_ _ _=>False) else K (a.put o.dst undef) w
theorem GO {b:Array Oper} {c:Act ->World ->Prop} (f:∀L y,K L y ->c L y) (h:Gt P b H K L y):Gt P b H c L y:=by grind [Gt,hQ]
theorem mL (h:H.wp P L y K (λ_ _ _=>False)):H.wp P L y (λc g=>K c g/\∃v,c.tmps=(L.put H.dst v).tmps) (λ_ _ _=>False):=by
 unfold Oper.wp at h⊢
 generalize (execOp L.eval H).run P y=r at h
 cases r with
 | ok x y=>
  cases x with
  | value v=>exact ⟨h,v,Z⟩
  | skip=>exact ⟨h,_,Z⟩
  | defer d=>
   refine ⟨h,undef,?_⟩
   cases H.dst<;>rfl
  | enter f b=>
   grind [Oper.upon_enter]
  | row r b=>
   grind [Oper.upon_row]
  | _=>exact h.elim
 | halt x y=>
  cases x<;>exact h.elim
abbrev KF:=Nat ->Option (List AJ) ->Prop
abbrev C0:KF:=λ_ _=>True
def Hs (P:Program) (ops:Array Oper) (n:Nat) (o:Oper) (rc:Rc) (C:KF) (eJ:Nat ->Option AV) (eL:Nat ->Option (List AJ)):Prop:=
 ∀F ρ act w env hp,SR F ⟨n,env,hp⟩ ρ act w ->(∀f,C f (cu hp f)) ->(∀t∈rc.rd,get env t=eJ t) ->(∀f∈rc.nm,cu hp f=eL f)→
  (rc.eff=true ->∀t a,get env t=some a ->BT rc.ws t=none ->a.ok rc.ok=true) ->(rc.eff=true ->∀f l,cu hp f=some l ->BT rc.fs f=none ->Rs rc.ok l=true)→
  Gt P ops o (λact' w'=>∃ρ' env' hp',SR F ⟨n,env',hp'⟩ ρ' act' w'/\(∀t,get env' t=(BT rc.ws t).getD (get env t))/\∀f,cu hp' f=(BT rc.fs f).getD (cu hp f)) act w
def If (P:Program) (F:Fr) (ops:Array Oper) (o:Oper) (s:AS) (d:Nat) (a:AV):Prop:=d<s.n/\∀ρ act w,SR F s ρ act w→
 Gt P ops o (λact' w'=>∃v,act'=act.put (some d) v/\AU w' (F.O ρ s.hp) ρ a v/\(w'.os=w.os/\w'.tape=w.tape/\w'.output=w.output/\F.w0.drawn<=w'.drawn)/\w.heap.size<=w'.heap.size/\∀b,b<w.heap.size ->w'.heap[b]? =w.heap[b]?) act w
def cn (P:Program) (F:Fr) (ops:Array Oper) (o:Oper) (s s':AS) (p:Nat ->Nat ->Bool):Prop:=∀ρ act w,SR F s ρ act w→
 Gt P ops o (λact' w'=>∃ρ',SR F s' ρ' act' w'/\(∃v,act'.tmps=(act.put o.dst v).tmps)/\∀f i,p f i=true ->ρ' f i=ρ f i) act w
theorem BR.stay {F:Fr} {r:Nat ->Nat ->Value} {g:World} (h:BR F o r y) (j:g.os=y.os/\g.tape=y.tape/\g.output=y.output/\F.w0.drawn<=g.drawn) (l:y.heap.size<=g.heap.size) (k:∀b,b<y.heap.size ->g.heap[b]? =y.heap[b]?):BR F o r g:=by
 refine ⟨λf i a j=>?_,h.inj,λb k=>⟨fu (h.mine b k).1 l,(h.mine b k).2⟩,j.1.trans h.os,j.2.1.trans h.tape,j.2.2.1.trans h.output,dh h.size0 l,λb c t=>?_,h.pins,j.2.2.2⟩
 .exact (h.sim f i a j).mono l (λb c _=>k b c) (λ_ _ h=>h) (λb s=>k b (h.mine b ⟨f,i,a,j,s⟩).1) λ_ _ _=>rfl
 .rw [k b (fu c h.size0)];exact h.keep b c t
theorem Im {b:Hp} {c:List Nat} (h:BN o c=some b):AP c b=true/\∀g,g∈c ->cu b g=cu o g:=by
 have i:∀(c:List Nat) (b:Hp),BN o c=some b ->(∀g l,(g,l)∈b ->g∈c)/\∀g,g∈c ->cu b g=cu o g:=by
  intro c
  induction c with
  | nil=>intro b h;simp only [BN,Option.some.injEq] at h;subst h;exact ⟨(λg l h=>by cases h),(λg h=>by cases h)⟩
  | cons a r j=>
   intro b h;simp only [BN] at h
   split at h
   .cases h
   .rename_i l v
    obtain ⟨s,t⟩:=j l v
    split at h
    .rename_i u
     injection h with h;subst h
     refine ⟨λg x f=>er _ (s g x f),λg f=>?_⟩;rcases di.1 f with rfl | f
     .by_cases w:g∈r
      .grind
      .rw [u]
       cases hh:cu l g with
       | none=>rfl
       | some x=>
        have:∀(l:Hp) x,cu l g=some x ->∃y,(g,y)∈l:=by
         intro l
         induction l with
         | nil=>intro x h;cases h
         | cons p q j=>
          grind [cu,Υ]
        grind
     grind
    grind [cu,Υ,fg]
 obtain ⟨s,t⟩:=i c b h;refine ⟨?_,t⟩
 clear h t i
 induction b with
 | nil=>rfl
 | cons p r j=>
  obtain ⟨k,l⟩:=p;simp only [AP,eA];exact ⟨Fl.2 (s k l eI),j λg l f=>s g l (er _ f)⟩
theorem Ef {hp CH:Hp} {nm:List Nat} (h:∀g,g∈nm ->cu hp g=cu CH g):Bo hp CH nm:=by
 induction nm with
 | nil=>trivial
 | cons a r b=>exact ⟨h a eI,b λg c=>h g (er _ c)⟩
theorem M9 {b:List (Nat×AV)} {rd:List Nat} {l:List (Nat×AV)} (c:pick b rd=some l):∀t a,get l t=some a ->t∈rd/\get b t=some a:=by
 induction rd generalizing l with
 | nil=>intro t a f;simp only [pick,Option.some.injEq] at c;subst c;cases f
 | cons x r g=>
  intro t a f;simp only [pick] at c
  grind [Ky,get]
section
variable {P:Program} {ops:Array Oper} {n:Nat} {o:Oper}
variable {a:List Nat} {c f:Nat ->Nat ->Bool} {g i:List (Nat×AV)} {j:AV} {C:KF} {k s t:Hp} {u w:Nat}
theorem Hs.pure {rd J:List Nat} {l i:List (Nat×AV)} {u y:Hp} {d:Nat} {a:AV} {eJ:Nat ->Option AV} {eL:Nat ->Option (List AJ)} (T:pick i rd=some l) (U:BN y J=some u)
  (V:∀t a,get i t=some a ->eJ t=some a) (W:∀f,cu y f=eL f) {C:KF} (h:∀F,If P F ops o ⟨n,l,u⟩ d a):Hs P ops n o ⟨rd,[(d,some a)],J,[],false,λ_ _=>true⟩ C eJ eL:=by
 intro F r B w k E c _ Y X _ _;obtain ⟨S,R⟩:=Im U;obtain ⟨A,Q,I⟩:=GD F.lo c.heap J (Ef λg N=>by rw [X g N,<-W,R g N]) S;have z:=M9 T
 have L:SR (B8 F F.lo E u r w A) ⟨n,l,u⟩ r B w:=by
  refine ⟨c.size,I▸c.defs,λt x K=>?_,Q⟩;obtain ⟨e1,e2⟩:=z t x K;rw [I];exact c.env t x (by show get k t=some x;rw [Y t e1];exact V t x e2)
 obtain ⟨g0,Z⟩:=h (B8 F F.lo E u r w A);refine GO ?_ (Z r B w L);rintro O w' ⟨v,rfl,M,D,H,G⟩;refine ⟨r,(d,a)::k,E,SR.put (s:=⟨n,k,E⟩) ⟨c.size,c.defs.mono H (λb j _=>G b j) (λ_ _ h=>h),λt x K=>(c.env t x K).mono H (λb j _=>G b j) (λ_ _ h=>h) (λ_ _ _=>rfl),c.heap.stay ⟨D.1,D.2.1,D.2.2.1,dh c.heap.drawn D.2.2.2⟩ H G⟩ g0 (by rw [I] at M;exact M),λt=>?_,λf=>rfl⟩;simp only [BT,get]
 grind
theorem Hs.pure2 {rd j:List Nat} {l y:List (Nat×AV)} {k I:Hp} {d f:Nat} {c1 c2:List AJ} {a:AV} {eJ:Nat ->Option AV} {eL:Nat ->Option (List AJ)} (hl:pick y rd=some l) (hh:BN I j=some k) (hf:dB f j=false)
  (hS:∀t a,get y t=some a ->eJ t=some a) (hF:∀f,cu I f=eL f) {C:KF} (hC:∀x,C f x ->x=some c1\/x=some c2) (h1:∀F,If P F ops o ⟨n,l,(f,c1)::k⟩ d a) (h2:∀F,If P F ops o ⟨n,l,(f,c2)::k⟩ d a):Hs P ops n o ⟨rd,[(d,some a)],j,[],false,λ_ _=>true⟩ C eJ eL:=by
 intro F G E w u B i hCf g1 g2 g3 g4;obtain ⟨p1,p2⟩:=Im hh;have hfn:f∉j:=λhm=>by rw [Fl.2 hm] at hf;cases hf
 have S:∀c,cu B f=some c ->(∀F,If P F ops o ⟨n,l,(f,c)::k⟩ d a) ->Gt P ops o (λA X=>∃N z J,SR F ⟨n,z,J⟩ N A X/\(∀t,get z t=(BT [(d,some a)] t).getD (get u t))/\∀f,cu J f=(BT ([]:List (Nat×Option (List AJ))) f).getD (cu B f)) E w:=λc hc h=>by
  have W:Bo B ((f,c)::k) (f::j):=Ef λg Z=>by
   rcases di.1 Z with rfl | Z
   .simp [cu,hc]
   grind [cu,HK]
  have V:AP (f::j) ((f,c)::k)=true:=by
   simp only [AP,eA];refine ⟨Fl.2 eI,?_⟩
   have S:∀(H:Hp),AP j H=true ->AP (f::j) H=true:=by
    intro H
    induction H with
    | nil=>intro _;rfl
    | cons p r ih=>
     grind [AP,dB]
   grind
  obtain ⟨L,q1,R⟩:=GD F.lo i.heap (f::j) W V;have K:=M9 hl
  have U:SR (B8 F F.lo B ((f,c)::k) G w L) ⟨n,l,(f,c)::k⟩ G E w:=by
   refine ⟨i.size,R▸i.defs,λt x T=>?_,q1⟩;obtain ⟨e1,e2⟩:=K t x T;rw [R];exact i.env t x (by show get u t=some x;rw [g1 t e1];exact hS t x e2)
  obtain ⟨k0,k1⟩:=h (B8 F F.lo B ((f,c)::k) G w L);refine GO ?_ (k1 G E w U);rintro A X ⟨v,rfl,Y,M,Q,O⟩;refine ⟨G,(d,a)::u,B,SR.put (s:=⟨n,u,B⟩) ⟨i.size,i.defs.mono Q (λb D _=>O b D) (λ_ _ h=>h),λt x T=>(i.env t x T).mono Q (λb D _=>O b D) (λ_ _ h=>h) (λ_ _ _=>rfl),i.heap.stay ⟨M.1,M.2.1,M.2.2.1,dh i.heap.drawn M.2.2.2⟩ Q O⟩ k0 (by rw [R] at Y;exact Y),λt=>?_,λf=>rfl⟩;simp only [BT,get]
  grind
 grind
def AV.okK (ok:Nat ->Nat ->Bool) (b:Bool):AV ->Bool
 | .top=>!b
 | a=>a.ok ok
theorem AV.okK_eq {b:Bool} (h:j≠ .top):j.okK c b=j.ok c:=by
 cases j<;>first | rfl | exact absurd rfl h
def Ga (ok:Nat ->Nat ->Bool) (xs:List Nat):List Nat ->List (Nat×AV) ->List (Nat×AV)
 | _,[]=> []
 | ks,(t,a)::r=>match dB t ks,a.okK ok (dB t xs) with
  | false,false=>(t,.top)::Ga ok xs (t::ks) r
  | _,_=>Ga ok xs (t::ks) r
variable {h:List (Nat×AV)}
theorem Ja {g ks:List Nat} {t:Nat}:get (Ga c g ks h) t=match dB t ks,get h t with
  | false,some a=>match a.okK c (dB t g) with
   | true=>none
   | false=>some .top
  | _,_=>none:=by
 induction h generalizing ks with
 | nil=>simp only [Ga,get];cases dB t ks<;>rfl
 | cons q r l=>
  obtain ⟨k,b⟩:=q;have f:=l (ks:=k::ks);simp only [Ga]
  by_cases e:k=t
  .subst e;have i:dB k (k::ks)=true:=Fl.2 eI;rw [i] at f;have j:get ((k,b)::r) k=some b:=by simp only [get,fH]
   rw [j]
   cases h1:dB k ks with
   | true=>exact f
   | false=>
    cases h2:b.okK c (dB k g) with
    | true=>simp only [h2];exact f
    | false=>simp only [h2,get,fH]
  .have i:dB t (k::ks)=dB t ks:=by simp only [dB,HK e,Bool.false_or]
   rw [i] at f;have j:get ((k,b)::r) t=get r t:=by simp only [get,HK e]
   rw [j]
   split
   .simp only [get,HK e];exact f
   .exact f
theorem U2 {c:List (Nat×AV)} (b:B6 f h=some c) (t:Nat):get c t=(get h t).map λa=>match a.ok f with
  | true=>a
  | false=> .top:=by
 induction h generalizing c with
 | nil=>simp only [B6,Option.some.injEq] at b;subst b;rfl
 | cons q r j=>
  obtain ⟨k,x⟩:=q;simp only [B6] at b
  split at b
  .cases b
  .rename_i s l
   have g:=j l
   split at b<;>(injection b with b;subst b)
   .rename_i i
    by_cases e:k=t
    .subst e;simp only [get,fH,fS,i]
    .simp only [get,HK e];exact g
   .rename_i i
    by_cases e:k=t
    .subst e;simp only [get,fH,fS,i]
    .simp only [get,HK e];exact g
def W7:List (Nat×AV) ->List (Nat×Option AV)
 | []=> []
 | (t,a)::r=>(t,some a)::W7 r
theorem KJ (l:List (Nat×AV)) (t:Nat):BT (W7 l) t=(get l t).map some:=by
 induction l with
 | nil=>rfl
 | cons q r a=>
  grind [W7,BT,get]
theorem IK (l a:List (Nat×AV)) (t:Nat):get (l++a) t=(get l t).or (get a t):=by
 induction l with
 | nil=>rfl
 | cons q r b=>
  grind [get]
def OK (hs':Hp):List Nat ->List (Nat×Option (List AJ))
 | []=> []
 | f::r=>(f,cu hs' f)::OK hs' r
theorem IE:BT (OK t a) w=if w∈a then some (cu t w) else none:=by
 induction a with
 | nil=>simp [OK,BT]
 | cons b r c=>
  simp only [OK,BT]
  by_cases e:b=w
  .subst e;simp
  grind [HK]
def Jv (nm:List Nat):Hp ->Hp
 | []=> []
 | (g,l)::r=>match dB g nm with
  | true=>Jv nm r
  | false=>(g,l)::Jv nm r
theorem Iv {b:Hp} (f:Nat):cu (Jv a b) f=if f∈a then none else cu b f:=by
 induction b with
 | nil=>simp [Jv,cu]
 | cons q r g=>
  obtain ⟨k,l⟩:=q;simp only [Jv]
  by_cases e:k=f
  .subst e
   cases hm:dB k a with
   | true=>simp only [g,ϖ (Fl.1 hm)]
   | false=>
    have c:k∉a:=λh=>by rw [Fl.2 h] at hm;cases hm
    simp [cu,c]
  grind [cu,HK]
theorem SV {H b:Hp} (h:AP a H=true) (f:Nat) (j:f∈a ->cu b f=none):cu (H++b) f=if f∈a then cu H f else cu b f:=by
 have c:∀H:Hp,cu (H++b) f=(cu H f).or (cu b f):=by
  intro H
  induction H with
  | nil=>rfl
  | cons p r i=>
   grind [cu]
 rw [c]
 split
 .grind
 .rename_i g
  cases hh:cu H f with
  | none=>rfl
  | some l=>exact absurd (F1 h hh) g
def Mc (nm:List Nat) (p:Nat ->Nat ->Bool) (f i:Nat):Bool:=!(dB f nm) || p f i
def eH (dv:List (Nat×AV)) (nm:List Nat) (p:Nat ->Nat ->Bool) (env0:List (Nat×AV)) (xs:List Nat):List (Nat×AV):=dv++Ga (Mc nm p) xs [] env0
theorem Hs.eff {rd R:List Nat} {l' M:List (Nat×AV)} {eJ:Nat ->Option AV} {eL:Nat ->Option (List AJ)} (hl:pick g rd=some i) (hh:BN k a=some s)
  (hS:∀c z,get g c=some z ->eJ c=some z) (hF:∀u,cu k u=eL u) (h:∀F,cn P F ops o ⟨n,i,s⟩ ⟨n,l',t⟩ f)
  (hdv:(M=[]/\o.dst=none)\/∃d z,M=[(d,z)]/\o.dst=some d/\Nat.blt d n=true/\get l' d=some z/\z.ok (Ir a)=true) (n1:AP a t=true) (n2:cj a t=true):
  Hs P ops n o ⟨rd,W7 (eH M a f g R),a,OK t a,true,Mc a f⟩ C eJ eL:=by
 intro F ρ V w J hp D _ h1 h2 h3 h4;obtain ⟨p1,p2⟩:=Im hh;have Y:=Ef (hp:=hp) (CH:=s) (nm:=a) λr hg=>by rw [h2 r hg,<-hF,p2 r hg]
 obtain ⟨T,q1,q2⟩:=GD F.lo D.heap a Y p1;have X:=M9 hl
 have hsm:SR (B8 F F.lo hp s ρ w T) ⟨n,i,s⟩ ρ V w:=by
  refine ⟨D.size,q2▸D.defs,λc x hx=>?_,q1⟩;obtain ⟨O,U⟩:=X c x hx;rw [q2];exact D.env c x (by show get J c=some x;rw [h1 c O];exact hS c x U)
 refine GO ?_ (h (B8 F F.lo hp s ρ w T) ρ V w hsm);rintro Q w' ⟨ρ',N,⟨v,hv⟩,hp'⟩
 have H:∀r j,cr (Jv a hp) r j=if r∈a then none else cr hp r j:=λr j=>by
  simp only [cr,Iv]
  split<;>rfl
 have I:∀r j K,cr (Jv a hp) r j=some K ->K.Less (Mc a f) K:=λr j K B=>by
  rw [H] at B
  split at B
  .cases B
  .rename_i hg
   simp only [cr] at B
   cases hfa:cu hp r with
   | none=>rw [hfa] at B;cases B
   | some lo=>
    rw [hfa] at B;have G:=h4 Z r lo hfa (by rw [IE,η hg]);exact ⟨λ_ _ _ _ h=>h,λu j hr=>(gD B).elim (λhm=>XQ G hm hr) (λ⟨_,m,_,_,e⟩=>absurd (e▸hr) A7.norefs),λc cs e=>⟨cs,e⟩,λc cs e=>⟨cs,e⟩⟩
 obtain ⟨W,a1,a2,a3,a4,a5,_,a6⟩:=PS (ok:=Mc a f) D.heap a Y p1 H (λr j K B=>⟨K,B,I r j K B⟩) (λr j K B=>⟨K,B,I r j K B⟩) T q1 N.heap n1 n2
  (λu j S G=>hp' u j (by simpa only [Mc,Fl.2 S,Bool.not_true,Bool.false_or] using G))
 have E:Q.tmps.size=n/\∀c,get M c=none ->Q.tmps.getD c undef=V.tmps.getD c undef:=by
  refine ⟨N.size,λc ht=>?_⟩;rcases hdv with ⟨O,U⟩ | ⟨d,z,O,U,e3,_⟩
  .rw [hv,U];rfl
  .rw [hv,U];refine LN λe=>?_;subst e;rw [O] at ht;simp [get] at ht
 refine ⟨W,eH M a f g R++J,t++Jv a hp,⟨E.1,N.defs.mono (κ _) (λ_ _ _=>rfl) (λb _=>a6 b),λc x hx=>?_,a1⟩,λc=>?_,λu=>?_⟩
 .have A:get (eH M a f g R++J) c=some x:=hx;rw [IK,eH,IK] at A
  cases L:get M c with
  | some y=>
   rw [L] at A
   simp at A
   subst A;rcases hdv with ⟨O,U⟩ | ⟨d,z,O,U,e3,e4,e5⟩
   .rw [O] at L;cases L
   .rw [O] at L;rcases Ky L with ⟨rfl,rfl⟩ | ⟨_,L⟩
    .exact a2 _ _ (λu j S=>Fl.1 (AV.ok_spec e5 S)) (N.env d z e4)
    .cases L
  | none=>
   rw [L] at A;simp only [Option.none_or] at A
   cases hk:get (Ga (Mc a f) R [] g) c with
   | some y=>
    rw [hk] at A
    simp at A
    subst A;rw [Ja] at hk
    have:y=AV.top:=by
     split at hk
     .split at hk
      .cases hk
      .injection hk with hk;exact hk.symm
     .cases hk
    rw [this];exact .top
   | none=>
    rw [hk] at A;simp only [Option.none_or] at A;have G:=h3 Z c x A (by rw [KJ,eH,IK,L,hk];rfl);rw [E.2 c L];exact a3 _ _ (λu j S=>AV.ok_spec G S) (D.env c x A)
 .show get (eH M a f g R++J) c=(BT (W7 (eH M a f g R)) c).getD (get J c);rw [KJ,IK]
  cases get (eH M a f g R) c<;>rfl
 .show cu (t++Jv a hp) u=(BT (OK t a) u).getD (cu hp u);rw [SV n1 u (λS=>by rw [Iv,ϖ S]),IE,Iv]
  split<;>simp
end
variable {a:List (List Nat)} {c:Array Oper} {L:Nat ->Bool}
def Lf (listed:Array Bool) (k:Nat):Bool:=listed.getD k false
def cnt (L:Nat ->Bool):Nat ->Nat
 | 0=>0
 | n+1=>cnt L n+(match L n with
  | true=>0
  | false=>1)
theorem kH {a:Nat ->Bool} {i n:Nat} (j:L i=false) (f:∀k,a k=if k=i then true else L k) (g:i<n):cnt a n+1=cnt L n:=by
 induction n with
 | zero=>omega
 | succ n b=>
  have c:∀m,m<=i ->cnt a m=cnt L m:=by
   intro m
   induction m with
   | zero=>intro _;rfl
   | succ m b=>intro h;simp only [cnt,b (by omega),f,η (show ¬m=i by omega)]
  grind [cnt]
theorem kI {i n:Nat} (c:L i=false) (b:i<n):0<cnt L n:=by
 induction n with
 | zero=>omega
 | succ n a=>
  grind [cnt]
theorem ob {listed:Array Bool} {i:Nat} (a:i<listed.size) (k:Nat):Lf (listed.setIfInBounds i true) k=if k=i then true else Lf listed k:=by
 unfold Lf
 by_cases e:k=i
 .simp_all
 .rw [η e];simp [Array.getElem?_setIfInBounds_ne (λh=>e h.symm)]
structure E8 (ops:Array Oper) (pre:List (List Nat)):Prop where
 preds:∀(j:Nat) o,ops[j]? =some o ->∀x∈dM pre j,∃e∈o.after,Region.binds .any e=true/\(e.on=x\/x∈dM pre e.on)
 back:∀(j:Nat) o,ops[j]? =some o ->∀e∈o.after,Region.binds .any e=true ->e.on<j
 nod:∀(j:Nat) o,ops[j]? =some o ->Op.isDefer o.op=false
theorem UJ (h:Ou c.toList a a c.toList 0=true) (s:c.toList.all (λo=>!Op.isDefer o.op)=true):E8 c a:=by
 have r:∀(g:List (List Nat)) (f:List Oper) (i:Nat),Ou c.toList a g f i=true ->(∀j,dM g j=dM a (i+j)) ->∀(j:Nat) o,f[j]? =some o→
   (∀x∈dM a (i+j),∃e∈o.after,Region.binds .any e=true/\(e.on=x\/x∈dM a e.on))/\∀e∈o.after,Region.binds .any e=true ->e.on<i+j:=by
  intro g
  induction g with
  | nil=>intro f i h _ j o b;cases f with
   | nil=>simp at b
   | cons _ _=>simp [Ou] at h
  | cons l g y=>
   intro f i h v j o b
   cases f with
   | nil=>simp at b
   | cons C f=>
    simp only [Ou,eA] at h;obtain ⟨B,A,z⟩:=h
    cases j with
    | zero=>
     simp at b;subst b
     have w:=v 0;simp only [dM,fG] at w;refine ⟨λx u=>?_,λe t k=>?_⟩
     .rw [fG,<-w] at u;have:=gX.1 B x u;obtain ⟨e,t,k⟩:=List.any_eq_true.1 this;simp only [eA,Bool.or_eq_true] at k;exact ⟨e,Array.mem_toList_iff.1 t,k.1,k.2.imp Υ Fl.1⟩
     .have:=gX.1 A e (Array.mem_toList_iff.2 t);rw [k] at this
      simpa using IW (by simpa using this)
    | succ j=>
     have:=y f (i+1) z (λj=>by have:=v (j+1);simp only [dM] at this;rw [this];congr 1;omega) j o (by simpa using b);rw [show i+1+j=i+(j+1) by omega] at this;exact this
 have D:=r a c.toList 0 h (λj=>by rw [fN]);refine ⟨λj o b=>?_,λj o b=>?_,λj o b=>by simpa using gX.1 s o (Array.mem_toList_iff.2 (Array.mem_of_getElem? b))⟩
 .grind
 simp_all
theorem E8.lt (h:E8 c a):∀j,j<c.size ->∀x∈dM a j,x<j:=by
 intro j
 induction j using Nat.strongRecOn with
 | _ j l=>
  intro b x g;obtain ⟨e,i,k,f⟩:=h.preds j _ (ez b) x g;have:=h.back j _ (ez b) e i k
  grind
section
variable {P:Program} {ops:Array Oper} {pre:List (List Nat)} {r:Option Nat} {Q:Exit ->Act ->World ->Prop}
variable {K:Act ->World ->Prop} {w:World} {o:Oper} {a:Act}
theorem Ej {s:Act ->World ->Prop} {Q k:Exit ->Act ->World ->Prop} (g:∀a w,K a w ->s a w) (f:∀e a w,e≠ .normal ->Q e a w ->k e a w) (b:o.wpIn (PY r) 0 P a w K Q):o.wpIn (PY r) 0 P a w s k:=by
 unfold Oper.wpIn at*;refine ⟨b.1,?_⟩;have b:=b.2
 generalize (o.semAt (PY r).round a.eval).run P w=j at*
 have l:LetsOut Q ->LetsOut k:=λ⟨a,w,h⟩=>⟨a,w,f _ _ _ (by simp) h⟩
 cases j with
 | ok x t=>
  cases x<;>simp only [Oper.uponIn] at b⊢<;>
   first
    | exact g _ _ b
    | exact ⟨b.1,CallsIn.mono b.2 (λe i c=>by cases e<;>first | exact g _ _ c | exact f _ _ _ (by simp) c | exact l c)⟩
    | exact ⟨b.1,RowsIn.mono b.2 (λ_ _ c=>g _ _ c)⟩
    | exact ⟨b.1,RoundIn.mono b.2 (λe i c=>by cases e<;>first | exact g _ _ c | exact f _ _ _ (by simp) c | exact l c)⟩
 | halt x t=>cases x<;>simp only [Oper.uponIn] at b⊢<;>first | exact f _ _ _ (by simp) b | exact b
def Dl (P:Program) (r:Option Nat) (ops:Array Oper) (o:Oper) (Q:Exit ->Act ->World ->Prop) (K:Act ->World ->Prop) (a:Act) (w:World):Prop:=
 if Region.wanted o (yielded ops a.tmps) then o.wpIn (PY r) 0 P a w K Q else K (a.put o.dst undef) w
theorem Tg (b:Op.isDefer o.op=false) (h:Gt P ops o K a w):Dl P r ops o Q K a w:=by grind [Gt,Dl,Ei]
theorem KK (Z:E8 ops pre) (D v:Nat) (hhi:v<=ops.size) (O:∀j,v<=j ->j<ops.size ->∀x,D<=x ->x<v ->x∈dM pre j) (Inv:(Nat ->Bool) ->Act ->World ->Prop)
  (step:∀(L:Nat ->Bool) a w i,D<=i ->i<v ->L i=false ->(∀x∈dM pre i,L x=true) ->(∀j,j<ops.size ->L j=true ->∀x∈dM pre j,L x=true) ->Inv L a w ->∃o,ops[i]? =some o/\Dl P r ops o Q (Inv λk=>if k=i then true else L k) a w)
  (fin:∀listed a w,listed.size=ops.size ->(∀k,Lf listed k=decide (k<v)) ->Inv (Lf listed) a w ->wpAnyIn (PY r) 0 P .any ops Q (cnt (Lf listed) ops.size) listed a w):
  ∀b (listed:Array Bool) a w,listed.size=ops.size ->b=cnt (Lf listed) ops.size ->(∀j,j<ops.size ->Lf listed j=true ->∀x∈dM pre j,Lf listed x=true) ->(∀k,k<D ->Lf listed k=true) ->(∀k,v<=k ->Lf listed k=false) ->Inv (Lf listed) a w ->wpAnyIn (PY r) 0 P .any ops Q b listed a w:=by
 intro b
 induction b with
 | zero=>
  grind [Lf,kI]
 | succ b ih=>
  intro listed a w Y hf B G J hI
  by_cases t:∀k,D<=k ->k<v ->Lf listed k=true
  .grind
  .have hmr:∀{j},j∈Region.ready .any ops listed ->j<ops.size/\Lf listed j=false/\∀x∈dM pre j,Lf listed x=true:=λ{j} C=>by
    obtain ⟨u,o,l,R⟩:=mem_ready.1 C;have A:j<ops.size:=(fX.1 l).1;refine ⟨A,?_,λx T=>?_⟩
    .unfold Lf;rw [gh,ez (by omega)] at u⊢;exact u
    .obtain ⟨e,U,V,z⟩:=Z.preds j o l x T;have N:=R e U V;rcases z with rfl | z
     .exact N
     .exact B e.on (by have:=Z.back j o l e U V;omega) N x z
   have hne:Region.ready .any ops listed≠ []:=by
    have hex:∃k,k<ops.size/\Lf listed k=false:=by
     refine Classical.byContradiction λM=>t λk I H=>?_
     cases y:Lf listed k with
     | true=>rfl
     | false=>exact absurd ⟨k,by omega,y⟩ M
    obtain ⟨k,s⟩:=hex
    have E:∃k,(k<ops.size/\Lf listed k=false)/\∀j,j<k ->¬(j<ops.size/\Lf listed j=false):=by
     revert s
     induction k using Nat.strongRecOn with
     | _ k W=>
      intro s
      by_cases C:∃j,j<k/\(j<ops.size/\Lf listed j=false)
      .obtain ⟨j,u,l⟩:=C;exact W j u l
      .exact ⟨k,s,λj u l=>C ⟨j,u,l⟩⟩
    obtain ⟨k,s,hkm⟩:=E
    have hr:k∈Region.ready .any ops listed:=by
     refine mem_ready.2 ⟨?_,ops[k],ez s.1,λe U V=>?_⟩
     .have:=s.2;unfold Lf at this;rw [gh,ez (by omega)] at this⊢;exact this
     .have A:=Z.back k _ (ez s.1) e U V
      cases y:Lf listed e.on with
      | true=>exact y
      | false=>exact absurd ⟨by omega,y⟩ (hkm e.on A)
    intro h0;rw [h0] at hr;cases hr
   refine ⟨λh0=>absurd h0 hne,λi hi'=>?_⟩;obtain ⟨u,l,R⟩:=hmr hi';have F:D<=i:=Nat.le_of_not_lt λM=>by rw [G i M] at l;cases l
   have K:i<v:=Nat.lt_of_not_le λM=>t λk I H=>R k (O i M u k I H);obtain ⟨o,ho,f⟩:=step (Lf listed) a w i F K l R B hI;have c:=ob (listed:=listed) (i:=i) (by omega)
   have next:∀g S,Inv (λk=>if k=i then true else Lf listed k) g S ->wpAnyIn (PY r) 0 P .any ops Q b (listed.setIfInBounds i true) g S:=λg S hI'=>by
    refine ih _ g S (by simpa using Y) ?_ (λj C y x T=>?_) (λk s=>?_) (λk s=>?_) ?_
    .have:=kH l c u;omega
    .rw [c] at y⊢
     by_cases e:x=i
     .rw [ϖ e]
     .rw [η e]
      by_cases e2:j=i
      .subst e2;exact R x T
      .rw [η e2] at y;exact B j C y x T
    .rw [c];split
     .rfl
     .exact G k s
    .rw [c,η (by omega)];exact J k s
    .have:Lf (listed.setIfInBounds i true)=λk=>if k=i then true else Lf listed k:=funext c
     rw [this];exact hI'
   unfold wpOpIn;rw [ho];simp only [];unfold Dl at f
   split
   .rename_i X
    rw [ϖ X] at f;exact Ej next (λ_ _ _ _ h=>h) f
   .rename_i X
    rw [η X] at f;exact ⟨λ_ _=>trivial,next _ _ f⟩
end
section
variable {P:Program} {F:Fr} {ops:Array Oper} {pre:List (List Nat)} {Q:Exit ->AS ->Prop}
variable {a:Nat} {s:AS} {R:List Rc} {C:KF} {c:Nat}
def hY (P:Program) (F:Fr) (ops:Array Oper) (lo:Nat) (Q:Exit ->AS ->Prop) (s:AS):Prop:=∀ρ act w listed,SR F s ρ act w ->listed.size=ops.size ->(∀k,Lf listed k=decide (k<lo)) ->wpAnyIn (PY F.rnd) 0 P .any ops (SF F Q) (cnt (Lf listed) ops.size) listed act w
theorem SR.drew {j:Nat ->Nat ->Value} {f:Act} {w a:World} (h:SR F s j f w) (k:a.heap=w.heap) (u:a.os=w.os) (r:a.tape=w.tape) (o:a.output=w.output) (v:w.drawn<=a.drawn:=by first | exact Nat.le_succ _ | exact κ _):SR F s j f a:=by
 have g:w.heap.size<=a.heap.size:=by rw [k];exact κ _
 have i:∀b,b<w.heap.size ->a.heap[b]? =w.heap[b]?:=λb _=>by rw [k]
 exact ⟨h.size,h.defs.mono g (λb c _=>i b c) (λ_ _ h=>h),λt x l=>(h.env t x l).mono g (λb c _=>i b c) (λ_ _ h=>h) (λ_ _ _=>rfl),h.heap.stay ⟨u,r,o,dh h.heap.drawn v⟩ g i⟩
theorem oY {id:Nat} {l:List Oper} (i:P.follows .mixedOrders=true) (h:hY P F l.toArray 0 Q s):Bf P F (.region id l.toArray true) Q s:=λc a w g=>by
 refine wpIn_region_any i ?_
 have b:∀k,Lf (Array.replicate l.toArray.size false) k=false:=λk=>by
  unfold Lf;rw [gh,Array.getElem?_replicate]
  split<;>rfl
 have j:∀n,cnt (Lf (Array.replicate l.toArray.size false)) n=n:=by
  intro n
  induction n with
  | zero=>rfl
  | succ n f=>simp only [cnt,f,b]
 have:=h c a {w with drawn:=w.drawn+1} (Array.replicate l.toArray.size false) (g.drew Z Z Z Z) (by simp) (λk=>by rw [b];simp)
 rwa [j] at this
def P2 (pre:List (List Nat)) (lo hi:Nat):Nat ->Nat ->Bool
 | _,0=>true
 | j,m+1=>inAll lo (hi - lo) (dM pre j) && P2 pre lo hi (j+1) m
where inAll (x:Nat):Nat ->List Nat ->Bool
 | 0,_=>true
 | m+1,l=>dB x l && inAll (x+1) m l
theorem U7 {x m:Nat} {l:List Nat} (h:P2.inAll x m l=true):∀y,x<=y ->y<x+m ->y∈l:=by
 induction m generalizing x with
 | zero=>intro y b a;omega
 | succ m c=>
  simp only [P2.inAll,eA] at h;intro y b a
  by_cases e:x=y
  .subst e;exact Fl.1 h.1
  grind
theorem Uf {b m:Nat} (i:a<=c) (h:P2 pre a c b m=true):∀j,b<=j ->j<b+m ->∀x,a<=x ->x<c ->x∈dM pre j:=by
 induction m generalizing b with
 | zero=>intro j o l;omega
 | succ m g=>
  simp only [P2,eA] at h;intro j o l x f k
  by_cases e:b=j
  .subst e;exact U7 h.1 x f (by omega)
  .exact g h.2 j (by omega) (by omega) x f k
def Sp (pre:List (List Nat)) (n lo hi:Nat):Bool:=Nat.ble lo hi &&(Nat.ble hi n && P2 pre lo hi hi (n - hi))
theorem Ku {n:Nat} (h:Sp pre n a c=true):a<=c/\c<=n/\∀j,c<=j ->j<n ->∀x,a<=x ->x<c ->x∈dM pre j:=by
 simp only [Sp,eA] at h;have f:=Nat.le_of_ble_eq_true h.1;have b:=Nat.le_of_ble_eq_true h.2.1
 grind [Uf]
theorem Fi (g:E8 ops pre) {b:Array Bool} (i:∀k,Lf b k=decide (k<a)):∀j,j<ops.size ->Lf b j=true ->∀x∈dM pre j,Lf b x=true:=λj h c x f=>by
 rw [i] at c⊢;have:=fb c;have:=g.lt j h x f;exact dm (by omega)
theorem nu {o:Oper} (I:E8 ops pre) (N:ops[a]? =some o) (T:Sp pre ops.size a (a+1)=true) (h:A3 P F ops [o] (λe l=>e= .normal/\hY P F ops (a+1) Q l) s):hY P F ops a Q s:=λK t w r M D B=>by
 obtain ⟨_,V,U⟩:=Ku T;have f:=h K t w M;refine KK I a (a+1) V U (λL g x=>((L a=false/\g=t/\x=w)\/(L a=true/\∃l c,hY P F ops (a+1) Q l/\SR F l c g x))) ?_ ?_ _ r t w D Z (Fi I B) (λk J=>by rw [B];exact dm J) (λk J=>by rw [B];exact dw (by omega)) (.inl ⟨by rw [B];simp,Z,Z⟩)
 .intro L g x i R O G _ _ H;have:i=a:=by omega
  subst this;rcases H with ⟨_,rfl,rfl⟩ | ⟨z,_⟩
  .refine ⟨o,N,?_⟩;unfold wpListIn at f;unfold Dl
   split
   .rename_i C
    rw [ϖ C] at f;refine Ej ?_ ?_ f
    .rintro b w ⟨l,c,⟨_,v⟩,u⟩;exact .inr ⟨by simp,l,c,v,u⟩
    .rintro e b w E ⟨l,c,⟨S,v⟩,u⟩;exact absurd S E
   .rename_i C
    rw [η C] at f;obtain ⟨_,l,c,⟨_,v⟩,u⟩:=f;exact .inr ⟨by simp,l,c,v,u⟩
  .rw [G] at z;cases z
 .intro j g x y A H;rcases H with ⟨z,_⟩ | ⟨_,l,c,v,u⟩
  .rw [A] at z;simp at z
  .exact v c g x j u y A
abbrev RS (R:List Rc):=R.map Rc.ws
abbrev RF (R:List Rc):=R.map Rc.fs
def eJ (base:AS) (R:List Rc):Nat ->Option AV:=FO (get base.env) (λ_=>true) (RS R)
def eL (base:AS) (R:List Rc):Nat ->Option (List AJ):=FO (cu base.hp) (λ_=>true) (RF R)
def W5 (P:Program) (ops:Array Oper) (lo:Nat) (base:AS) (C:KF):List Rc ->Prop
 | []=>True
 | rc::r=>W5 P ops lo base C r/\(∃o,ops[lo+r.length]? =some o/\Hs P ops base.n o rc C (eJ base r) (eL base r))/\(∀f,BT rc.fs f≠none ->f∈rc.nm)/\∀f c,BT rc.fs f=some c ->C f c
theorem W5.at {b:AS} (h:W5 P ops a b C R) {k:Nat} {g:Rc} (i:R.reverse[k]? =some g):∃A r,R=A++g::r/\r.length=k/\(∃o,ops[a+k]? =some o/\Hs P ops b.n o g C (eJ b r) (eL b r))/\(∀f,BT g.fs f≠none ->f∈g.nm)/\∀f c,BT g.fs f=some c ->C f c:=by
 induction R with
 | nil=>simp at i
 | cons x r l=>
  rcases dd i with i | ⟨rfl,rfl⟩
  .obtain ⟨A,j,t,s⟩:=l h.1 i;exact ⟨x::A,j,by rw [t];rfl,s⟩
  .exact ⟨[],r,Z,Z,h.2.1,h.2.2⟩
def od (P:Program) (F:Fr) (ops:Array Oper) (lo:Nat) (Q:Exit ->AS ->Prop) (C:KF) (base:AS) (R:List Rc) (env:List (Nat×AV)) (hp:Hp):Prop:=
 (∀f,C f (cu base.hp f)) ->W5 P ops lo base C R ->(∀t a,get env t=some a ->eJ base R t=some a) ->(∀f,cu hp f=eL base R f) ->hY P F ops lo Q base
theorem bi (b:∀f,C f (cu s.hp f)) (h:od P F ops a Q C s [] s.env s.hp):hY P F ops a Q s:=h b trivial (λ_ _ h=>h) λ_=>rfl
structure fC (pre:List (List Nat)) (lo i j:Nat) (ri rj:Rc):Prop where
 race:(lo+j)∉dM pre (lo+i) ->GK rj.ws ri.rd=true/\GK rj.ws (Mq ri.ws)=true/\GK ri.ws rj.rd=true/\GK rj.fs ri.nm=true/\GK ri.fs rj.nm=true
 late:ri.eff=true ->US ri.ok ri.ws rj.ws=true/\UT ri.ok ri.fs rj.fs=true
 early:(lo+j)∉dM pre (lo+i) ->rj.eff=true ->US rj.ok rj.ws ri.ws=true/\UT rj.ok rj.fs ri.fs=true
theorem FY {i j:Nat} {f c:Rc} (h:Ma (dB (a+j) (dM pre (a+i))) c f=true):fC pre a i j f c:=by
 have k:(a+j)∉dM pre (a+i) ->dB (a+j) (dM pre (a+i))=false:=λb=>by
  cases hh:dB (a+j) (dM pre (a+i)) with
  | false=>rfl
  | true=>exact absurd (Fl.1 hh) b
 simp only [Ma,eA,Bool.or_eq_true,Bool.not_eq_true'] at h;refine ⟨λb=>?_,λg=>?_,λb g=>?_⟩
 all_goals (grind)
theorem bj {j hi:Nat} {C:KF} {s:AS} {R:List Rc} {env:List (Nat×AV)} {hp:Hp} (hps:E8 ops pre) (hhi:Nat.beq (j+R.length) hi=true) (hc:Sp pre ops.size j hi=true) (G:Hk pre j s.env s.hp R=true) (h:hY P F ops hi Q ⟨s.n,env,hp⟩):od P F ops j Q C s R env hp:=λhC hV hE hH=>by
 intro ρ act w H hs hsz hL;have hhi':=Υ hhi;subst hhi';obtain ⟨_,c2,c3⟩:=Ku hc
 let Inv:(Nat ->Bool) ->Act ->World ->Prop:=λL act w=>∃ρ env hp,SR F ⟨s.n,env,hp⟩ ρ act w/\(∀t,get env t=FO (get s.env) (λk=>L (j+k)) (RS R) t)/\∀f,cu hp f=FO (cu s.hp) (λk=>L (j+k)) (RF R) f
 have hnone:∀{α:Type} (base:Nat ->α) (R:List (List (Nat×α))) t,FO base (λk=>Lf H (j+k)) R t=base t:=by
  intro α base R t
  induction R with
  | nil=>rfl
  | cons ws r ih=>
   have h0:Lf H (j+r.length)=false:=by rw [hL];exact dw (by omega)
   simp only [FO,h0];exact ih
 refine KK hps j (j+R.length) c2 c3 Inv ?_ ?_ _ H act w hsz Z (Fi hps hL) (λk u=>by rw [hL];exact dm u) (λk u=>by rw [hL];exact dw (by omega)) ⟨ρ,s.env,s.hp,hs,λt=>(hnone _ _ t).symm,λf=>(hnone _ _ f).symm⟩
 .intro L act w i' hi1 hi2 M hpre hcl ⟨ρ,env1,hp1,hsr,hE1,hH1⟩
  obtain ⟨i,rfl⟩:∃i,i'=j+i:=⟨i' - j,by omega⟩
  have hiR:i<R.length:=by omega
  have D:R.reverse[i]? =some (R.reverse[i]'(by simpa using hiR)):=ω (by simpa using hiR)
  generalize R.reverse[i]'(by simpa using hiR)=rc at D
  obtain ⟨A,r,e1,e2,⟨o,ho,hsound⟩,hfk,_⟩:=hV.at D
  -- the order against others
  have S:∀{k ws},(RS R).reverse[k]? =some ws ->∃B:Rc,R.reverse[k]? =some B/\B.ws=ws:=λ{k ws} u=>by
   rw [<-List.map_reverse,ζ] at u
   cases hh:R.reverse[k]? with
   | none=>rw [hh] at u;cases u
   | some B=>rw [hh] at u;injection u with u;exact ⟨B,hh,u⟩
  have J:∀{k ws},(RF R).reverse[k]? =some ws ->∃B:Rc,R.reverse[k]? =some B/\B.fs=ws:=λ{k ws} u=>by
   rw [<-List.map_reverse,ζ] at u
   cases hh:R.reverse[k]? with
   | none=>rw [hh] at u;cases u
   | some B=>rw [hh] at u;injection u with u;exact ⟨B,hh,u⟩
  have X:∀{k B},R.reverse[k]? =some B ->k<i ->L (j+k)=false ->fC pre j i k rc B/\(j+k)∉dM pre (j+i):=λ{k B} u v c=>
   ⟨FY (Fa G D u v),λhm=>by rw [hpre _ hm] at c;cases c⟩
  have z:∀{k B},R.reverse[k]? =some B ->i<k ->L (j+k)=true ->fC pre j k i B rc/\(j+i)∉dM pre (j+k):=λ{k B} u v c=>
   ⟨FY (Fa G u D v),λhm=>by
    have hkR:=KU u
    rw [hcl (j+k) (by omega) c _ hm] at M;cases M⟩
  have hR:RS R=(RS (A++ [rc]))++RS r/\RF R=(RF (A++ [rc]))++RF r:=by
   rw [e1];simp [RS,RF]
  have hsame:∀t∈rc.rd,FO (get s.env) (λk=>L (j+k)) (RS R) t=eJ s r t:=λt ht=>by
   have V:FO (get s.env) (λk=>L (j+k)) (RS R) t=FO (get s.env) (λk=>decide (k<(RS r).length)) (RS R) t:=by
    refine Fp λk ws u I=>?_;obtain ⟨B,y,rfl⟩:=S u;have W:(RS r).length=i:=by simp [RS,e2]
    rw [W];rcases Nat.lt_trichotomy k i with v | U | T
    .rw [dm v]
     cases c:L (j+k) with
     | true=>rfl
     | false=>
      obtain ⟨O,N⟩:=X y v c;exact absurd (Di (O.race N).1 ht) I
    .subst U;rw [dw (gc _)];exact M
    .rw [dw (by omega)]
     cases c:L (j+k) with
     | false=>rfl
     | true=>
      obtain ⟨O,N⟩:=z y T c;exact absurd (Di (O.race N).2.2.1 ht) I
   rw [V,hR.1,MN];rfl
  have hsameF:∀f∈rc.nm,FO (cu s.hp) (λk=>L (j+k)) (RF R) f=eL s r f:=λf hf=>by
   have V:FO (cu s.hp) (λk=>L (j+k)) (RF R) f=FO (cu s.hp) (λk=>decide (k<(RF r).length)) (RF R) f:=by
    refine Fp λk ws u I=>?_;obtain ⟨B,y,rfl⟩:=J u;have W:(RF r).length=i:=by simp [RF,e2]
    rw [W];rcases Nat.lt_trichotomy k i with v | U | T
    .rw [dm v]
     cases c:L (j+k) with
     | true=>rfl
     | false=>
      obtain ⟨O,N⟩:=X y v c;exact absurd (Di (O.race N).2.2.2.1 hf) I
    .subst U;rw [dw (gc _)];exact M
    .rw [dw (by omega)]
     cases c:L (j+k) with
     | false=>rfl
     | true=>
      obtain ⟨O,N⟩:=z y T c;exact absurd (Di (O.race N).2.2.2.2 hf) I
   rw [V,hR.2,MN];rfl
  refine ⟨o,ho,Tg (hps.nod _ _ ho)<| GO ?_ (hsound F ρ act w env1 hp1 hsr (λf=>by
   rw [hH1];rcases eM (base:=cu s.hp) (L:=λk=>L (j+k)) (R:=RF R) (t:=f) with ⟨V,_⟩ | ⟨k,ws,u,c,I⟩
   .rw [V];exact hC f
   .obtain ⟨B,y,rfl⟩:=J u;obtain ⟨_,_,_,_,_,_,hc⟩:=hV.at y
    exact hc f _ I) (λt ht=>by rw [hE1,hsame t ht]) (λf hf=>by rw [hH1,hsameF f hf]) (λhe t a ha hl=>?_) (λhe f l hf hl=>?_))⟩
  .rintro act' w' ⟨Y,env',hp',E,hE',hH'⟩
   have hset:∀k,(λk=>if j+k=j+i then true else L (j+k)) k=if k=i then true else L (j+k):=λk=>by
    by_cases e:k=i
    .subst e;simp
    .have:¬(j+k=j+i):=by omega
     simp [e]
   refine ⟨Y,env',hp',E,λt=>?_,λf=>?_⟩
   .rw [hE',hE1];refine (MM (i:=i) (ws:=rc.ws) (by rw [<-List.map_reverse,ζ,D];rfl) M hset λI k ws' u v c=>?_).symm;obtain ⟨B,y,rfl⟩:=S u;obtain ⟨O,N⟩:=z y v c;have:=Di (t:=t) (O.race N).2.1
    cases hh:BT B.ws t with
    | none=>rfl
    | some x=>exact absurd (this (SI (by rw [hh];simp))) I
   .rw [hH',hH1];refine (MM (i:=i) (ws:=rc.fs) (by rw [<-List.map_reverse,ζ,D];rfl) M hset λI k ws' u v c=>?_).symm;obtain ⟨B,y,rfl⟩:=J u;obtain ⟨O,N⟩:=z y v c;exact Di (O.race N).2.2.2.2 (hfk f I)
  .rw [hE1] at ha;rcases eM (base:=get s.env) (L:=λk=>L (j+k)) (R:=RS R) (t:=t) with ⟨V,_⟩ | ⟨k,ws,u,c,I⟩
   .rw [V] at ha;exact aB (LS G D he).1 ha (λh=>by cases h) hl
   .rw [ha] at I;obtain ⟨B,y,rfl⟩:=S u;rcases Nat.lt_trichotomy k i with v | U | T
    .exact Oy ((FY (Fa G D y v)).late he).1 I hl
    .subst U;rw [M] at c;cases c
    .obtain ⟨O,N⟩:=z y T c;exact Oy (O.early N he).1 I hl
  .rw [hH1] at hf;rcases eM (base:=cu s.hp) (L:=λk=>L (j+k)) (R:=RF R) (t:=f) with ⟨V,_⟩ | ⟨k,ws,u,c,I⟩
   .rw [V] at hf;exact aA (LS G D he).2 hf hl
   .rw [hf] at I;obtain ⟨B,y,rfl⟩:=J u;rcases Nat.lt_trichotomy k i with v | U | T
    .exact Oz ((FY (Fa G D y v)).late he).2 I hl
    .subst U;rw [M] at c;cases c
    .obtain ⟨O,N⟩:=z y T c;exact Oz (O.early N he).2 I hl
 .intro K act' w' hsz' hL' ⟨Y,env',hp',E,hE',hH'⟩
  have hall:∀{α:Type} (base:Nat ->α) (R':List (List (Nat×α))) t,R'.length=R.length ->FO base (λk=>Lf K (j+k)) R' t=FO base (λ_=>true) R' t:=λbase R' t W=>
   Fp λk ws u _=>by rw [hL',dm];have:=KU u;omega
  have hHh:∀f i,cr hp' f i=cr hp f i:=λf i=>by
   simp only [cr,hH',hH,hall _ (RF R) f (by simp [RF])];rfl
  have hheap:BR F hp Y w':=E.heap.less (λg i o' ho=>⟨o',by show cr hp' g i=some o';rw [hHh];exact ho,λ_ _ _ h=>h⟩) λg i o ho=>⟨o,by rw [<-hHh];exact ho,λt cs e=>⟨cs,e⟩⟩
  have hO:F.O Y hp'=F.O Y hp:=funext λb=>propext ⟨λh=>h.imp id λ⟨f,i,o,V,h2⟩=>⟨f,i,o,by rw [<-hHh];exact V,h2⟩,λh=>h.imp id λ⟨f,i,o,V,h2⟩=>⟨f,i,o,by rw [hHh];exact V,h2⟩⟩;refine h Y act' w' K ⟨E.size,hO▸E.defs,λt a ha=>?_,hheap⟩ hsz' hL';have V:=hE t a ha;have h2:=E.env t a (by show get env' t=some a;rw [hE',hall _ (RS R) t (by simp [RS])];exact V);rw [<-hO];exact h2
end
section
variable {P:Program} {F:Fr} {ops:Array Oper} {Q:Exit ->AS ->Prop}
def Dw (P:Program) (F:Fr) (ops:Array Oper) (pre:List (List Nat)) (lo:Nat) (rest:List Oper) (Q:Exit ->AS ->Prop) (s:AS):Prop:=E8 ops pre ->(∀k:Nat,rest[k]? =ops[lo+k]?) ->hY P F ops lo Q s
def Qu (P:Program) (F:Fr) (ops:Array Oper) (pre:List (List Nat)) (lo:Nat) (rest:List Oper) (Q:Exit ->AS ->Prop) (C:KF) (base:AS) (R:List Rc) (env:List (Nat×AV)) (hp:Hp):Prop:=E8 ops pre ->(∀k:Nat,rest[k]? =ops[lo+R.length+k]?) ->od P F ops lo Q C base R env hp
theorem Dr {id:Nat} {l:List Oper} {s:AS} (a:List (List Nat)) (f:P.follows .mixedOrders=true) (b:Ou l a a l 0=true) (h:Dw P F l.toArray a 0 l Q s) (c:l.all (λo=>!Op.isDefer o.op)=true:=by rfl):Bf P F (.region id l.toArray true) Q s:=
 oY f (h (UJ (by simpa using b) (by simpa using c)) λk=>by simp)
variable {pre:List (List Nat)} {lo:Nat} {rest:List Oper} {s:AS} {o:Oper}
variable {a:List (Nat×AV)} {c:Hp} {f:Nat}
theorem Dg (h:Q .normal s):Dw P F ops pre lo [] Q s:=λt b f A w a g r y=>by
 have l:=b 0
 have v:ops.size<=lo:=by
  simp at l
  exact l
 have b:Region.ready .any ops a=[]:=by
  refine List.eq_nil_iff_forall_not_mem.2 λj x=>?_;obtain ⟨c,o,z,_⟩:=mem_ready.1 x;have u:j<ops.size:=(fX.1 z).1;have:=y j;rw [dm (by omega)] at this;unfold Lf at this;rw [gh,ez (by omega)] at c this
  simp at c this
  rw [this] at c;cases c
 cases cnt (Lf a) ops.size with
 | zero=>exact ⟨b,s,f,h,g⟩
 | succ n=>exact ⟨λ_=>⟨s,f,h,g⟩,λi k=>by rw [b] at k;cases k⟩
theorem An (x:Nat) (y:Nat.beq (lo+1) x=true) (G:Sp pre (lo+(rest.length+1)) lo x=true) (h:A3 P F ops [o] (λe b=>e= .normal/\Dw P F ops pre x rest Q b) s):Dw P F ops pre lo (o::rest) Q s:=λf l=>by
 have g:=Υ y;subst g;have E:ops[lo]? =some o:=by have:=l 0;simpa using this.symm
 have v:ops.size=lo+(rest.length+1):=by
  have j:=l (rest.length+1);have i:=l rest.length;have B:(o::rest)[rest.length]?≠none:=by simp
  rw [i] at B;have I:lo+rest.length<ops.size:=Nat.lt_of_not_le λc=>B (Array.getElem?_eq_none c);have H:ops[lo+(rest.length+1)]? =none:=by rw [<-j];simp
  have:=Array.getElem?_eq_none_iff.1 H;omega
 refine nu f E (by rw [v];exact G) (λC A w D=>?_)
 have t:∀(e:Exit) b,(e= .normal/\Dw P F ops pre (lo+1) rest Q b) ->(e= .normal/\hY P F ops (lo+1) Q b):=λe b ⟨j,i⟩=>⟨j,i f λk=>by
  have:=l (k+1);rw [List.getElem?_cons_succ] at this
  rw [this];congr 1;omega⟩
 have c:=h C A w D;unfold wpListIn at c⊢
 have z:∀e a w,SF F (λe b=>e= .normal/\Dw P F ops pre (lo+1) rest Q b) e a w ->SF F (λe b=>e= .normal/\hY P F ops (lo+1) Q b) e a w:=λe a w ⟨b,r,j,i⟩=>⟨b,r,t e b j,i⟩
 split
 .rename_i u
  rw [ϖ u] at c;exact Ej (λa w h=>z _ _ _ h) (λe a w _ h=>z e a w h) c
 .rename_i u
  rw [η u] at c;exact ⟨c.1,z _ _ _ c.2⟩
theorem E6 (h:Qu P F ops pre lo rest Q C0 ⟨f,a,c⟩ [] a c):Dw P F ops pre lo rest Q ⟨f,a,c⟩:=λb g=>bi (λ_=>trivial) (h b g)
abbrev C2 (f:Nat) (c1 c2:List AJ):KF:=λg x=>g=f ->x=some c1\/x=some c2
theorem Xv (b:Nat) {j:List AJ} (t:List AJ) (r:cu c b=some j) (h:Qu P F ops pre lo rest Q (C2 b j t) ⟨f,a,c⟩ [] a c):Dw P F ops pre lo rest Q ⟨f,a,c⟩:=λi k=>bi (λg l=>by subst l;exact .inl r) (h i k)
variable {C:KF} {base:AS} {R:List Rc} {env:List (Nat×AV)} {hp:Hp}
variable {a:List (Nat×AV)} {c:Nat ->Nat ->Bool} {f:Array Edge} {g:Option Tmp} {h:String} {i:AV} {j:TypeId} {k:Hp} {t:Op} {u:Nat} {w:Bool} {x:Rc} {y:Nat}
theorem sL (g:Nat) (k:Nat.beq (lo+(x::R).length) g=true) (y:Sp pre (g+rest.length) lo g=true) (f:Hk pre lo base.env base.hp (x::R)=true) (h:Dw P F ops pre g rest Q ⟨base.n,env,hp⟩):Qu P F ops pre lo rest Q C base (x::R) env hp:=λb j=>by
 have c:=Υ k;subst c
 have a:ops.size<=lo+(x::R).length+rest.length:=by
  have G:=j rest.length;have D:ops[lo+(x::R).length+rest.length]? =none:=by rw [<-G];simp
  exact Array.getElem?_eq_none_iff.1 D
 intro B hV A z
 have w:lo+(x::R).length<=ops.size:=by
  obtain ⟨o,u,_⟩:=hV.2.1;have:=(fX.1 u).1;simp only [gm];omega
 have i:ops.size=lo+(x::R).length+rest.length:=by
  rcases hrl:rest with _ | ⟨o,r⟩
  .rw [hrl] at a;simp only [List.length_nil,fG] at a⊢;omega
  .have t:=j r.length;rw [hrl] at t a;have l:(o::r)[r.length]?≠none:=by simp
   rw [t] at l;have E:lo+(x::R).length+r.length<ops.size:=Nat.lt_of_not_le λv=>l (Array.getElem?_eq_none v);simp only [gm] at a E⊢;omega
 exact bj b (fH _) (by rw [i];exact y) f (h b j) B hV A z
theorem A9 (b:AA P F ⟨g,t,j,h,f,none⟩ s y i):If P F ops ⟨g,t,j,h,f,none⟩ s y i:=by
 refine ⟨IW b.1,λu l w c=>?_⟩;unfold Gt;rw [ϖ (by simp [Region.wanted])];refine hQ ?_ (b.2.2 u l w c);rintro r D ⟨v,B,A,k,z,x⟩;exact ⟨v,B,A,⟨k.os.trans c.heap.os.symm,k.tape.trans c.heap.tape.symm,k.output.trans c.heap.output.symm,k.drawn⟩,z,x⟩
theorem Xm {f:Nat ->Nat ->Value} {b:Act} {a:World} (h:SR F s f b a) {j t:Nat} (i:(ops[j]?).bind (·.dst)=some t) (g:get s.env t=some (.d (.raw (.bool w)))):yielded ops b.tmps j=some w:=by
 have c:=h.env t _ g;unfold yielded;rw [i]
 cases c with
 | d c=>
  generalize k:b.tmps.getD t undef=v at c
  cases c with
  | raw _=>
   simp only [gL];rw [gh] at k
   grind [undef]
theorem FB {l k:Nat} {b:Bool} (E:(ops[l]?).bind (·.dst)=some k) (D:get s.env k=some (.d (.raw (.bool w)))) (G:w=b) (r:AA P F ⟨g,t,j,h,f,some (l,b)⟩ s y i):If P F ops ⟨g,t,j,h,f,some (l,b)⟩ s y i:=by
 refine ⟨IW r.1,λB z c u=>?_⟩;unfold Gt;rw [ϖ (by simp [Region.wanted,Xm u E D,G])];refine hQ ?_ (r.2.2 B z c u);rintro A L ⟨v,K,J,x,I,H⟩;exact ⟨v,K,J,⟨x.os.trans u.heap.os.symm,x.tape.trans u.heap.tape.symm,x.output.trans u.heap.output.symm,x.drawn⟩,I,H⟩
theorem IV {b:AS} (a:AH P F ⟨g,t,j,h,f,none⟩ s b c):cn P F ops ⟨g,t,j,h,f,none⟩ s b c:=by grind [Gt,Region.wanted,hQ,mL,AH,cn]
theorem K8 {lo:Nat} {R:List Rc} {rc:Rc} (a:∀k:Nat,(o::rest)[k]? =ops[lo+R.length+k]?):ops[lo+R.length]? =some o/\∀k:Nat,rest[k]? =ops[lo+(rc::R).length+k]?:=by
 refine ⟨by have:=a 0;simpa using this.symm,λk=>?_⟩;have:=a (k+1)
 grind
def eN (rd nm:List Nat) (d:Nat) (a:AV):Rc:=⟨rd,[(d,some a)],nm,[],false,λ_ _=>true⟩
theorem By (rd b:List Nat) (B:pick env rd=some a) (D:BN hp b=some k) (h:∀F,If P F ops o ⟨base.n,a,k⟩ u i) (H:Qu P F ops pre lo rest Q C base (eN rd b u i::R) ((u,i)::env) hp):Qu P F ops pre lo (o::rest) Q C base R env hp:=λr z I hV y w=>by
 obtain ⟨A,j⟩:=K8 (rc:=eN rd b u i) z;refine H r j I ⟨hV,⟨o,A,Hs.pure B D y w h⟩,λf E=>absurd Z E,λf c G=>by cases G⟩ (λt x g=>?_) λf=>?_
 .show FO _ _ (RS (eN rd b u i::R)) t=_;simp only [RS,dz,FO,eN,BT];rcases Ky g with ⟨rfl,rfl⟩ | ⟨v,g⟩
  .simp
  .rw [HK v];exact y t x g
 .show _=FO _ _ (RF (eN rd b u i::R)) f;simp only [RF,dz,FO,eN,BT];exact w f
theorem ch (rd b:List Nat) {f:Nat} {y w:List AJ} (E:pick env rd=some a) (G:BN hp b=some k) (v:dB f b=false) (L:∀F,If P F ops o ⟨base.n,a,(f,y)::k⟩ u i) (K:∀F,If P F ops o ⟨base.n,a,(f,w)::k⟩ u i) (I:Qu P F ops pre lo rest Q (C2 f y w) base (eN rd b u i::R) ((u,i)::env) hp):Qu P F ops pre lo (o::rest) Q (C2 f y w) base R env hp:=λj B J hV A z=>by
 obtain ⟨D,h⟩:=K8 (rc:=eN rd b u i) B;refine I j h J ⟨hV,⟨o,D,Hs.pure2 E G v A z (λx g=>g Z) L K⟩,λf v=>absurd Z v,λf c H=>by cases H⟩ (λt x g=>?_) λf=>?_
 .show FO _ _ (RS (eN rd b u i::R)) t=_;simp only [RS,dz,FO,eN,BT];rcases Ky g with ⟨rfl,rfl⟩ | ⟨r,g⟩
  .simp
  .rw [HK r];exact A t x g
 .show _=FO _ _ (RF (eN rd b u i::R)) f;simp only [RF,dz,FO,eN,BT];exact z f
theorem BQ (rd:List Nat) (b:pick env rd=some a) (c:BN hp (fE base.hp)=some k) (h:∀F,If P F ops o ⟨base.n,a,k⟩ u i) (f:Qu P F ops pre lo rest Q C base (eN rd (fE base.hp) u i::R) ((u,i)::env) hp):Qu P F ops pre lo (o::rest) Q C base R env hp:=By rd _ b c h f
def gC (rd nm:List Nat) (dv:List (Nat×AV)) (p:Nat ->Nat ->Bool) (env:List (Nat×AV)) (hs':Hp) (xs:List Nat):Rc:=⟨rd,W7 (eH dv nm p env xs),nm,OK hs' nm,true,Mc nm p⟩
theorem oD (M:List Nat) (rd z:List Nat) (I:List (Nat×AV)) {l' H:List (Nat×AV)} {u E N:Hp} (hl:pick env rd=some a) (hh:BN hp z=some k) (h:∀F,cn P F ops o ⟨base.n,a,k⟩ ⟨base.n,l',u⟩ c)
  (V:(I=[]/\o.dst=none)\/∃d j,I=[(d,j)]/\o.dst=some d/\Nat.blt d base.n=true/\get l' d=some j/\j.ok (Ir z)=true) (n1:AP z u=true) (n2:cj z u=true)
  (X:B6 (Mc z c) env=some H) (w:CC z hp=some E) (K:some (u++E)=some N) (hK:Qu P F ops pre lo rest Q C base (gC rd z I c env u M::R) (I++H) N) (Y:∀f i,BT (OK u z) f=some i ->C f i:=by intro _ _ _;trivial):Qu P F ops pre lo (o::rest) Q C base R env hp:=λT hr hC hV O W=>by
 injection K with K
 subst K;obtain ⟨ho,D⟩:=K8 (rc:=gC rd z I c env u M) hr
 have A:∀f,cu E f=if f∈z then none else cu hp f:=by
  clear hK W O hr D hh
  intro f
  induction hp generalizing E with
  | nil=>simp only [CC,Option.some.injEq] at w;subst w;simp [cu]
  | cons q r ih=>
   obtain ⟨g,x⟩:=q;simp only [CC] at w
   split at w
   .cases w
   .rename_i r' D
    have J:=ih D
    split at w<;>(injection w with w;subst w)
    .rename_i B
     by_cases e:g=f
     .subst e;rw [J,ϖ (Fl.1 B),ϖ (Fl.1 B)]
     .simp only [cu,HK e];exact J
    .rename_i B
     by_cases e:g=f
     .subst e;have:g∉z:=λh=>by rw [Fl.2 h] at B;cases B
      simp [cu,this]
     .simp only [cu,HK e];exact J
 refine hK T D hC ⟨hV,⟨o,ho,Hs.eff hl hh O W h V n1 n2⟩,λf U=>?_,Y⟩ (λt x v=>?_) λf=>?_
 .have L:BT (OK u z) f≠none:=U;rw [IE] at L
  by_cases B:f∈z
  .exact B
  .rw [η B] at L;exact absurd Z L
 .show FO _ _ (RS (gC rd z I c env u M::R)) t=_;simp only [RS,dz,FO,gC];rw [KJ,eH,IK];rw [IK] at v
  cases hd:get I t with
  | some y=>rw [hd] at v;simp at v;subst v;simp
  | none=>
   rw [hd] at v;simp only [Option.none_or] at v⊢;rw [U2 X] at v;rw [Ja];have B:dB t []=false:=rfl;rw [B]
   cases hg:get env t with
   | none=>rw [hg] at v;cases v
   | some b=>
    rw [hg] at v;simp only [fS,Option.some.injEq] at v
    by_cases G:b= .top
    .subst G
     have S:x= .top:=by
      cases hq:AV.top.ok (Mc z c)<;>(rw [hq] at v;exact v.symm)
     subst S
     cases hm2:dB t M with
     | true=>
      simp only [AV.okK,Bool.not_true,fS,Option.getD_some]
     | false=>
      simp only [AV.okK,Bool.not_false,gk,Option.getD_none];exact O t _ hg
    simp only [AV.okK_eq G]
    cases hb:b.ok (Mc z c) with
    | true=>
     rw [hb] at v;simp only at v;subst v;simp only [gk,Option.getD_none];exact O t b hg
    | false=>
     rw [hb] at v;simp only at v;subst v;simp only [fS,Option.getD_some]
 .show _=FO _ _ (RF (gC rd z I c env u M::R)) f;simp only [RF,dz,FO,gC];rw [SV n1 f (λU=>by rw [A,ϖ U]),IE,A]
  split
  .simp
  .simp only [Option.getD_none];exact W f
theorem IU (rd j:List Nat) (v:List (Nat×AV)) {A r:List (Nat×AV)} {i t u:Hp} (E:pick env rd=some a) (G:BN hp j=some k) (h:∀F,cn P F ops o ⟨base.n,a,k⟩ ⟨base.n,A,i⟩ c)
  (y:(v=[]/\o.dst=none)\/∃d g,v=[(d,g)]/\o.dst=some d/\Nat.blt d base.n=true/\get A d=some g/\g.ok (Ir j)=true) (D:AP j i=true) (B:cj j i=true)
  (z:B6 (Mc j c) env=some r) (w:CC j hp=some t) (x:some (i++t)=some u) (H:Qu P F ops pre lo rest Q C base (gC rd j v c env i []::R) (v++r) u) (hCn:∀f b,BT (OK i j) f=some b ->C f b:=by intro _ _ _;trivial):Qu P F ops pre lo (o::rest) Q C base R env hp:=oD [] rd j v E G h y D B z w x H hCn
theorem Dh (c:Nat) {n:Nat} {a:List (Nat×AV)} {b:Hp} (g:Nat.beq (lo+(x::R).length) c=true) (i:Sp pre (c+rest.length) lo c=true) (f:Hk pre lo a b (x::R)=true) (h:Dw P F ops pre c rest Q ⟨n,env,hp⟩):Qu P F ops pre lo rest Q C ⟨n,a,b⟩ (x::R) env hp:=sL c g i f h
end
abbrev rg (n:Nat):List Nat:=List.range n
section
variable {P:Program} {ops:Array Oper} {Q:Exit ->AS ->Prop} {F:Fr} {pre:List (List Nat)} {lo:Nat} {rest:List Oper} {C:KF} {base:AS} {R:List Rc} {env:List (Nat×AV)} {hp:Hp}
variable {a:Array Edge} {c:String} {f:TypeId} {g:Nat} {h:AV}
theorem AX (rd:List Nat) {l:List (Nat×AV)} {j:Option Tmp} {i:Op} (k:pick env rd=some l) (b:∀{F},AA P F ⟨j,i,f,c,a,none⟩ ⟨base.n,l,[]⟩ g h) (o:Qu P F ops pre lo rest Q C base (eN rd [] g h::R) ((g,h)::env) hp):
  Qu P F ops pre lo (⟨j,i,f,c,a,none⟩::rest) Q C base R env hp:=By rd [] k Z (λ_=>A9 b) o
theorem At (t:Nat) (b:get env t=some h) (i:Nat.blt g base.n=true) (j:Qu P F ops pre lo rest Q C base (eN [t] [] g h::R) ((g,h)::env) hp):
  Qu P F ops pre lo (⟨some g,.move (.tmp t),f,c,a,none⟩::rest) Q C base R env hp:=
 AX [t] (l:=[(t,h)]) (by simp [pick,b]) (JJ (by simp [AS.ev,get]) i) j
end
theorem Bf.code {P:Program} {F:Fr} {Q:Exit ->AS ->Prop} {s:AS} {c a:Code} (e:c=a) (h:Bf P F a Q s):Bf P F c Q s:=e▸h
end Go.Proofs.YtnkkaeblokdifaaGreat
