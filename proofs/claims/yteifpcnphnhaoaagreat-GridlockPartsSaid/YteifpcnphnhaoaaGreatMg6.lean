import Derived.Test.YteifpcnphnhaoaaGreatMg5
import Derived.Orders
namespace Go.Proofs.YteifpcnphnhaoaaGreat
open Go.RowKit
variable {p:Nat ->Nat ->Bool} {a:Type} {c:List (Nat×AV)} {t:Nat} {R:List (List (Nat×a))} {d:List (Nat×Option (List AN))} {e:Nat ->a} {f:List (List Nat)} {g:Type} {h:List (Nat×Option AV)} {i:Hp} {j:List (Nat×a)} {k:List AN} {m:List g} {K:Act ->World ->Prop} {n:Nat} {w:World} {o q:Nat} {P:Program} {y x:g} {z:Nat} {A:Oper} {B:Nat ->Bool} {C:Act} {E:AV} {F:AN} {H:Nat}
def Bh {α:Type}:List (Nat×α) ->Nat ->Option α
 | [],_=>none
 | (k,a)::r,t=>match Nat.beq k t with
  | true=>some a
  | false=>Bh r t
def GJ {α:Type} (base:Nat ->α) (L:Nat ->Bool):List (List (Nat×α)) ->Nat ->α
 | [],t=>base t
 | ws::r,t=>match L r.length with
  | true=>(Bh ws t).getD (GJ base L r t)
  | false=>GJ base L r t
theorem I3 (h:m.reverse[o]? =some y):(x::m).reverse[o]? =some y:=by grind
theorem My:(x::m).reverse[m.length]? =some x:=by simp
theorem rev_cons_cases (h:(x::m).reverse[o]? =some y):m.reverse[o]? =some y\/(o=m.length/\y=x):=by grind
theorem Lx {r:List g} (h:r.reverse[o]? =some y):o<r.length:=by grind
theorem Gq {L:Nat ->Bool} (h:∀k b,R.reverse[k]? =some b ->Bh b t≠none ->L k=B k):GJ e L R t=GJ e B R t:=by
 induction R with
 | nil=>rfl
 | cons b r d=>
  have c:=d λk b g f=>h k b (I3 g) f;simp only [GJ]
  grind
theorem OS {A b:List (List (Nat×a))}:GJ e (λk=>decide (k<b.length)) (A++b) t=GJ e (λ_=>true) b t:=by
 induction A with
 | nil=>exact Gq λk d c _=>by have:=Lx (r:=b) c;simp [this]
 | cons x r f=>
  grind [GJ]
theorem tgt_origin {base:Nat ->a} {L:Nat ->Bool} {R:List (List (Nat×a))} {t:Nat}:(GJ base L R t=base t/\∀k c,R.reverse[k]? =some c ->Bh c t≠none ->L k=false)\/∃k c,R.reverse[k]? =some c/\L k=true/\Bh c t=some (GJ base L R t):=by
 induction R with
 | nil=>exact .inl ⟨Z,λk c h=>by simp at h⟩
 | cons c r l=>
  cases hL:L r.length with
  | false=>
   grind [GJ]
  | true=>
   cases hw:Bh c t with
   | some b=>
    have e:GJ base L (c::r) t=b:=by simp only [GJ,hL,hw,Option.getD_some]
    exact .inr ⟨r.length,c,My,hL,by rw [e];exact hw⟩
   | none=>
    have e:GJ base L (c::r) t=GJ base L r t:=by simp only [GJ,hL,hw,Option.getD_none]
    rw [e];rcases l with ⟨i,g⟩ | ⟨k,d,i,g,m⟩
    .refine .inl ⟨i,λk d f j=>?_⟩;rcases rev_cons_cases f with f | ⟨rfl,rfl⟩
     .exact g k d f j
     .exact absurd hw j
    .exact .inr ⟨k,d,I3 i,g,m⟩
theorem OR {L:Nat ->Bool} {i:Nat} {ws:List (Nat×a)} (n:R.reverse[i]? =some ws) (p:L i=false) (h:∀k,B k=if k=i then true else L k)
  (f:Bh ws t≠none ->∀k d,R.reverse[k]? =some d ->i<k ->L k=true ->Bh d t=none):GJ e B R t=(Bh ws t).getD (GJ e L R t):=by
 induction R with
 | nil=>simp at n
 | cons x r o=>
  rcases rev_cons_cases n with g | ⟨rfl,rfl⟩
  .have l:r.length≠i:=by have:=Lx g;omega
   have c:=o g λj k d m=>f j k d (I3 m);simp only [GJ,h,η l]
   cases hLr:L r.length with
   | false=>exact c
   | true=>
    cases j:Bh ws t with
    | none=>rw [j] at c;simp only [Option.getD_none] at c⊢;rw [c]
    | some b=>
     rw [f (by rw [j];simp) r.length x My (Lx g) hLr];rw [j] at c
     simpa using c
  .simp only [GJ,h,if_true,p]
   congr 1
   refine Gq λk d m _=>?_;rw [h,η (by have:=Lx m;omega)]
structure Rc where
 rd:List Nat
 ws:List (Nat×Option AV)
 nm:List Nat
 fs:List (Nat×Option (List AN))
 eff:Bool
 ok:Nat ->Nat ->Bool
def HR {α:Type} (ws:List (Nat×α)):List Nat ->Bool
 | []=>true
 | t::r=>(match Bh ws t with
  | none=>true
  | some _=>false) && HR ws r
theorem E3 {l:List Nat} (h:HR j l=true) {t:Nat} (c:t∈l):Bh j t=none:=by
 induction l with
 | nil=>cases c
 | cons b r d=>
  grind [HR]
def PA {α:Type}:List (Nat×α) ->List Nat
 | []=> []
 | (k,_)::r=>k::PA r
theorem UR (h:Bh j t≠none):t∈PA j:=by
 induction j with
 | nil=>exact absurd Z h
 | cons p r b=>
  grind [Bh,ωb,PA]
def okO (p:Nat ->Nat ->Bool):AN ->Bool
 | .blk _ cs=>okC p cs
 | .row _ _ xs=>xs.all λx=>Zb p x.cells
 | .rowD _ _ _=>true
 | .loop L=>NB p L.env
 | .map _ _=>true
 | .iter f i _ _=>p f i
 | .addr f i _=>p f i
 | .any=>true
 | .nb _ _ _=>true
 | .nr _ _ _ _ _=>true
 | .nm _ _ _=>true
 | .itz=>true
 | .multi _=>true
def Tt (p:Nat ->Nat ->Bool):List AN ->Bool
 | []=>true
 | o::r=>okO p o && Tt p r
theorem cy (h:okO p F=true) (b:F.Refs z q):p z q=true:=by
 cases F with
 | blk t u=>obtain ⟨c,d,b⟩:=b;exact On h d b
 | row t k j=>obtain ⟨x,m,c,d,b⟩:=b;exact Fo (χm.1 h x m) d b
 | rowD t k j=>exact b.elim
 | loop L=>obtain ⟨t,a,n,b⟩:=b;exact Om h n b
 | map _ s=>exact b.elim
 | iter r l _ _=>obtain ⟨g,e⟩:=b;subst g e;exact h
 | addr r l _=>obtain ⟨g,e⟩:=b;subst g e;exact h
 | any=>exact b.elim
 | nb _ _ _=>exact b.elim
 | nr _ _ _ _ _=>exact b.elim
 | nm _ _ _=>exact b.elim
 | itz=>exact b.elim
 | multi _=>exact b.elim
theorem Za (h:Tt p k=true) (b:F∈k) (d:F.Refs z q):p z q=true:=by
 induction k with
 | nil=>cases b
 | cons a r c=>
  grind [Tt,cy]
def WR (p:Nat ->Nat ->Bool) (ex:List (Nat×Option AV)):List (Nat×Option AV) ->Bool
 | []=>true
 | (t,a)::r=>(match Bh ex t with
  | some _=>true
  | none=>match a with
   | none=>true
   | some a=>a.ok p) && WR p ex r
theorem Qm {d:List (Nat×Option AV)} (c:WR p h d=true) (e:Bh d t=some (some E)) (g:Bh h t=none):E.ok p=true:=by
 induction d with
 | nil=>cases e
 | cons q r f=>
  obtain ⟨k,b⟩:=q;simp only [WR,ωd] at c
  grind [Bh,ωb]
def WS (p:Nat ->Nat ->Bool) (ex:List (Nat×Option (List AN))):List (Nat×Option (List AN)) ->Bool
 | []=>true
 | (t,a)::r=>(match Bh ex t with
  | some _=>true
  | none=>match a with
   | none=>true
   | some l=>Tt p l) && WS p ex r
theorem Qn {c:List (Nat×Option (List AN))} (h:WS p d c=true) (e:Bh c t=some (some k)) (g:Bh d t=none):Tt p k=true:=by
 induction c with
 | nil=>cases e
 | cons q r f=>
  obtain ⟨a,b⟩:=q;simp only [WS,ωd] at h
  grind [Bh,ωb]
def okE (p:Nat ->Nat ->Bool) (ex:List (Nat×Option AV)):List Nat ->List (Nat×AV) ->Bool
 | _,[]=>true
 | ks,(t,a)::r=>(match memB t ks with
  | true=>true
  | false=>match Bh ex t with
   | some _=>true
   | none=>a.ok p) && okE p ex (t::ks) r
theorem dA {e:List Nat} (d:okE p h e c=true) (f:get c t=some E) (i:t∉e) (l:Bh h t=none):E.ok p=true:=by
 induction c generalizing e with
 | nil=>cases f
 | cons q r j=>
  obtain ⟨k,b⟩:=q;simp only [okE,ωd] at d;rcases Mp f with ⟨rfl,rfl⟩ | ⟨g,f⟩
  .have:memB k e=false:=by
    cases hm:memB k e with
    | false=>rfl
    | true=>exact absurd (G4.1 hm) i
   grind
  grind
def okH (p:Nat ->Nat ->Bool) (ex:List (Nat×Option (List AN))):Hp ->Bool
 | []=>true
 | (f,l)::r=>(match Bh ex f with
  | some _=>true
  | none=>Tt p l) && okH p ex r
theorem cz (h:okH p d i=true) (a:hfam i z=some k) (c:Bh d z=none):Tt p k=true:=by
 induction i with
 | nil=>cases a
 | cons q r b=>
  grind [okH,hfam,ωb]
def Oh (ord:Bool) (rj ri:Rc):Bool:=
 (ord || (HR rj.ws ri.rd &&(HR rj.ws (PA ri.ws) &&(HR ri.ws rj.rd &&(HR rj.fs ri.nm && HR ri.fs rj.nm))))) &&
 ((!ri.eff || (WR ri.ok ri.ws rj.ws && WS ri.ok ri.fs rj.fs)) &&(ord || (!rj.eff || (WR rj.ok rj.ws ri.ws && WS rj.ok rj.fs ri.fs))))
def preAt:List (List Nat) ->Nat ->List Nat
 | [],_=> []
 | l::_,0=>l
 | _::r,i+1=>preAt r i
def OA (pr:List Nat) (lo:Nat) (ri:Rc):List Rc ->Bool
 | []=>true
 | rj::r=>Oh (memB (lo+r.length) pr) rj ri && OA pr lo ri r
def Iu (pre:List (List Nat)) (lo:Nat) (env:List (Nat×AV)) (hp:Hp):List Rc ->Bool
 | []=>true
 | ri::r=>OA (preAt pre (lo+r.length)) lo ri r &&((!ri.eff || (okE ri.ok ri.ws [] env && okH ri.ok ri.fs hp)) && Iu pre lo env hp r)
variable {u G:Rc}
theorem S9 {a:List Nat} {r:List Rc} (h:OA a n u r=true) (b:r.reverse[H]? =some G):Oh (memB (n+H) a) G u=true:=by
 induction r with
 | nil=>simp at b
 | cons x r c=>
  grind [OA]
variable {s:List Rc}
theorem G2 (h:Iu f n c i s=true) (b:s.reverse[q]? =some u) (e:s.reverse[H]? =some G) (a:H<q):Oh (memB (n+H) (preAt f (n+q))) G u=true:=by
 induction s with
 | nil=>simp at b
 | cons x r d=>
  grind [Iu,rev_cons_cases,S9]
theorem NL (h:Iu f n c i s=true) (a:s.reverse[q]? =some u) (d:u.eff=true):okE u.ok u.ws [] c=true/\okH u.ok u.fs i=true:=by
 induction s with
 | nil=>simp at a
 | cons x r b=>
  grind [Iu]
def Qg (ops:List Oper) (pre:List (List Nat)):List (List Nat) ->List Oper ->Nat ->Bool
 | [],[],_=>true
 | l::ls,o::os,i=>(l.all λx=>o.after.toList.any λe=>Region.binds .any e &&(Nat.beq e.on x || memB x (preAt pre e.on))) &&((o.after.toList.all λe=>!Region.binds .any e || Nat.blt e.on i) && Qg ops pre ls os (i+1))
 | _,_,_=>false
def Gn (P:Program) (ops:Array Oper) (o:Oper) (K:Act ->World ->Prop) (a:Act) (w:World):Prop:=
 if Region.wanted o (yielded ops a.tmps) then o.wp P a w K (λ_ _ _=>False) else K (a.put o.dst undef) w
theorem HV {b:Array Oper} {c:Act ->World ->Prop} (d:∀C w,K C w ->c C w) (h:Gn P b A K C w):Gn P b A c C w:=by grind [Gn,ZcJ]
theorem wp_put (h:A.wp P C w K (λ_ _ _=>False)):A.wp P C w (λc e=>K c e/\∃v,c.tmps=(C.put A.dst v).tmps) (λ_ _ _=>False):=by
 unfold Oper.wp at h⊢
 generalize (execOp C.eval A).run P w=r at h
 cases r with
 | ok x w=>
  cases x with
  | value v=>exact ⟨h,v,Z⟩
  | skip=>exact ⟨h,_,Z⟩
  | defer d=>
   refine ⟨h,undef,?_⟩
   cases A.dst<;>rfl
  | enter f b=>
   grind [Oper.upon_enter]
  | row r b=>
   grind [Oper.upon_row]
  | _=>exact h.elim
 | halt x w=>
  cases x<;>exact h.elim
abbrev Lg:=Nat ->Option (List AN) ->Prop
abbrev C0:Lg:=λ_ _=>True
def JD (P:Program) (ops:Array Oper) (n:Nat) (o:Oper) (rc:Rc) (C:Lg) (txtS:Nat ->Option AV) (txtF:Nat ->Option (List AN)):Prop:=
 ∀F ρ act w env hp,SR F ⟨n,env,hp⟩ ρ act w ->(∀f,C f (hfam hp f)) ->(∀t∈rc.rd,get env t=txtS t) ->(∀f∈rc.nm,hfam hp f=txtF f)→
  (rc.eff=true ->∀t a,get env t=some a ->Bh rc.ws t=none ->a.ok rc.ok=true) ->(rc.eff=true ->∀f l,hfam hp f=some l ->Bh rc.fs f=none ->Tt rc.ok l=true)→
  Gn P ops o (λact' w'=>∃ρ' env' hp',SR F ⟨n,env',hp'⟩ ρ' act' w'/\(∀t,get env' t=(Bh rc.ws t).getD (get env t))/\∀f,hfam hp' f=(Bh rc.fs f).getD (hfam hp f)) act w
def JF (P:Program) (F:Fr) (ops:Array Oper) (o:Oper) (s:AS) (d:Nat) (a:AV):Prop:=d<s.n/\∀ρ act w,SR F s ρ act w→
 Gn P ops o (λact' w'=>∃v,act'=act.put (some d) v/\A9 w' (F.O ρ s.hp) ρ a v/\(w'.os=w.os/\w'.tape=w.tape/\w'.output=w.output/\F.w0.drawn<=w'.drawn)/\w.heap.size<=w'.heap.size/\∀b,b<w.heap.size ->w'.heap[b]? =w.heap[b]?) act w
def gG (P:Program) (F:Fr) (ops:Array Oper) (o:Oper) (s s':AS) (p:Nat ->Nat ->Bool):Prop:=∀ρ act w,SR F s ρ act w→
 Gn P ops o (λact' w'=>∃ρ',SR F s' ρ' act' w'/\(∃v,act'.tmps=(act.put o.dst v).tmps)/\∀f i,p f i=true ->ρ' f i=ρ f i) act w
theorem Ba.stay {F:Fr} {k:Nat ->Nat ->Value} {d:World} (h:Ba F i k w) (e:d.os=w.os/\d.tape=w.tape/\d.output=w.output/\F.w0.drawn<=d.drawn) (j:w.heap.size<=d.heap.size) (g:∀b,b<w.heap.size ->d.heap[b]? =w.heap[b]?):Ba F i k d:=by
 refine ⟨λf a o e=>?_,h.inj,λb g=>⟨ψf (h.mine b g).1 j,(h.mine b g).2⟩,e.1.trans h.os,e.2.1.trans h.tape,e.2.2.1.trans h.output,ωa h.size0 j,λb c m=>?_,h.pins,e.2.2.2⟩
 .exact (h.sim f a o e).mono j (λb c _=>g b c) (λ_ _ h=>h) (λb l=>g b (h.mine b ⟨f,a,o,e,l⟩).1) λ_ _ _=>rfl
 .rw [g b (ψf c h.size0)];exact h.keep b c m
theorem Js {b:Hp} {c:List Nat} (h:Bb i c=some b):A6 c b=true/\∀g,g∈c ->hfam b g=hfam i g:=by
 have e:∀(c:List Nat) (b:Hp),Bb i c=some b ->(∀g l,(g,l)∈b ->g∈c)/\∀g,g∈c ->hfam b g=hfam i g:=by
  intro c
  induction c with
  | nil=>intro b h;simp only [Bb,Option.some.injEq] at h;subst h;exact ⟨(λg l h=>nomatch h),(λg h=>nomatch h)⟩
  | cons a r f=>
   intro b h;simp only [Bb] at h
   split at h
   .cases h
   .rename_i l o
    obtain ⟨j,m⟩:=f l o
    split at h
    .rename_i n
     injection h with h;subst h
     refine ⟨λg x d=>ωw _ (j g x d),λg d=>?_⟩;rcases Υ.1 d with rfl | d
     .by_cases s:g∈r
      .grind
      .rw [n]
       cases hh:hfam l g with
       | none=>rfl
       | some x=>
        have:∀(l:Hp) x,hfam l g=some x ->∃y,(g,y)∈l:=by
         intro l
         induction l with
         | nil=>intro x h;cases h
         | cons p q f=>
          grind [hfam,ωb]
        grind
     grind
    grind [hfam,ωb,ωx]
 obtain ⟨j,m⟩:=e c b h;refine ⟨?_,m⟩
 clear h m e
 induction b with
 | nil=>rfl
 | cons p r f=>
  obtain ⟨k,l⟩:=p;simp only [A6,ωd];exact ⟨G4.2 (j k l ωu),f λg l d=>j g l (ωw _ d)⟩
theorem F2 {hp CH:Hp} {nm:List Nat} (h:∀g,g∈nm ->hfam hp g=hfam CH g):CP hp CH nm:=by
 induction nm with
 | nil=>trivial
 | cons a r b=>exact ⟨h a ωu,b λg c=>h g (ωw _ c)⟩
theorem Og {b:List (Nat×AV)} {rd:List Nat} {l:List (Nat×AV)} (c:pick b rd=some l):∀t a,get l t=some a ->t∈rd/\get b t=some a:=by
 induction rd generalizing l with
 | nil=>intro t a d;simp only [pick,Option.some.injEq] at c;subst c;cases d
 | cons x r e=>
  intro t a d;simp only [pick] at c
  grind [Mp,get]
section
variable {P:Program} {ops:Array Oper} {n:Nat} {o:Oper}
variable {a:List Nat} {c p:Nat ->Nat ->Bool} {d f:List (Nat×AV)} {g:AV} {C:Lg} {h i j:Hp} {k m:Nat}
theorem JD.pure {rd:List Nat} {txtS:Nat ->Option AV} {txtF:Nat ->Option (List AN)} (Q:pick d rd=some f) (R:Bb h a=some i)
  (S:∀t g,get d t=some g ->txtS t=some g) (T:∀j,hfam h j=txtF j) (c:∀F,JF P F ops o ⟨n,f,i⟩ k g):JD P ops n o ⟨rd,[(k,some g)],a,[],false,λ_ _=>true⟩ C txtS txtF:=by
 intro F r z w q B m _ V U _ _;obtain ⟨O,N⟩:=Js R;obtain ⟨y,M,G⟩:=F1 F.lo m.heap a (F2 λe K=>by rw [U e K,<-T,N e K]) O;have u:=Og Q
 have I:SR (Bs F F.lo B i r w y) ⟨n,f,i⟩ r z w:=by
  refine ⟨m.size,G▸m.defs,λt x H=>?_,M⟩;obtain ⟨Z,Y⟩:=u t x H;rw [G];exact m.env t x (by show get q t=some x;rw [V t Z];exact S t x Y)
 obtain ⟨X,W⟩:=c (Bs F F.lo B i r w y);refine HV ?_ (W r z w I);rintro L w' ⟨v,rfl,J,A,E,D⟩;refine ⟨r,(k,g)::q,B,SR.put (s:=⟨n,q,B⟩) ⟨m.size,m.defs.mono E (λb p _=>D b p) (λ_ _ c=>c),λt x H=>(m.env t x H).mono E (λb p _=>D b p) (λ_ _ c=>c) (λ_ _ _=>rfl),m.heap.stay ⟨A.1,A.2.1,A.2.2.1,ωa m.heap.drawn A.2.2.2⟩ E D⟩ X (by rw [G] at J;exact J),λt=>?_,λj=>rfl⟩;simp only [Bh,get]
 grind
theorem JD.pure2 {rd:List Nat} {c1 Z:List AN} {txtS:Nat ->Option AV} {txtF:Nat ->Option (List AN)} (hl:pick d rd=some f) (hh:Bb h a=some i) (Y:memB m a=false)
  (hS:∀t g,get d t=some g ->txtS t=some g) (hF:∀m,hfam h m=txtF m) (hC:∀x,C m x ->x=some c1\/x=some Z) (h1:∀F,JF P F ops o ⟨n,f,(m,c1)::i⟩ k g) (h2:∀F,JF P F ops o ⟨n,f,(m,Z)::i⟩ k g):JD P ops n o ⟨rd,[(k,some g)],a,[],false,λ_ _=>true⟩ C txtS txtF:=by
 intro F E D w u A q hCf g1 g2 g3 g4;obtain ⟨p1,p2⟩:=Js hh;have hfn:m∉a:=λhm=>by rw [G4.2 hm] at Y;cases Y
 have Q:∀c,hfam A m=some c ->(∀F,JF P F ops o ⟨n,f,(m,c)::i⟩ k g) ->Gn P ops o (λz V=>∃L y G,SR F ⟨n,y,G⟩ L z V/\(∀t,get y t=(Bh [(k,some g)] t).getD (get u t))/\∀m,hfam G m=(Bh ([]:List (Nat×Option (List AN))) m).getD (hfam A m)) D w:=λc hc e=>by
  have U:CP A ((m,c)::i) (m::a):=F2 λj X=>by
   rcases Υ.1 X with rfl | X
   .simp [hfam,hc]
   grind [hfam,IP]
  have T:A6 (m::a) ((m,c)::i)=true:=by
   simp only [A6,ωd];refine ⟨G4.2 ωu,?_⟩
   have Q:∀(H:Hp),A6 a H=true ->A6 (m::a) H=true:=by
    intro H
    induction H with
    | nil=>intro _;rfl
    | cons p r ih=>
     grind [A6,memB]
   grind
  obtain ⟨J,q1,O⟩:=F1 F.lo q.heap (m::a) U T;have I:=Og hl
  have S:SR (Bs F F.lo A ((m,c)::i) E w J) ⟨n,f,(m,c)::i⟩ E D w:=by
   refine ⟨q.size,O▸q.defs,λt x R=>?_,q1⟩;obtain ⟨e1,e2⟩:=I t x R;rw [O];exact q.env t x (by show get u t=some x;rw [g1 t e1];exact hS t x e2)
  obtain ⟨k0,k1⟩:=e (Bs F F.lo A ((m,c)::i) E w J);refine HV ?_ (k1 E D w S);rintro z V ⟨v,rfl,W,K,N,M⟩;refine ⟨E,(k,g)::u,A,SR.put (s:=⟨n,u,A⟩) ⟨q.size,q.defs.mono N (λb B _=>M b B) (λ_ _ e=>e),λt x R=>(q.env t x R).mono N (λb B _=>M b B) (λ_ _ e=>e) (λ_ _ _=>rfl),q.heap.stay ⟨K.1,K.2.1,K.2.2.1,ωa q.heap.drawn K.2.2.2⟩ N M⟩ k0 (by rw [O] at W;exact W),λt=>?_,λm=>rfl⟩;simp only [Bh,get]
  grind
 grind
def AV.okK (ok:Nat ->Nat ->Bool) (b:Bool):AV ->Bool
 | .top=>!b
 | a=>a.ok ok
theorem AV.okK_eq {b:Bool} (h:g≠ .top):g.okK c b=g.ok c:=by
 cases g<;>first | rfl | exact absurd rfl h
def Hg (ok:Nat ->Nat ->Bool) (xs:List Nat):List Nat ->List (Nat×AV) ->List (Nat×AV)
 | _,[]=> []
 | ks,(t,a)::r=>match memB t ks,a.okK ok (memB t xs) with
  | false,false=>(t,.top)::Hg ok xs (t::ks) r
  | _,_=>Hg ok xs (t::ks) r
variable {e:List (Nat×AV)}
theorem LC {g ks:List Nat} {t:Nat}:get (Hg c g ks e) t=match memB t ks,get e t with
  | false,some a=>match a.okK c (memB t g) with
   | true=>none
   | false=>some .top
  | _,_=>none:=by
 induction e generalizing ks with
 | nil=>simp only [Hg,get];cases memB t ks<;>rfl
 | cons q r j=>
  obtain ⟨k,b⟩:=q;have f:=j (ks:=k::ks);simp only [Hg]
  by_cases d:k=t
  .subst d;have h:memB k (k::ks)=true:=G4.2 ωu;rw [h] at f;have i:get ((k,b)::r) k=some b:=by simp only [get,ψw]
   rw [i]
   cases h1:memB k ks with
   | true=>exact f
   | false=>
    cases h2:b.okK c (memB k g) with
    | true=>simp only [h2];exact f
    | false=>simp only [h2,get,ψw]
  .have h:memB t (k::ks)=memB t ks:=by simp only [memB,IP d,Bool.false_or]
   rw [h] at f;have i:get ((k,b)::r) t=get r t:=by simp only [get,IP d]
   rw [i]
   split
   .simp only [get,IP d];exact f
   .exact f
theorem W0 {c:List (Nat×AV)} (h:Bw p e=some c) (t:Nat):get c t=(get e t).map λa=>match a.ok p with
  | true=>a
  | false=> .top:=by
 induction e generalizing c with
 | nil=>simp only [Bw,Option.some.injEq] at h;subst h;rfl
 | cons q r g=>
  obtain ⟨k,x⟩:=q;simp only [Bw] at h
  split at h
  .cases h
  .rename_i j i
   have d:=g i
   split at h<;>(injection h with h;subst h)
   .rename_i f
    by_cases b:k=t
    .subst b;simp only [get,ψw,ψl,f]
    .simp only [get,IP b];exact d
   .rename_i f
    by_cases b:k=t
    .subst b;simp only [get,ψw,ψl,f]
    .simp only [get,IP b];exact d
def Yk:List (Nat×AV) ->List (Nat×Option AV)
 | []=> []
 | (t,a)::r=>(t,some a)::Yk r
theorem Li (l:List (Nat×AV)) (t:Nat):Bh (Yk l) t=(get l t).map some:=by
 induction l with
 | nil=>rfl
 | cons q r a=>
  grind [Yk,Bh,get]
theorem JW (l a:List (Nat×AV)) (t:Nat):get (l++a) t=(get l t).or (get a t):=by
 induction l with
 | nil=>rfl
 | cons q r b=>
  grind [get]
def QG (hs':Hp):List Nat ->List (Nat×Option (List AN))
 | []=> []
 | f::r=>(f,hfam hs' f)::QG hs' r
theorem JR:Bh (QG j a) m=if m∈a then some (hfam j m) else none:=by
 induction a with
 | nil=>simp [QG,Bh]
 | cons b r c=>
  simp only [QG,Bh]
  by_cases e:b=m
  .subst e;simp
  grind [IP]
def L1 (nm:List Nat):Hp ->Hp
 | []=> []
 | (g,l)::r=>match memB g nm with
  | true=>L1 nm r
  | false=>(g,l)::L1 nm r
theorem KI {b:Hp} (f:Nat):hfam (L1 a b) f=if f∈a then none else hfam b f:=by
 induction b with
 | nil=>simp [L1,hfam]
 | cons q r d=>
  obtain ⟨k,l⟩:=q;simp only [L1]
  by_cases e:k=f
  .subst e
   cases hm:memB k a with
   | true=>simp only [d,ς (G4.1 hm)]
   | false=>
    have c:k∉a:=λh=>by rw [G4.2 h] at hm;cases hm
    simp [hfam,c]
  grind [hfam,IP]
theorem U4 {H b:Hp} (e:A6 a H=true) (f:Nat) (h:f∈a ->hfam b f=none):hfam (H++b) f=if f∈a then hfam H f else hfam b f:=by
 have c:∀H:Hp,hfam (H++b) f=(hfam H f).or (hfam b f):=by
  intro H
  induction H with
  | nil=>rfl
  | cons p r g=>
   grind [hfam]
 rw [c]
 split
 .grind
 .rename_i d
  cases hh:hfam H f with
  | none=>rfl
  | some l=>exact absurd (GY e hh) d
def Ok (nm:List Nat) (p:Nat ->Nat ->Bool) (f i:Nat):Bool:=!(memB f nm) || p f i
def effWs (dv:List (Nat×AV)) (nm:List Nat) (p:Nat ->Nat ->Bool) (env0:List (Nat×AV)) (xs:List Nat):List (Nat×AV):=dv++Hg (Ok nm p) xs [] env0
theorem JD.eff {rd O:List Nat} {l' K:List (Nat×AV)} {txtS:Nat ->Option AV} {txtF:Nat ->Option (List AN)} (hl:pick d rd=some f) (hh:Bb h a=some i)
  (hS:∀t s,get d t=some s ->txtS t=some s) (hF:∀q,hfam h q=txtF q) (k:∀F,gG P F ops o ⟨n,f,i⟩ ⟨n,l',j⟩ p)
  (X:(K=[]/\o.dst=none)\/∃r s,K=[(r,s)]/\o.dst=some r/\Nat.blt r n=true/\get l' r=some s/\s.ok (Jc a)=true) (n1:A6 a j=true) (n2:Fu a j=true):
  JD P ops n o ⟨rd,Yk (effWs K a p d O),a,QG j a,true,Ok a p⟩ C txtS txtF:=by
 intro F Y T w H hp A _ h1 h2 h3 h4;obtain ⟨p1,p2⟩:=Js hh;have W:=F2 (hp:=hp) (CH:=i) (nm:=a) λg hg=>by rw [h2 g hg,<-hF,p2 g hg]
 obtain ⟨R,q1,q2⟩:=F1 F.lo A.heap a W p1;have V:=Og hl
 have hsm:SR (Bs F F.lo hp i Y w R) ⟨n,f,i⟩ Y T w:=by
  refine ⟨A.size,q2▸A.defs,λt x hx=>?_,q1⟩;obtain ⟨M,S⟩:=V t x hx;rw [q2];exact A.env t x (by show get H t=some x;rw [h1 t M];exact hS t x S)
 refine HV ?_ (k (Bs F F.lo hp i Y w R) Y T w hsm);rintro N w' ⟨ρ',L,⟨v,hv⟩,hp'⟩
 have E:∀g c,hget (L1 a hp) g c=if g∈a then none else hget hp g c:=λg c=>by
  simp only [hget,KI]
  split<;>rfl
 have G:∀g c I,hget (L1 a hp) g c=some I ->I.Less (Ok a p) I:=λg c I z=>by
  rw [E] at z
  split at z
  .cases z
  .rename_i hg
   simp only [hget] at z
   cases hfa:hfam hp g with
   | none=>rw [hfa] at z;cases z
   | some lo=>
    rw [hfa] at z;have D:=h4 Z g lo hfa (by rw [JR,η hg]);exact ⟨λ_ _ _ _ k=>k,λq c hr=>(gl_mem z).elim (λhm=>Za D hm hr) (λ⟨_,m,_,_,e⟩=>absurd (e▸hr) Ap.norefs),λt cs e=>⟨cs,e⟩,λt cs e=>⟨cs,e⟩⟩
 obtain ⟨U,a1,a2,a3,a4,a5,_,a6⟩:=RB (ok:=Ok a p) A.heap a W p1 E (λg c I z=>⟨I,z,G g c I z⟩) (λg c I z=>⟨I,z,G g c I z⟩) R q1 L.heap n1 n2
  (λq c Q D=>hp' q c (by simpa only [Ok,G4.2 Q,Bool.not_true,Bool.false_or] using D))
 have B:N.tmps.size=n/\∀t,get K t=none ->N.tmps.getD t undef=T.tmps.getD t undef:=by
  refine ⟨L.size,λt ht=>?_⟩;rcases X with ⟨M,S⟩ | ⟨r,s,M,S,e3,_⟩
  .rw [hv,S];rfl
  .rw [hv,S];refine NG λe=>?_;subst e;rw [M] at ht;simp [get] at ht
 refine ⟨U,effWs K a p d O++H,j++L1 a hp,⟨B.1,L.defs.mono (Γ _) (λ_ _ _=>rfl) (λb _=>a6 b),λt x hx=>?_,a1⟩,λt=>?_,λq=>?_⟩
 .have u:get (effWs K a p d O++H) t=some x:=hx;rw [JW,effWs,JW] at u
  cases J:get K t with
  | some y=>
   rw [J] at u
   simp at u
   subst u;rcases X with ⟨M,S⟩ | ⟨r,s,M,S,e3,e4,e5⟩
   .rw [M] at J;cases J
   .rw [M] at J;rcases Mp J with ⟨rfl,rfl⟩ | ⟨_,J⟩
    .exact a2 _ _ (λq c Q=>G4.1 (AV.ok_spec e5 Q)) (L.env r s e4)
    .cases J
  | none=>
   rw [J] at u;simp only [Option.none_or] at u
   cases hk:get (Hg (Ok a p) O [] d) t with
   | some y=>
    rw [hk] at u
    simp at u
    subst u;rw [LC] at hk
    have:y=AV.top:=by
     split at hk
     .split at hk
      .cases hk
      .injection hk with hk;exact hk.symm
     .cases hk
    rw [this];exact .top
   | none=>
    rw [hk] at u;simp only [Option.none_or] at u;have D:=h3 Z t x u (by rw [Li,effWs,JW,J,hk];rfl);rw [B.2 t J];exact a3 _ _ (λq c Q=>AV.ok_spec D Q) (A.env t x u)
 .show get (effWs K a p d O++H) t=(Bh (Yk (effWs K a p d O)) t).getD (get H t);rw [Li,JW]
  cases get (effWs K a p d O) t<;>rfl
 .show hfam (j++L1 a hp) q=(Bh (QG j a) q).getD (hfam hp q);rw [U4 n1 q (λQ=>by rw [KI,ς Q]),JR,KI]
  split<;>simp
end
variable {a:List (List Nat)} {c:Array Oper} {L:Nat ->Bool}
def Lf (listed:Array Bool) (k:Nat):Bool:=listed.getD k false
def cnt (L:Nat ->Bool):Nat ->Nat
 | 0=>0
 | n+1=>cnt L n+(match L n with
  | true=>0
  | false=>1)
theorem cnt_set {a:Nat ->Bool} {i n:Nat} (g:L i=false) (d:∀k,a k=if k=i then true else L k) (e:i<n):cnt a n+1=cnt L n:=by
 induction n with
 | zero=>omega
 | succ n b=>
  have c:∀m,m<=i ->cnt a m=cnt L m:=by
   intro m
   induction m with
   | zero=>intro _;rfl
   | succ m b=>intro f;simp only [cnt,b (by omega),d,η (show ¬m=i by omega)]
  grind [cnt]
theorem cnt_pos {i n:Nat} (c:L i=false) (b:i<n):0<cnt L n:=by
 induction n with
 | zero=>omega
 | succ n a=>
  grind [cnt]
theorem Lf_set {listed:Array Bool} {i:Nat} (a:i<listed.size) (k:Nat):Lf (listed.setIfInBounds i true) k=if k=i then true else Lf listed k:=by
 unfold Lf
 by_cases e:k=i
 .simp_all
 .rw [η e];simp [Array.getElem?_setIfInBounds_ne (λh=>e h.symm)]
structure FV (ops:Array Oper) (pre:List (List Nat)):Prop where
 preds:∀(j:Nat) o,ops[j]? =some o ->∀x∈preAt pre j,∃e∈o.after,Region.binds .any e=true/\(e.on=x\/x∈preAt pre e.on)
 back:∀(j:Nat) o,ops[j]? =some o ->∀e∈o.after,Region.binds .any e=true ->e.on<j
 nod:∀(j:Nat) o,ops[j]? =some o ->Op.isDefer o.op=false
theorem WM (h:Qg c.toList a a c.toList 0=true) (m:c.toList.all (λo=>!Op.isDefer o.op)=true):FV c a:=by
 have k:∀(f:List (List Nat)) (d:List Oper) (i:Nat),Qg c.toList a f d i=true ->(∀j,preAt f j=preAt a (i+j)) ->∀(j:Nat) o,d[j]? =some o→
   (∀x∈preAt a (i+j),∃e∈o.after,Region.binds .any e=true/\(e.on=x\/x∈preAt a e.on))/\∀e∈o.after,Region.binds .any e=true ->e.on<i+j:=by
  intro f
  induction f with
  | nil=>intro d i h _ j o b;cases d with
   | nil=>simp at b
   | cons _ _=>simp [Qg] at h
  | cons l f s=>
   intro d i h q j o b
   cases d with
   | nil=>simp at b
   | cons w d=>
    simp only [Qg,ωd] at h;obtain ⟨v,u,t⟩:=h
    cases j with
    | zero=>
     simp at b;subst b
     have r:=q 0;simp only [preAt,ψx] at r;refine ⟨λx p=>?_,λe n g=>?_⟩
     .rw [ψx,<-r] at p;have:=χm.1 v x p;obtain ⟨e,n,g⟩:=List.any_eq_true.1 this;simp only [ωd,Bool.or_eq_true] at g;exact ⟨e,Array.mem_toList_iff.1 n,g.1,g.2.imp ωb G4.1⟩
     .have:=χm.1 u e (Array.mem_toList_iff.2 n);rw [g] at this
      simpa using IS (by simpa using this)
    | succ j=>
     have:=s d (i+1) t (λj=>by have:=q (j+1);simp only [preAt] at this;rw [this];congr 1;omega) j o (by simpa using b);rw [show i+1+j=i+(j+1) by omega] at this;exact this
 have y:=k a c.toList 0 h (λj=>by rw [ψu]);refine ⟨λj o b=>?_,λj o b=>?_,λj o b=>by simpa using χm.1 m o (Array.mem_toList_iff.2 (Array.mem_of_getElem? b))⟩
 .grind
 simp_all
theorem FV.lt (h:FV c a):∀j,j<c.size ->∀x∈preAt a j,x<j:=by
 intro j
 induction j using Nat.strongRecOn with
 | _ j k=>
  intro b x f;obtain ⟨e,g,i,d⟩:=h.preds j _ (ωg b) x f;have:=h.back j _ (ωg b) e g i
  grind
section
variable {P:Program} {ops:Array Oper} {pre:List (List Nat)} {r:Option Nat} {Q:Exit ->Act ->World ->Prop}
variable {K:Act ->World ->Prop} {w:World} {o:Oper} {a:Act}
theorem F8 {l:Act ->World ->Prop} {Q j:Exit ->Act ->World ->Prop} (f:∀a w,K a w ->l a w) (d:∀e a w,e≠ .normal ->Q e a w ->j e a w) (b:o.wpIn (RJ r) 0 P a w K Q):o.wpIn (RJ r) 0 P a w l j:=by
 unfold Oper.wpIn at*;refine ⟨b.1,?_⟩;have b:=b.2
 generalize (o.semAt (RJ r).round a.eval).run P w=i at*
 have k:LetsOut Q ->LetsOut j:=λ⟨a,w,h⟩=>⟨a,w,d _ _ _ (by simp) h⟩
 cases i with
 | ok x m=>
  cases x<;>simp only [Oper.uponIn] at b⊢<;>
   first
    | exact f _ _ b
    | exact ⟨b.1,CallsIn.mono b.2 (λe g c=>by cases e<;>first | exact f _ _ c | exact d _ _ _ (by simp) c | exact k c)⟩
    | exact ⟨b.1,RowsIn.mono b.2 (λ_ _ c=>f _ _ c)⟩
    | exact ⟨b.1,RoundIn.mono b.2 (λe g c=>by cases e<;>first | exact f _ _ c | exact d _ _ _ (by simp) c | exact k c)⟩
 | halt x m=>cases x<;>simp only [Oper.uponIn] at b⊢<;>first | exact d _ _ _ (by simp) b | exact b
def E8 (P:Program) (r:Option Nat) (ops:Array Oper) (o:Oper) (Q:Exit ->Act ->World ->Prop) (K:Act ->World ->Prop) (a:Act) (w:World):Prop:=
 if Region.wanted o (yielded ops a.tmps) then o.wpIn (RJ r) 0 P a w K Q else K (a.put o.dst undef) w
theorem Vh (b:Op.isDefer o.op=false) (h:Gn P ops o K a w):E8 P r ops o Q K a w:=by grind [Gn,E8,F7]
theorem Lj (U:FV ops pre) (y p:Nat) (hhi:p<=ops.size) (I:∀j,p<=j ->j<ops.size ->∀x,y<=x ->x<p ->x∈preAt pre j) (Inv:(Nat ->Bool) ->Act ->World ->Prop)
  (step:∀(L:Nat ->Bool) a w i,y<=i ->i<p ->L i=false ->(∀x∈preAt pre i,L x=true) ->(∀j,j<ops.size ->L j=true ->∀x∈preAt pre j,L x=true) ->Inv L a w ->∃o,ops[i]? =some o/\E8 P r ops o Q (Inv λk=>if k=i then true else L k) a w)
  (fin:∀listed a w,listed.size=ops.size ->(∀k,Lf listed k=decide (k<p)) ->Inv (Lf listed) a w ->wpAnyIn (RJ r) 0 P .any ops Q (cnt (Lf listed) ops.size) listed a w):
  ∀b (listed:Array Bool) a w,listed.size=ops.size ->b=cnt (Lf listed) ops.size ->(∀j,j<ops.size ->Lf listed j=true ->∀x∈preAt pre j,Lf listed x=true) ->(∀k,k<y ->Lf listed k=true) ->(∀k,p<=k ->Lf listed k=false) ->Inv (Lf listed) a w ->wpAnyIn (RJ r) 0 P .any ops Q b listed a w:=by
 intro b
 induction b with
 | zero=>
  grind [Lf,cnt_pos]
 | succ b ih=>
  intro listed a w T hf u B E hI
  by_cases m:∀k,y<=k ->k<p ->Lf listed k=true
  .grind
  .have W:∀{j},j∈Region.ready .any ops listed ->j<ops.size/\Lf listed j=false/\∀x∈preAt pre j,Lf listed x=true:=λ{j} v=>by
    obtain ⟨n,o,g,J⟩:=mem_ready.1 v;have t:j<ops.size:=(ωn.1 g).1;refine ⟨t,?_,λx M=>?_⟩
    .unfold Lf;rw [ψh,ωg (by omega)] at n⊢;exact n
    .obtain ⟨e,N,O,s⟩:=U.preds j o g x M;have H:=J e N O;rcases s with rfl | s
     .exact H
     .exact u e.on (by have:=U.back j o g e N O;omega) H x s
   have V:Region.ready .any ops listed≠ []:=by
    have Z:∃k,k<ops.size/\Lf listed k=false:=by
     refine Classical.byContradiction λG=>m λk D C=>?_
     cases q:Lf listed k with
     | true=>rfl
     | false=>exact absurd ⟨k,by omega,q⟩ G
    obtain ⟨k,l⟩:=Z
    have z:∃k,(k<ops.size/\Lf listed k=false)/\∀j,j<k ->¬(j<ops.size/\Lf listed j=false):=by
     revert l
     induction k using Nat.strongRecOn with
     | _ k R=>
      intro l
      by_cases v:∃j,j<k/\(j<ops.size/\Lf listed j=false)
      .obtain ⟨j,n,g⟩:=v;exact R j n g
      .exact ⟨k,l,λj n g=>v ⟨j,n,g⟩⟩
    obtain ⟨k,l,X⟩:=z
    have hr:k∈Region.ready .any ops listed:=by
     refine mem_ready.2 ⟨?_,ops[k],ωg l.1,λe N O=>?_⟩
     .have:=l.2;unfold Lf at this;rw [ψh,ωg (by omega)] at this⊢;exact this
     .have t:=U.back k _ (ωg l.1) e N O
      cases q:Lf listed e.on with
      | true=>exact q
      | false=>exact absurd ⟨by omega,q⟩ (X e.on t)
    intro h0;rw [h0] at hr;cases hr
   refine ⟨λh0=>absurd h0 V,λi Y=>?_⟩;obtain ⟨n,g,J⟩:=W Y;have A:y<=i:=Nat.le_of_not_lt λG=>by rw [B i G] at g;cases g
   have F:i<p:=Nat.lt_of_not_le λG=>m λk D C=>J k (I i G n k D C);obtain ⟨o,ho,d⟩:=step (Lf listed) a w i A F g J u hI;have c:=Lf_set (listed:=listed) (i:=i) (by omega)
   have next:∀f K,Inv (λk=>if k=i then true else Lf listed k) f K ->wpAnyIn (RJ r) 0 P .any ops Q b (listed.setIfInBounds i true) f K:=λf K hI'=>by
    refine ih _ f K (by simpa using T) ?_ (λj v q x M=>?_) (λk l=>?_) (λk l=>?_) ?_
    .have:=cnt_set g c n;omega
    .rw [c] at q⊢
     by_cases e:x=i
     .rw [ς e]
     .rw [η e]
      by_cases e2:j=i
      .subst e2;exact J x M
      .rw [η e2] at q;exact u j v q x M
    .rw [c];split
     .rfl
     .exact B k l
    .rw [c,η (by omega)];exact E k l
    .have:Lf (listed.setIfInBounds i true)=λk=>if k=i then true else Lf listed k:=funext c
     rw [this];exact hI'
   unfold wpOpIn;rw [ho];simp only [];unfold E8 at d
   split
   .rename_i S
    rw [ς S] at d;exact F8 next (λ_ _ _ _ h=>h) d
   .rename_i S
    rw [η S] at d;exact ⟨λ_ _=>trivial,next _ _ d⟩
end
section
variable {P:Program} {F:Fr} {ops:Array Oper} {pre:List (List Nat)} {Q:Exit ->AS ->Prop}
variable {a:Nat} {s:AS} {R:List Rc} {C:Lg} {c:Nat}
def Dwp (P:Program) (F:Fr) (ops:Array Oper) (lo:Nat) (Q:Exit ->AS ->Prop) (s:AS):Prop:=∀ρ act w listed,SR F s ρ act w ->listed.size=ops.size ->(∀k,Lf listed k=decide (k<lo)) ->wpAnyIn (RJ F.rnd) 0 P .any ops (UL F Q) (cnt (Lf listed) ops.size) listed act w
theorem SR.drew {g:Nat ->Nat ->Value} {d:Act} {w a:World} (h:SR F s g d w) (i:a.heap=w.heap) (m:a.os=w.os) (l:a.tape=w.tape) (k:a.output=w.output) (n:w.drawn<=a.drawn:=by first | exact Nat.le_succ _ | exact Γ _):SR F s g d a:=by
 have e:w.heap.size<=a.heap.size:=by rw [i];exact Γ _
 have f:∀b,b<w.heap.size ->a.heap[b]? =w.heap[b]?:=λb _=>by rw [i]
 exact ⟨h.size,h.defs.mono e (λb c _=>f b c) (λ_ _ h=>h),λt x j=>(h.env t x j).mono e (λb c _=>f b c) (λ_ _ h=>h) (λ_ _ _=>rfl),h.heap.stay ⟨m,l,k,ωa h.heap.drawn n⟩ e f⟩
theorem a_draw {id:Nat} {l:List Oper} (f:P.follows .mixedOrders=true) (h:Dwp P F l.toArray 0 Q s):CG P F (.region id l.toArray true) Q s:=λc a w e=>by
 refine wpIn_region_any f ?_
 have b:∀k,Lf (Array.replicate l.toArray.size false) k=false:=λk=>by
  unfold Lf;rw [ψh,Array.getElem?_replicate]
  split<;>rfl
 have g:∀n,cnt (Lf (Array.replicate l.toArray.size false)) n=n:=by
  intro n
  induction n with
  | zero=>rfl
  | succ n d=>simp only [cnt,d,b]
 have:=h c a {w with drawn:=w.drawn+1} (Array.replicate l.toArray.size false) (e.drew Z Z Z Z) (by simp) (λk=>by rw [b];simp)
 rwa [g] at this
def RM (pre:List (List Nat)) (lo hi:Nat):Nat ->Nat ->Bool
 | _,0=>true
 | j,m+1=>inAll lo (hi - lo) (preAt pre j) && RM pre lo hi (j+1) m
where inAll (x:Nat):Nat ->List Nat ->Bool
 | 0,_=>true
 | m+1,l=>memB x l && inAll (x+1) m l
theorem W8 {x m:Nat} {l:List Nat} (h:RM.inAll x m l=true):∀y,x<=y ->y<x+m ->y∈l:=by
 induction m generalizing x with
 | zero=>intro y b a;omega
 | succ m c=>
  simp only [RM.inAll,ωd] at h;intro y b a
  by_cases e:x=y
  .subst e;exact G4.1 h.1
  grind
theorem Wk {b m:Nat} (g:a<=c) (h:RM pre a c b m=true):∀j,b<=j ->j<b+m ->∀x,a<=x ->x<c ->x∈preAt pre j:=by
 induction m generalizing b with
 | zero=>intro j l k;omega
 | succ m f=>
  simp only [RM,ωd] at h;intro j l k x d i
  by_cases e:b=j
  .subst e;exact W8 h.1 x d (by omega)
  .exact f h.2 j (by omega) (by omega) x d i
def Uq (pre:List (List Nat)) (n lo hi:Nat):Bool:=Nat.ble lo hi &&(Nat.ble hi n && RM pre lo hi hi (n - hi))
theorem Mf {n:Nat} (h:Uq pre n a c=true):a<=c/\c<=n/\∀j,c<=j ->j<n ->∀x,a<=x ->x<c ->x∈preAt pre j:=by
 simp only [Uq,ωd] at h;have d:=Nat.le_of_ble_eq_true h.1;have b:=Nat.le_of_ble_eq_true h.2.1
 grind [Wk]
theorem Gc (e:FV ops pre) {b:Array Bool} (g:∀k,Lf b k=decide (k<a)):∀j,j<ops.size ->Lf b j=true ->∀x∈preAt pre j,Lf b x=true:=λj f c x d=>by
 rw [g] at c⊢;have:=χf c;have:=e.lt j f x d;exact ωf (by omega)
theorem dw_one {o:Oper} (C:FV ops pre) (H:ops[a]? =some o) (M:Uq pre ops.size a (a+1)=true) (h:Ao P F ops [o] (λe j=>e= .normal/\Dwp P F ops (a+1) Q j) s):Dwp P F ops a Q s:=λE m w l G y v=>by
 obtain ⟨_,O,N⟩:=Mf M;have d:=h E m w G;refine Lj C a (a+1) O N (λL f q=>((L a=false/\f=m/\q=w)\/(L a=true/\∃j c,Dwp P F ops (a+1) Q j/\SR F j c f q))) ?_ ?_ _ l m w y Z (Gc C v) (λk D=>by rw [v];exact ωf D) (λk D=>by rw [v];exact ωh (by omega)) (.inl ⟨by rw [v];simp,Z,Z⟩)
 .intro L f q i J I A _ _ B;have:i=a:=by omega
  subst this;rcases B with ⟨_,rfl,rfl⟩ | ⟨t,_⟩
  .refine ⟨o,H,?_⟩;unfold wpListIn at d;unfold E8
   split
   .rename_i x
    rw [ς x] at d;refine F8 ?_ ?_ d
    .rintro b w ⟨j,c,⟨_,p⟩,n⟩;exact .inr ⟨by simp,j,c,p,n⟩
    .rintro e b w z ⟨j,c,⟨K,p⟩,n⟩;exact absurd K z
   .rename_i x
    rw [η x] at d;obtain ⟨_,j,c,⟨_,p⟩,n⟩:=d;exact .inr ⟨by simp,j,c,p,n⟩
  .rw [A] at t;cases t
 .intro g f q r u B;rcases B with ⟨t,_⟩ | ⟨_,j,c,p,n⟩
  .rw [u] at t;simp at t
  .exact p c f q g n r u
abbrev RS (R:List Rc):=R.map Rc.ws
abbrev RF (R:List Rc):=R.map Rc.fs
def txtS (base:AS) (R:List Rc):Nat ->Option AV:=GJ (get base.env) (λ_=>true) (RS R)
def txtF (base:AS) (R:List Rc):Nat ->Option (List AN):=GJ (hfam base.hp) (λ_=>true) (RF R)
def Yg (P:Program) (ops:Array Oper) (lo:Nat) (base:AS) (C:Lg):List Rc ->Prop
 | []=>True
 | rc::r=>Yg P ops lo base C r/\(∃o,ops[lo+r.length]? =some o/\JD P ops base.n o rc C (txtS base r) (txtF base r))/\(∀f,Bh rc.fs f≠none ->f∈rc.nm)/\∀f c,Bh rc.fs f=some c ->C f c
theorem Yg.at {b:AS} (h:Yg P ops a b C R) {k:Nat} {d:Rc} (e:R.reverse[k]? =some d):∃A r,R=A++d::r/\r.length=k/\(∃o,ops[a+k]? =some o/\JD P ops b.n o d C (txtS b r) (txtF b r))/\(∀f,Bh d.fs f≠none ->f∈d.nm)/\∀f c,Bh d.fs f=some c ->C f c:=by
 induction R with
 | nil=>simp at e
 | cons x r i=>
  rcases rev_cons_cases e with e | ⟨rfl,rfl⟩
  .obtain ⟨A,g,l,j⟩:=i h.1 e;exact ⟨x::A,g,by rw [l];rfl,j⟩
  .exact ⟨[],r,Z,Z,h.2.1,h.2.2⟩
def Dseg (P:Program) (F:Fr) (ops:Array Oper) (lo:Nat) (Q:Exit ->AS ->Prop) (C:Lg) (base:AS) (R:List Rc) (env:List (Nat×AV)) (hp:Hp):Prop:=
 (∀f,C f (hfam base.hp f)) ->Yg P ops lo base C R ->(∀t a,get env t=some a ->txtS base R t=some a) ->(∀f,hfam hp f=txtF base R f) ->Dwp P F ops lo Q base
theorem fB (b:∀f,C f (hfam s.hp f)) (h:Dseg P F ops a Q C s [] s.env s.hp):Dwp P F ops a Q s:=h b trivial (λ_ _ h=>h) λ_=>rfl
structure PairSpec (pre:List (List Nat)) (lo i j:Nat) (ri rj:Rc):Prop where
 race:(lo+j)∉preAt pre (lo+i) ->HR rj.ws ri.rd=true/\HR rj.ws (PA ri.ws)=true/\HR ri.ws rj.rd=true/\HR rj.fs ri.nm=true/\HR ri.fs rj.nm=true
 late:ri.eff=true ->WR ri.ok ri.ws rj.ws=true/\WS ri.ok ri.fs rj.fs=true
 early:(lo+j)∉preAt pre (lo+i) ->rj.eff=true ->WR rj.ok rj.ws ri.ws=true/\WS rj.ok rj.fs ri.fs=true
theorem GW {i j:Nat} {d c:Rc} (h:Oh (memB (a+j) (preAt pre (a+i))) c d=true):PairSpec pre a i j d c:=by
 have f:(a+j)∉preAt pre (a+i) ->memB (a+j) (preAt pre (a+i))=false:=λb=>by
  cases hh:memB (a+j) (preAt pre (a+i)) with
  | false=>rfl
  | true=>exact absurd (G4.1 hh) b
 simp only [Oh,ωd,Bool.or_eq_true,Bool.not_eq_true'] at h;refine ⟨λb=>?_,λe=>?_,λb e=>?_⟩
 all_goals (grind)
theorem fC {d hi:Nat} {C:Lg} {s:AS} {R:List Rc} {X:List (Nat×AV)} {hp:Hp} (hps:FV ops pre) (hhi:Nat.beq (d+R.length) hi=true) (hc:Uq pre ops.size d hi=true) (y:Iu pre d s.env s.hp R=true) (h:Dwp P F ops hi Q ⟨s.n,X,hp⟩):Dseg P F ops d Q C s R X hp:=λhC hV hE hH=>by
 intro ρ Y w z hs hsz hL;have hhi':=ωb hhi;subst hhi';obtain ⟨_,c2,c3⟩:=Mf hc
 let Inv:(Nat ->Bool) ->Act ->World ->Prop:=λL Y w=>∃ρ X hp,SR F ⟨s.n,X,hp⟩ ρ Y w/\(∀t,get X t=GJ (get s.env) (λk=>L (d+k)) (RS R) t)/\∀f,hfam hp f=GJ (hfam s.hp) (λk=>L (d+k)) (RF R) f
 have V:∀{α:Type} (base:Nat ->α) (R:List (List (Nat×α))) t,GJ base (λk=>Lf z (d+k)) R t=base t:=by
  intro α base R t
  induction R with
  | nil=>rfl
  | cons ws r ih=>
   have h0:Lf z (d+r.length)=false:=by rw [hL];exact ωh (by omega)
   simp only [GJ,h0];exact ih
 refine Lj hps d (d+R.length) c2 c3 Inv ?_ ?_ _ z Y w hsz Z (Gc hps hL) (λk j=>by rw [hL];exact ωf j) (λk j=>by rw [hL];exact ωh (by omega)) ⟨ρ,s.env,s.hp,hs,λt=>(V _ _ t).symm,λf=>(V _ _ f).symm⟩
 .intro L Y w i' hi1 hi2 G hpre hcl ⟨ρ,env1,hp1,hsr,hE1,hH1⟩
  obtain ⟨i,rfl⟩:∃i,i'=d+i:=⟨i' - d,by omega⟩
  have hiR:i<R.length:=by omega
  have u:R.reverse[i]? =some (R.reverse[i]'(by simpa using hiR)):=ω (by simpa using hiR)
  generalize R.reverse[i]'(by simpa using hiR)=rc at u
  obtain ⟨A,r,e1,e2,⟨o,ho,hsound⟩,hfk,_⟩:=hV.at u
  -- the order against others
  have J:∀{k ws},(RS R).reverse[k]? =some ws ->∃q:Rc,R.reverse[k]? =some q/\q.ws=ws:=λ{k ws} j=>by
   rw [<-List.map_reverse,ν] at j
   cases hh:R.reverse[k]? with
   | none=>rw [hh] at j;cases j
   | some q=>rw [hh] at j;injection j with j;exact ⟨q,hh,j⟩
  have D:∀{k ws},(RF R).reverse[k]? =some ws ->∃q:Rc,R.reverse[k]? =some q/\q.fs=ws:=λ{k ws} j=>by
   rw [<-List.map_reverse,ν] at j
   cases hh:R.reverse[k]? with
   | none=>rw [hh] at j;cases j
   | some q=>rw [hh] at j;injection j with j;exact ⟨q,hh,j⟩
  have S:∀{k q},R.reverse[k]? =some q ->k<i ->L (d+k)=false ->PairSpec pre d i k rc q/\(d+k)∉preAt pre (d+i):=λ{k q} j m c=>
   ⟨GW (G2 y u j m),λhm=>by rw [hpre _ hm] at c;cases c⟩
  have p:∀{k q},R.reverse[k]? =some q ->i<k ->L (d+k)=true ->PairSpec pre d k i q rc/\(d+i)∉preAt pre (d+k):=λ{k q} j m c=>
   ⟨GW (G2 y j u m),λhm=>by
    have hkR:=Lx j
    rw [hcl (d+k) (by omega) c _ hm] at G;cases G⟩
  have hR:RS R=(RS (A++ [rc]))++RS r/\RF R=(RF (A++ [rc]))++RF r:=by
   rw [e1];simp [RS,RF]
  have hsame:∀t∈rc.rd,GJ (get s.env) (λk=>L (d+k)) (RS R) t=txtS s r t:=λt ht=>by
   have N:GJ (get s.env) (λk=>L (d+k)) (RS R) t=GJ (get s.env) (λk=>decide (k<(RS r).length)) (RS R) t:=by
    refine Gq λk ws j B=>?_;obtain ⟨q,n,rfl⟩:=J j;have O:(RS r).length=i:=by simp [RS,e2]
    rw [O];rcases Nat.lt_trichotomy k i with m | M | K
    .rw [ωf m]
     cases c:L (d+k) with
     | true=>rfl
     | false=>
      obtain ⟨I,H⟩:=S n m c;exact absurd (E3 (I.race H).1 ht) B
    .subst M;rw [ωh (φe _)];exact G
    .rw [ωh (by omega)]
     cases c:L (d+k) with
     | false=>rfl
     | true=>
      obtain ⟨I,H⟩:=p n K c;exact absurd (E3 (I.race H).2.2.1 ht) B
   rw [N,hR.1,OS];rfl
  have hsameF:∀f∈rc.nm,GJ (hfam s.hp) (λk=>L (d+k)) (RF R) f=txtF s r f:=λf hf=>by
   have N:GJ (hfam s.hp) (λk=>L (d+k)) (RF R) f=GJ (hfam s.hp) (λk=>decide (k<(RF r).length)) (RF R) f:=by
    refine Gq λk ws j B=>?_;obtain ⟨q,n,rfl⟩:=D j;have O:(RF r).length=i:=by simp [RF,e2]
    rw [O];rcases Nat.lt_trichotomy k i with m | M | K
    .rw [ωf m]
     cases c:L (d+k) with
     | true=>rfl
     | false=>
      obtain ⟨I,H⟩:=S n m c;exact absurd (E3 (I.race H).2.2.2.1 hf) B
    .subst M;rw [ωh (φe _)];exact G
    .rw [ωh (by omega)]
     cases c:L (d+k) with
     | false=>rfl
     | true=>
      obtain ⟨I,H⟩:=p n K c;exact absurd (E3 (I.race H).2.2.2.2 hf) B
   rw [N,hR.2,OS];rfl
  refine ⟨o,ho,Vh (hps.nod _ _ ho)<| HV ?_ (hsound F ρ Y w env1 hp1 hsr (λf=>by
   rw [hH1];rcases tgt_origin (base:=hfam s.hp) (L:=λk=>L (d+k)) (R:=RF R) (t:=f) with ⟨N,_⟩ | ⟨k,ws,j,c,B⟩
   .rw [N];exact hC f
   .obtain ⟨q,n,rfl⟩:=D j;obtain ⟨_,_,_,_,_,_,hc⟩:=hV.at n
    exact hc f _ B) (λt ht=>by rw [hE1,hsame t ht]) (λf hf=>by rw [hH1,hsameF f hf]) (λhe t a ha hl=>?_) (λhe f l hf hl=>?_))⟩
  .rintro act' w' ⟨T,W,U,v,hE',hH'⟩
   have hset:∀k,(λk=>if d+k=d+i then true else L (d+k)) k=if k=i then true else L (d+k):=λk=>by
    by_cases e:k=i
    .subst e;simp
    .have:¬(d+k=d+i):=by omega
     simp [e]
   refine ⟨T,W,U,v,λt=>?_,λf=>?_⟩
   .rw [hE',hE1];refine (OR (i:=i) (ws:=rc.ws) (by rw [<-List.map_reverse,ν,u];rfl) G hset λB k ws' j m c=>?_).symm;obtain ⟨q,n,rfl⟩:=J j;obtain ⟨I,H⟩:=p n m c;have:=E3 (t:=t) (I.race H).2.1
    cases hh:Bh q.ws t with
    | none=>rfl
    | some x=>exact absurd (this (UR (by rw [hh];simp))) B
   .rw [hH',hH1];refine (OR (i:=i) (ws:=rc.fs) (by rw [<-List.map_reverse,ν,u];rfl) G hset λB k ws' j m c=>?_).symm;obtain ⟨q,n,rfl⟩:=D j;obtain ⟨I,H⟩:=p n m c;exact E3 (I.race H).2.2.2.2 (hfk f B)
  .rw [hE1] at ha;rcases tgt_origin (base:=get s.env) (L:=λk=>L (d+k)) (R:=RS R) (t:=t) with ⟨N,_⟩ | ⟨k,ws,j,c,B⟩
   .rw [N] at ha;exact dA (NL y u he).1 ha (λh=>nomatch h) hl
   .rw [ha] at B;obtain ⟨q,n,rfl⟩:=J j;rcases Nat.lt_trichotomy k i with m | M | K
    .exact Qm ((GW (G2 y u n m)).late he).1 B hl
    .subst M;rw [G] at c;cases c
    .obtain ⟨I,H⟩:=p n K c;exact Qm (I.early H he).1 B hl
  .rw [hH1] at hf;rcases tgt_origin (base:=hfam s.hp) (L:=λk=>L (d+k)) (R:=RF R) (t:=f) with ⟨N,_⟩ | ⟨k,ws,j,c,B⟩
   .rw [N] at hf;exact cz (NL y u he).2 hf hl
   .rw [hf] at B;obtain ⟨q,n,rfl⟩:=D j;rcases Nat.lt_trichotomy k i with m | M | K
    .exact Qn ((GW (G2 y u n m)).late he).2 B hl
    .subst M;rw [G] at c;cases c
    .obtain ⟨I,H⟩:=p n K c;exact Qn (I.early H he).2 B hl
 .intro E act' w' hsz' hL' ⟨T,W,U,v,hE',hH'⟩
  have hall:∀{α:Type} (base:Nat ->α) (R':List (List (Nat×α))) t,R'.length=R.length ->GJ base (λk=>Lf E (d+k)) R' t=GJ base (λ_=>true) R' t:=λbase R' t O=>
   Gq λk ws j _=>by rw [hL',ωf];have:=Lx j;omega
  have hHh:∀f i,hget U f i=hget hp f i:=λf i=>by
   simp only [hget,hH',hH,hall _ (RF R) f (by simp [RF])];rfl
  have hheap:Ba F hp T w':=v.heap.less (λg i o' ho=>⟨o',by show hget U g i=some o';rw [hHh];exact ho,λ_ _ _ h=>h⟩) λg i o ho=>⟨o,by rw [<-hHh];exact ho,λt cs e=>⟨cs,e⟩⟩
  have hO:F.O T U=F.O T hp:=funext λb=>propext ⟨λh=>h.imp id λ⟨f,i,o,N,h2⟩=>⟨f,i,o,by rw [<-hHh];exact N,h2⟩,λh=>h.imp id λ⟨f,i,o,N,h2⟩=>⟨f,i,o,by rw [hHh];exact N,h2⟩⟩;refine h T act' w' E ⟨v.size,hO▸v.defs,λt a ha=>?_,hheap⟩ hsz' hL';have N:=hE t a ha;have h2:=v.env t a (by show get W t=some a;rw [hE',hall _ (RS R) t (by simp [RS])];exact N);rw [<-hO];exact h2
end
section
variable {P:Program} {F:Fr} {ops:Array Oper} {Q:Exit ->AS ->Prop}
def Dw (P:Program) (F:Fr) (ops:Array Oper) (pre:List (List Nat)) (lo:Nat) (rest:List Oper) (Q:Exit ->AS ->Prop) (s:AS):Prop:=FV ops pre ->(∀k:Nat,rest[k]? =ops[lo+k]?) ->Dwp P F ops lo Q s
def Ss (P:Program) (F:Fr) (ops:Array Oper) (pre:List (List Nat)) (lo:Nat) (rest:List Oper) (Q:Exit ->AS ->Prop) (C:Lg) (base:AS) (R:List Rc) (env:List (Nat×AV)) (hp:Hp):Prop:=FV ops pre ->(∀k:Nat,rest[k]? =ops[lo+R.length+k]?) ->Dseg P F ops lo Q C base R env hp
theorem CD {id:Nat} {l:List Oper} {s:AS} (a:List (List Nat)) (d:P.follows .mixedOrders=true) (b:Qg l a a l 0=true) (h:Dw P F l.toArray a 0 l Q s) (c:l.all (λo=>!Op.isDefer o.op)=true:=by rfl):CG P F (.region id l.toArray true) Q s:=
 a_draw d (h (WM (by simpa using b) (by simpa using c)) λk=>by simp)
variable {pre:List (List Nat)} {lo:Nat} {rest:List Oper} {s:AS} {o:Oper}
variable {a:List (Nat×AV)} {n:Nat} {c:Hp}
theorem Bx (h:Q .normal s):Dw P F ops pre lo [] Q s:=λl b d u w a e k r=>by
 have g:=b 0
 have p:ops.size<=lo:=by
  simp at g
  exact g
 have b:Region.ready .any ops a=[]:=by
  refine List.eq_nil_iff_forall_not_mem.2 λj q=>?_;obtain ⟨c,o,t,_⟩:=mem_ready.1 q;have m:j<ops.size:=(ωn.1 t).1;have:=r j;rw [ωf (by omega)] at this;unfold Lf at this;rw [ψh,ωg (by omega)] at c this
  simp at c this
  rw [this] at c;cases c
 cases cnt (Lf a) ops.size with
 | zero=>exact ⟨b,s,d,h,e⟩
 | succ n=>exact ⟨λ_=>⟨s,d,h,e⟩,λi f=>by rw [b] at f;cases f⟩
theorem Ab (q:Nat) (r:Nat.beq (lo+1) q=true) (A:Uq pre (lo+(rest.length+1)) lo q=true) (h:Ao P F ops [o] (λe b=>e= .normal/\Dw P F ops pre q rest Q b) s):Dw P F ops pre lo (o::rest) Q s:=λd j=>by
 have f:=ωb r;subst f;have z:ops[lo]? =some o:=by have:=j 0;simpa using this.symm
 have p:ops.size=lo+(rest.length+1):=by
  have i:=j (rest.length+1);have g:=j rest.length;have v:(o::rest)[rest.length]?≠none:=by simp
  rw [g] at v;have C:lo+rest.length<ops.size:=Nat.lt_of_not_le λc=>v (Array.getElem?_eq_none c);have B:ops[lo+(rest.length+1)]? =none:=by rw [<-i];simp
  have:=Array.getElem?_eq_none_iff.1 B;omega
 refine dw_one d z (by rw [p];exact A) (λx u w y=>?_)
 have m:∀(e:Exit) b,(e= .normal/\Dw P F ops pre (lo+1) rest Q b) ->(e= .normal/\Dwp P F ops (lo+1) Q b):=λe b ⟨i,g⟩=>⟨i,g d λk=>by
  have:=j (k+1);rw [List.getElem?_cons_succ] at this
  rw [this];congr 1;omega⟩
 have c:=h x u w y;unfold wpListIn at c⊢
 have t:∀e a w,UL F (λe b=>e= .normal/\Dw P F ops pre (lo+1) rest Q b) e a w ->UL F (λe b=>e= .normal/\Dwp P F ops (lo+1) Q b) e a w:=λe a w ⟨b,l,i,g⟩=>⟨b,l,m e b i,g⟩
 split
 .rename_i n
  rw [ς n] at c;exact F8 (λa w h=>t _ _ _ h) (λe a w _ h=>t e a w h) c
 .rename_i n
  rw [η n] at c;exact ⟨c.1,t _ _ _ c.2⟩
theorem Bt (h:Ss P F ops pre lo rest Q C0 ⟨n,a,c⟩ [] a c):Dw P F ops pre lo rest Q ⟨n,a,c⟩:=λb d=>fB (λ_=>trivial) (h b d)
abbrev C2 (f:Nat) (c1 c2:List AN):Lg:=λg x=>g=f ->x=some c1\/x=some c2
theorem aK (f:Nat) {d:List AN} (k:List AN) (j:hfam c f=some d) (h:Ss P F ops pre lo rest Q (C2 f d k) ⟨n,a,c⟩ [] a c):Dw P F ops pre lo rest Q ⟨n,a,c⟩:=λb e=>fB (λg i=>by subst i;exact .inl j) (h b e)
variable {C:Lg} {base:AS} {R:List Rc} {env:List (Nat×AV)} {hp:Hp}
variable {a:List (Nat×AV)} {c:Array Edge} {p:Nat ->Nat ->Bool} {d:String} {e:TypeId} {f:Option Tmp} {g:AV} {h:Hp} {i:Op} {j:Nat} {k:Bool} {m:Rc} {t n q:Nat}
theorem dwc0 (e:Nat) (i:Nat.beq (lo+(m::R).length) e=true) (q:Uq pre (e+rest.length) lo e=true) (d:Iu pre lo base.env base.hp (m::R)=true) (h:Dw P F ops pre e rest Q ⟨base.n,env,hp⟩):Ss P F ops pre lo rest Q C base (m::R) env hp:=λb g=>by
 have c:=ωb i;subst c
 have a:ops.size<=lo+(m::R).length+rest.length:=by
  have y:=g rest.length;have w:ops[lo+(m::R).length+rest.length]? =none:=by rw [<-y];simp
  exact Array.getElem?_eq_none_iff.1 w
 intro v hV u t
 have p:lo+(m::R).length<=ops.size:=by
  obtain ⟨o,l,_⟩:=hV.2.1;have:=(ωn.1 l).1;simp only [χq];omega
 have f:ops.size=lo+(m::R).length+rest.length:=by
  rcases hrl:rest with _ | ⟨o,r⟩
  .rw [hrl] at a;simp only [χc,ψx] at a⊢;omega
  .have k:=g r.length;rw [hrl] at k a;have j:(o::r)[r.length]?≠none:=by simp
   rw [k] at j;have x:lo+(m::R).length+r.length<ops.size:=Nat.lt_of_not_le λn=>j (Array.getElem?_eq_none n);simp only [χq] at a x⊢;omega
 exact fC b (ψw _) (by rw [f];exact q) d (h b g) v hV u t
theorem A8 (h:AA P F ⟨f,i,e,d,c,none⟩ s q g):JF P F ops ⟨f,i,e,d,c,none⟩ s q g:=by
 refine ⟨IS h.1,λm k w b=>?_⟩;unfold Gn;rw [ς (by simp [Region.wanted])];refine ZcJ ?_ (h.2.2 m k w b);rintro l u ⟨v,t,r,j,p,n⟩;exact ⟨v,t,r,⟨j.os.trans b.heap.os.symm,j.tape.trans b.heap.tape.symm,j.output.trans b.heap.output.symm,j.drawn⟩,p,n⟩
theorem RC {c:Nat ->Nat ->Value} {a:Act} {w:World} (f:SR F s c a w) (g:(ops[n]?).bind (·.dst)=some t) (e:get s.env t=some (.d (.raw (.bool k)))):yielded ops a.tmps n=some k:=by
 have b:=f.env t _ e;unfold yielded;rw [g]
 cases b with
 | d b=>
  generalize h:a.tmps.getD t undef=v at b
  cases b with
  | raw _=>
   simp only [χk];rw [ψh] at h
   grind [undef]
theorem Ct {b:Bool} (y:(ops[n]?).bind (·.dst)=some t) (x:get s.env t=some (.d (.raw (.bool k)))) (z:k=b) (h:AA P F ⟨f,i,e,d,c,some (n,b)⟩ s q g):JF P F ops ⟨f,i,e,d,c,some (n,b)⟩ s q g:=by
 refine ⟨IS h.1,λu p w l=>?_⟩;unfold Gn;rw [ς (by simp [Region.wanted,RC l y x,z])];refine ZcJ ?_ (h.2.2 u p w l);rintro r G ⟨v,E,D,m,B,A⟩;exact ⟨v,E,D,⟨m.os.trans l.heap.os.symm,m.tape.trans l.heap.tape.symm,m.output.trans l.heap.output.symm,m.drawn⟩,B,A⟩
theorem EH {b:Bool} (g:(ops[n]?).bind (·.dst)=some t) (f:get s.env t=some (.d (.raw (.bool k)))) (l:k=!b) (h:Nat.blt j s.n=true):JF P F ops ⟨some j,i,e,d,c,some (n,b)⟩ s j (.d (.tup [])):=by
 refine ⟨IS h,λp m w a=>?_⟩;unfold Gn;rw [η (by cases b<;>simp [Region.wanted,RC a g f,l])];exact ⟨_,Z,Lz,⟨Z,Z,Z,a.heap.drawn⟩,Γ _,λ_ _=>rfl⟩
theorem F6 {a:AS} (h:AG P F ⟨f,i,e,d,c,none⟩ s a p):gG P F ops ⟨f,i,e,d,c,none⟩ s a p:=by grind [Gn,Region.wanted,ZcJ,wp_put,AG,gG]
theorem MO {lo:Nat} {R:List Rc} {rc:Rc} (a:∀k:Nat,(o::rest)[k]? =ops[lo+R.length+k]?):ops[lo+R.length]? =some o/\∀k:Nat,rest[k]? =ops[lo+(rc::R).length+k]?:=by
 refine ⟨by have:=a 0;simpa using this.symm,λk=>?_⟩;have:=a (k+1)
 grind
def recP (rd nm:List Nat) (d:Nat) (a:AV):Rc:=⟨rd,[(d,some a)],nm,[],false,λ_ _=>true⟩
theorem As (rd e:List Nat) (v:pick env rd=some a) (w:Bb hp e=some h) (b:∀F,JF P F ops o ⟨base.n,a,h⟩ j g) (A:Ss P F ops pre lo rest Q C base (recP rd e j g::R) ((j,g)::env) hp):Ss P F ops pre lo (o::rest) Q C base R env hp:=λm r B hV q p=>by
 obtain ⟨u,k⟩:=MO (rc:=recP rd e j g) r;refine A m k B ⟨hV,⟨o,u,JD.pure v w q p b⟩,λf y=>absurd Z y,λf c z=>nomatch z⟩ (λt x i=>?_) λf=>?_
 .show GJ _ _ (RS (recP rd e j g::R)) t=_;simp only [RS,ψq,GJ,recP,Bh];rcases Mp i with ⟨rfl,rfl⟩ | ⟨n,i⟩
  .simp
  .rw [IP n];exact q t x i
 .show _=GJ _ _ (RF (recP rd e j g::R)) f;simp only [RF,ψq,GJ,recP,Bh];exact p f
theorem J2 (rd b:List Nat) {f:Nat} {q p:List AN} (y:pick env rd=some a) (z:Bb hp b=some h) (n:memB f b=false) (G:∀F,JF P F ops o ⟨base.n,a,(f,q)::h⟩ j g) (E:∀F,JF P F ops o ⟨base.n,a,(f,p)::h⟩ j g) (B:Ss P F ops pre lo rest Q (C2 f q p) base (recP rd b j g::R) ((j,g)::env) hp):Ss P F ops pre lo (o::rest) Q (C2 f q p) base R env hp:=λk v D hV u r=>by
 obtain ⟨w,i⟩:=MO (rc:=recP rd b j g) v;refine B k i D ⟨hV,⟨o,w,JD.pure2 y z n u r (λx e=>e Z) G E⟩,λf n=>absurd Z n,λf c A=>nomatch A⟩ (λt x e=>?_) λf=>?_
 .show GJ _ _ (RS (recP rd b j g::R)) t=_;simp only [RS,ψq,GJ,recP,Bh];rcases Mp e with ⟨rfl,rfl⟩ | ⟨m,e⟩
  .simp
  .rw [IP m];exact u t x e
 .show _=GJ _ _ (RF (recP rd b j g::R)) f;simp only [RF,ψq,GJ,recP,Bh];exact r f
theorem Aj (rd:List Nat) (c:pick env rd=some a) (e:Bb hp (hpN base.hp)=some h) (b:∀F,JF P F ops o ⟨base.n,a,h⟩ j g) (f:Ss P F ops pre lo rest Q C base (recP rd (hpN base.hp) j g::R) ((j,g)::env) hp):Ss P F ops pre lo (o::rest) Q C base R env hp:=As rd _ c e b f
def recE (rd nm:List Nat) (dv:List (Nat×AV)) (p:Nat ->Nat ->Bool) (env:List (Nat×AV)) (hs':Hp) (xs:List Nat):Rc:=⟨rd,Yk (effWs dv nm p env xs),nm,QG hs' nm,true,Ok nm p⟩
theorem d_effX (J:List Nat) (rd u:List Nat) (E:List (Nat×AV)) {X D:List (Nat×AV)} {j A K:Hp} (hl:pick env rd=some a) (hh:Bb hp u=some h) (g:∀F,gG P F ops o ⟨base.n,a,h⟩ ⟨base.n,X,j⟩ p)
  (S:(E=[]/\o.dst=none)\/∃d i,E=[(d,i)]/\o.dst=some d/\Nat.blt d base.n=true/\get X d=some i/\i.ok (Jc u)=true) (W:A6 u j=true) (n2:Fu u j=true)
  (U:Bw (Ok u p) env=some D) (n:C9 u hp=some A) (H:some (j++A)=some K) (hK:Ss P F ops pre lo rest Q C base (recE rd u E p env j J::R) (E++D) K) (V:∀f c,Bh (QG j u) f=some c ->C f c:=by intro _ _ _;trivial):Ss P F ops pre lo (o::rest) Q C base R env hp:=λN Y hC hV L T=>by
 injection H with H
 subst H;obtain ⟨ho,z⟩:=MO (rc:=recE rd u E p env j J) Y
 have v:∀f,hfam A f=if f∈u then none else hfam hp f:=by
  clear hK T L Y z hh
  intro f
  induction hp generalizing A with
  | nil=>simp only [C9,Option.some.injEq] at n;subst n;simp [hfam]
  | cons q r ih=>
   obtain ⟨k,x⟩:=q;simp only [C9] at n
   split at n
   .cases n
   .rename_i r' z
    have G:=ih z
    split at n<;>(injection n with n;subst n)
    .rename_i w
     by_cases e:k=f
     .subst e;rw [G,ς (G4.1 w),ς (G4.1 w)]
     .simp only [hfam,IP e];exact G
    .rename_i w
     by_cases e:k=f
     .subst e;have:k∉u:=λg=>by rw [G4.2 g] at w;cases w
      simp [hfam,this]
     .simp only [hfam,IP e];exact G
 refine hK N z hC ⟨hV,⟨o,ho,JD.eff hl hh L T g S W n2⟩,λf O=>?_,V⟩ (λt x m=>?_) λf=>?_
 .have I:Bh (QG j u) f≠none:=O;rw [JR] at I
  by_cases w:f∈u
  .exact w
  .rw [η w] at I;exact absurd Z I
 .show GJ _ _ (RS (recE rd u E p env j J::R)) t=_;simp only [RS,ψq,GJ,recE];rw [Li,effWs,JW];rw [JW] at m
  cases hd:get E t with
  | some y=>rw [hd] at m;simp at m;subst m;simp
  | none=>
   rw [hd] at m;simp only [Option.none_or] at m⊢;rw [W0 U] at m;rw [LC];have w:memB t []=false:=rfl;rw [w]
   cases hg:get env t with
   | none=>rw [hg] at m;cases m
   | some b=>
    rw [hg] at m;simp only [ψl,Option.some.injEq] at m
    by_cases B:b= .top
    .subst B
     have M:x= .top:=by
      cases hq:AV.top.ok (Ok u p)<;>(rw [hq] at m;exact m.symm)
     subst M
     cases hm2:memB t J with
     | true=>
      simp only [AV.okK,Bool.not_true,ψl,Option.getD_some]
     | false=>
      simp only [AV.okK,Bool.not_false,φa,Option.getD_none];exact L t _ hg
    simp only [AV.okK_eq B]
    cases hb:b.ok (Ok u p) with
    | true=>
     rw [hb] at m;simp only at m;subst m;simp only [φa,Option.getD_none];exact L t b hg
    | false=>
     rw [hb] at m;simp only at m;subst m;simp only [ψl,Option.getD_some]
 .show _=GJ _ _ (RF (recE rd u E p env j J::R)) f;simp only [RF,ψq,GJ,recE];rw [U4 W f (λO=>by rw [v,ς O]),JR,v]
  split
  .simp
  .simp only [Option.getD_none];exact T f
theorem F5 (rd i:List Nat) (n:List (Nat×AV)) {v j:List (Nat×AV)} {g k m:Hp} (y:pick env rd=some a) (z:Bb hp i=some h) (b:∀F,gG P F ops o ⟨base.n,a,h⟩ ⟨base.n,v,g⟩ p)
  (t:(n=[]/\o.dst=none)\/∃d e,n=[(d,e)]/\o.dst=some d/\Nat.blt d base.n=true/\get v d=some e/\e.ok (Jc i)=true) (x:A6 i g=true) (w:Fu i g=true)
  (u:Bw (Ok i p) env=some j) (q:C9 i hp=some k) (r:some (g++k)=some m) (A:Ss P F ops pre lo rest Q C base (recE rd i n p env g []::R) (n++j) m) (hCn:∀f c,Bh (QG g i) f=some c ->C f c:=by intro _ _ _;trivial):Ss P F ops pre lo (o::rest) Q C base R env hp:=d_effX [] rd i n y z b t x w u q r A hCn
theorem Bk (c:Nat) {n:Nat} {a:List (Nat×AV)} {b:Hp} (e:Nat.beq (lo+(m::R).length) c=true) (f:Uq pre (c+rest.length) lo c=true) (d:Iu pre lo a b (m::R)=true) (h:Dw P F ops pre c rest Q ⟨n,env,hp⟩):Ss P F ops pre lo rest Q C ⟨n,a,b⟩ (m::R) env hp:=dwc0 c e f d h
end
abbrev rg (n:Nat):List Nat:=List.range n
section
variable {P:Program} {ops:Array Oper} {Q:Exit ->AS ->Prop} {F:Fr} {pre:List (List Nat)} {lo:Nat} {rest:List Oper} {C:Lg} {base:AS} {R:List Rc} {env:List (Nat×AV)} {hp:Hp}
variable {a:Array Edge} {c:String} {d:TypeId} {e:Nat} {f:AV}
theorem AP (rd:List Nat) {l:List (Nat×AV)} {g:Option Tmp} {b:Op} (i:pick env rd=some l) (h:∀{F},AA P F ⟨g,b,d,c,a,none⟩ ⟨base.n,l,[]⟩ e f) (j:Ss P F ops pre lo rest Q C base (recP rd [] e f::R) ((e,f)::env) hp):
  Ss P F ops pre lo (⟨g,b,d,c,a,none⟩::rest) Q C base R env hp:=As rd [] i Z (λ_=>A8 h) j
theorem Ak (t:Nat) (b:get env t=some f) (g:Nat.blt e base.n=true) (h:Ss P F ops pre lo rest Q C base (recP [t] [] e f::R) ((e,f)::env) hp):
  Ss P F ops pre lo (⟨some e,.move (.tmp t),d,c,a,none⟩::rest) Q C base R env hp:=
 AP [t] (l:=[(t,f)]) (by simp [pick,b]) (Pv (by simp [AS.ev,get]) g) h
end
theorem CG.code {P:Program} {F:Fr} {Q:Exit ->AS ->Prop} {s:AS} {c a:Code} (e:c=a) (h:CG P F a Q s):CG P F c Q s:=e▸h
end Go.Proofs.YteifpcnphnhaoaaGreat
