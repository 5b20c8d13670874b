import Derived.Test.YtnkkaeblokdifaaGreatMg3
import Derived.Great.FillDense
import Derived.Laws.MakeOwn
namespace Go.Proofs.YtnkkaeblokdifaaGreat
open Go.RowKit
variable {a:Nat ->Nat ->Value} {c:List (Nat×List AJ)} {w:World} {h:Value} {P:Program} {i:Act} {o:AJ} {j:Nat ->Prop} {k s:List (Nat×List AJ)} {F:Fr} {t:AS} {T:TypeId} {u:Nat} {x:Type} {y:Nat} {z:List AJ} {A:World}
def upd (ρ:Nat ->Nat ->Value) (f0 i0:Nat) (v:Value):Nat ->Nat ->Value:=λf i=>if f=f0/\i=i0 then v else ρ f i
theorem OY {f0:Nat}:upd a f0 y h f0 y=h:=by simp [upd]
theorem MA {f0 f:Nat} (b:¬(f=f0/\u=y)):upd a f0 y h f u=a f u:=by simp only [upd];rw [η b]
theorem YM (w:World) (a:Ask x):w.drawn<=(w.ask a).2.drawn:=by
 induction a generalizing w with
 | done a=>exact κ _
 | ask c b k f=>
  grind [World.ask]
theorem Wf (w:World) (c:Sys):w.drawn<=(w.sys c).2.drawn:=by grind [YM,World.sys]
theorem NQ {g:World} {a:Addr} {f:Bool} {l:List Addr} (b:w.farStore P a h f= .ok (g,l)):g.drawn=w.drawn:=by
 unfold World.farStore at b
 split at b
 .split at b
  .rename_i r c
   injection b with b;subst b
   simp only [World.viewStore,bind,Except.bind,pure,Except.pure] at c
   repeat' split at c
   all_goals first | (cases c;done) | (injection c with c;injection c with c _;rw [<-c])
  .cases b
 .cases b
theorem OC (w:World) (a:Addr) (v:Value):(w.setCell a v).drawn=w.drawn:=rfl
theorem DB (b:Nat) (a:List Value):∀(i:Nat) (w:World),(w.setCells b i a).drawn=w.drawn:=by
 induction a with
 | nil=>intro i w;rfl
 | cons v a c=>intro i w;simp only [World.setCells];rw [c,OC]
theorem Ww {P:Program} {j:Type} {s:Sem j} {w i:World} {a:j} (h:s.run P w= .ok a i):w.drawn<=i.drawn:=by
 induction s generalizing w with
 | pure a=>simp only [Sem.run,Result.ok.injEq] at h;rw [h.2];exact κ _
 | load m g k b=>
  grind [Sem.run]
 | store m g v k b=>
  have f: ∃ e1,(match w.cell? g with
   | some _=>if w.frozen? g then Result.halt e1 w else k.run P (w.setCell g v)
   | none=>match w.farStore P g v (m==Mode.atomic) with
    | .ok (w,_)=>k.run P w
    | .error h=> .halt h w)= .ok a i:=by
   cases v<;>first | exact ⟨_,h⟩ | (simp [Sem.run] at h)
  obtain ⟨_,f⟩:=f
  split at f
  .split at f
   .cases f
   .exact b (w:=w.setCell g v) f
  grind [NQ]
 | new o k b=>exact b _ (w:={w with heap:=w.heap.push o}) h
 | shape r k b=>exact b _ h
 | freeze g n k b=>
  grind [Sem.run,World.freeze]
 | frozen g k b=>exact b _ h
 | getObj r k b=>
  grind [Sem.run]
 | setObj r o k b=>
  grind [Sem.run]
 | choose q k b=>
  grind [Sem.run]
 | sys c k b=>exact dh (Wf w c) (b _ h)
 | program k b=>exact b _ h
 | mark m k b=>exact b h
 | halt l=>simp [Sem.run] at h
variable {g:List (Nat×AV)}
theorem SR.set (h:SR F t a i w) (f0 x:Nat) (B:AJ) (z:Value) {hp':List (Nat×List AJ)}
  (hE:AT f0 t.env=some g) (hH:AR f0 t.hp=some k) (H:∀f j,cr hp' f j=if f=f0/\j=x then some B else cr k f j)
  (hnb:∀c cs,cr t.hp f0 x≠some (.blk c cs)) (N:∀b,B2 z=some b ->((∃o,cr t.hp f0 x=some o)/\B2 (a f0 x)=some b)\/(w.heap.size<=b/\b<A.heap.size))
  (V:A.os=w.os) (J:A.tape=w.tape) (M:A.output=w.output) (T:w.heap.size<=A.heap.size)
  (Y:∀b,b<w.heap.size ->¬((∃o,cr t.hp f0 x=some o)/\B2 (a f0 x)=some b) ->A.heap[b]? =w.heap[b]?)
  (L:(∀u v,(∀j,¬u.Refs f0 j) ->AU w (F.O a t.hp) a u v ->AU A (F.O (upd a f0 x z) hp') (upd a f0 x z) u v) ->Ad A (F.O (upd a f0 x z) hp') (upd a f0 x z) B z) (dU:w.drawn<=A.drawn:=by exact κ _):
  SR F ⟨t.n,g,hp'⟩ (upd a f0 x z) i A:=by
 obtain ⟨Q,X⟩:=Aj hH;have E:BR F k a w:=h.heap.less (λl j B y=>let ⟨o,r,b⟩:=Q l j B y;⟨o,r,λw O v hh=>b.1 w O a v hh⟩) λl j o y=>let ⟨B,r,b⟩:=X l j o y;⟨B,r,b.2.2.1⟩
 have W:(∃o,cr k f0 x=some o)↔∃o,cr t.hp f0 x=some o:=⟨λ⟨o,y⟩=>let ⟨B,r,_⟩:=Q _ _ _ y;⟨B,r⟩,λ⟨o,y⟩=>let ⟨B,r,_⟩:=X _ _ _ y;⟨B,r⟩⟩
 have Z:∀b,b<w.heap.size ->F.O (upd a f0 x z) hp' b ->F.O a t.hp b:=λb D y=>by
  rcases y with y | ⟨f,j,o,G,C⟩
  .exact .inl y
  .refine .inr ?_
   by_cases e:f=f0/\j=x
   .obtain ⟨rfl,rfl⟩:=e;rw [OY] at C;rcases N b C with ⟨⟨S,R⟩,h4⟩ | R
    .exact ⟨f,j,S,R,h4⟩
    .omega
   .rw [H,η e] at G;rw [MA e] at C;obtain ⟨S,R,_⟩:=Q _ _ _ G;exact ⟨f,j,S,R,C⟩
 have P:∀b,b<w.heap.size ->¬F.O a t.hp b ->A.heap[b]? =w.heap[b]?:=λb D y=>Y b D λ⟨⟨o,G⟩,C⟩=>y (.inr ⟨f0,x,o,G,C⟩)
 have I:∀u v,(∀j,¬u.Refs f0 j) ->AU w (F.O a t.hp) a u v ->AU A (F.O (upd a f0 x z) hp') (upd a f0 x z) u v:=λu v hA U=>
  U.mono T P Z λf j hf=>MA λ⟨e1,e2⟩=>hA j (by rw [<-e1];exact hf)
 have K:BR F hp' (upd a f0 x z) A:=by
  refine E.one f0 x B H (λf j e=>MA e) (λb hv=>?_) V J M T dU (λb D hn=>Y b D λ⟨G,C⟩=>hn ⟨W.2 G,C⟩) (.inr λf j o y hne=>?_) (λb hp=>?_) (by rw [OY];exact L I)
  .grind [OY]
  .obtain ⟨_,_,hl⟩:=Q _ _ _ y;exact λU=>Ql (hl.2.1 _ _ U) rfl
  .obtain ⟨_,c,cs,G⟩:=h.heap.pins f0 x b hp
   grind
 refine ⟨h.size,h.defs.mono T P Z,λc r ha=>?_,K⟩;rcases BO hE ha with rfl | ⟨G,C⟩
 .exact .top
 .exact I _ _ C (h.env c r G)
theorem SR.write {w':World} (h:SR F t a i w) (f0 l:Nat) (o D:AJ) (B:cr t.hp f0 l=some o)
  (r:∀f j,cr c f j=if f=f0/\j=l then some D else cr t.hp f j) (G:w'.os=w.os) (x:w'.tape=w.tape) (z:w'.output=w.output) (E:w'.heap.size=w.heap.size)
  (I:∀b,B2 (a f0 l)≠some b ->w'.heap[b]? =w.heap[b]?)
  (T:∀g N,o= .blk g N ->∃O K,D= .blk O K) (y:(∀A v,AU w (F.O a t.hp) a A v ->AU w' (F.O a c) a A v) ->Ad w' (F.O a c) a D (a f0 l)) (dU:w.drawn<=w'.drawn:=by exact κ _):SR F ⟨t.n,t.env,c⟩ a i w':=by
 have L:∀b,F.O a c b ->F.O a t.hp b:=λb H=>by
  rcases H with H | ⟨f,j,P,J,M⟩
  .exact .inl H
  .refine .inr ?_
   by_cases e:f=f0/\j=l
   .obtain ⟨rfl,rfl⟩:=e;exact ⟨f,j,o,B,M⟩
   .rw [r,η e] at J;exact ⟨f,j,P,J,M⟩
 have u:∀A v,AU w (F.O a t.hp) a A v ->AU w' (F.O a c) a A v:=λA v R=>
  R.mono (gP E.symm) (λb _ C=>I b λe=>C (.inr ⟨f0,l,o,B,e⟩)) (λb _=>L b) λ_ _ _=>rfl
 refine ⟨h.size,h.defs.mono (gP E.symm) (λb _ C=>I b λe=>C (.inr ⟨f0,l,o,B,e⟩)) (λb _=>L b),λg k U=>u _ _ (h.env g k U),?_⟩;refine h.heap.one f0 l D r (λ_ _ _=>rfl) (λb Q=> .inl ⟨⟨o,B⟩,Q⟩) G x z (gP E.symm) dU (λb _ C=>I b λe=>C ⟨⟨o,B⟩,e⟩) (.inl Z) (λb S=>?_) (y u);obtain ⟨_,g,N,J⟩:=h.heap.pins f0 l b S
 grind
def D3:List AJ ->Nat ->AJ ->Option (List AJ)
 | [],_,_=>none
 | _::r,0,o=>some (o::r)
 | a::r,i+1,o=>match D3 r i o with
  | none=>none
  | some r'=>some (a::r')
def ZO (l:List AJ) (i:Nat) (o:AJ):Option (List AJ):=match eu l with
 | some _=>none
 | none=>match Rx o with
  | true=>D3 l i o
  | false=>none
def BH:List (Nat×List AJ) ->Nat ->Nat ->AJ ->Option (List (Nat×List AJ))
 | [],_,_,_=>none
 | (k,l)::r,f,i,o=>match Nat.beq k f with
  | true=>match ZO l i o with
   | none=>none
   | some l'=>some ((k,l')::r)
  | false=>match BH r f i o with
   | none=>none
   | some r'=>some ((k,l)::r')
def Bw (hp:List (Nat×List AJ)) (f:Nat) (o:AJ):Option (List (Nat×List AJ)):=match cu hp f with
 | none=>match Rx o with
  | true=>some ((f,[o])::hp)
  | false=>none
 | some _=>none
theorem R2 {l:List AJ} (h:D3 l u o=some z):∀j:Nat,z[j]? =if j=u then some o else l[j]?:=by
 induction l generalizing z u with
 | nil=>simp [D3] at h
 | cons a r b=>
  cases u with
  | zero=>simp only [D3,Option.some.injEq] at h;subst h;intro j;cases j<;>simp
  | succ u=>
   grind [D3]
theorem Tx {l:List AJ} (h:ZO l u o=some z):∀j:Nat,gl z j=if j=u then some o else gl l j:=by
 unfold ZO at h
 split at h
 .cases h
 .rename_i t
  split at h
  .rename_i f
   have s:=R2 h
   have g:eu z=none:=by
    match l,u,h with
    | [],_,h=>simp [D3] at h
    | [a],0,h=>simp only [D3,Option.some.injEq] at h;subst h;exact Vw f
    | [a],_+1,h=>simp [D3] at h
    | a::b::r,0,h=>simp only [D3,Option.some.injEq] at h;subst h;rfl
    | a::b::r,u+1,h=>
     simp only [D3] at h
     split at h
     .cases h
     .rename_i k c
      injection h with h;subst h
      match u,c with
      | 0,c=>simp only [D3,Option.some.injEq] at c;subst c;rfl
      | u+1,c=>
       simp only [D3] at c
       split at c
       .cases c
       .injection c with c;subst c;rfl
   intro j;unfold gl
   grind
  .cases h
theorem Ag {f0:Nat} (h:BH s f0 y o=some c):∀f i,cr c f i=if f=f0/\i=y then some o else cr s f i:=by
 induction s generalizing c with
 | nil=>simp [BH] at h
 | cons p r g=>
  obtain ⟨k,l⟩:=p;simp only [BH] at h
  split at h
  .rename_i b
   have a:=Υ b;subst a
   split at h
   .cases h
   .rename_i v t
    injection h with h;subst h
    intro f i
    by_cases e:k=f
    .subst e;simp only [cr,cu,fH,gL,true_and];exact Tx t i
    grind [cr,cu,HK]
  .rename_i b
   have a:=fg b
   split at h
   .cases h
   .rename_i u j
    injection h with h;subst h
    intro f i
    by_cases e:k=f
    .grind [cr,cu,fH]
    .have:=g j f i
     grind [cr,cu]
theorem Ge {f0:Nat} (h:Bw s f0 o=some c):(∀f i,cr c f i=if f=f0/\i=0 then some o else cr s f i)/\∀i,cr s f0 i=none:=by grind [Bw,cr,cu,fH,Kh,HK]
theorem SR.new (h:SR F t a i w) (f0:Nat) (x:AJ) (l:Value) (u:Obj)
  (B:AT f0 t.env=some g) (z:AR f0 t.hp=some k) (r:Bw k f0 x=some c) (D:B2 l=some w.heap.size)
  (o:(∀A v,(∀j,¬A.Refs f0 j) ->AU w (F.O a t.hp) a A v ->AU (w.alloc u) (F.O (upd a f0 0 l) c) (upd a f0 0 l) A v) ->Ad (w.alloc u) (F.O (upd a f0 0 l) c) (upd a f0 0 l) x l):
  SR F ⟨t.n,g,c⟩ (upd a f0 0 l) i (w.alloc u):=by
 obtain ⟨C,H⟩:=Ge r;refine h.set f0 0 x l B z C (λf I E=>?_) (λb G=> .inr ?_) Z Z Z (by simp) (λb y _=>Below.heap_alloc w u b y) o
 .grind [Aj]
 simp_all
def SD:List D ->Option (List AV)
 | []=>some []
 | c::r=>match SD r with
  | none=>none
  | some l=>some (.d c::l)
def AV.cells?:AV ->Option (List AV)
 | .agg cs=>some cs
 | .d (.agg cs)=>SD cs
 | .d (.tup _)=>none
 | .top=>none
 | .tup _=>none
 | a=>some [a]
variable {f:List AV}
theorem UX {a:List D} (h:SD a=some f):f=a.map .d:=by
 induction a generalizing f with
 | nil=>simp only [SD,Option.some.injEq] at h;subst h;rfl
 | cons c r b=>
  grind [SD]
theorem AU.cells {s:AV} (t:s.cells? =some f) (o:AU w j a s h):
  h.cells.toList.length=f.length/\∀(b:Nat) c u,f[b]? =some c ->h.cells.toList[b]? =some u ->AU w j a c u/\u.oneCell'=true:=by
 have one:∀{h:Value} {s:AV},h.oneCell'=true ->AU w j a s h ->h.cells.toList.length=[s].length/\∀(b:Nat) c u,[s][b]? =some c ->h.cells.toList[b]? =some u ->AU w j a c u/\u.oneCell'=true:=λ{h s} A o=>by
  have z:h.cells.toList=[h]:=by cases h<;>first | rfl | cases A
  grind
 cases s with
 | agg G=>
  simp only [AV.cells?,Option.some.injEq] at t;subst t
  cases o with
  | agg A E D=>exact ⟨by simpa [Value.cells] using A,λb c u z B=>⟨D b c u z (by simpa [Value.cells] using B),E u (ϑ (by simpa [Value.cells] using B))⟩⟩
 | d x=>
  cases x with
  | agg G=>
   simp only [AV.cells?] at t;have:=UX t;subst this
   cases o with
   | d o=>
    cases o with
    | agg A E D=>
     refine ⟨by simpa [Value.cells] using A,λb c u z B=>?_⟩;rw [ζ] at z
     cases hcs:G[b]? with
     | none=>rw [hcs] at z;cases z
     | some x=>
      rw [hcs] at z;injection z with z;subst z
      have F:=D b x u hcs (by simpa [Value.cells] using B);exact ⟨.d F,F.oneCell (E x (ϑ hcs))⟩
  | tup _=>simp [AV.cells?] at t
  | raw u=>
   simp only [AV.cells?,Option.some.injEq] at t;subst t;have y:=o
   cases o with | d o=>exact one (o.oneCell rfl) y
  | sl _ _=>
   simp only [AV.cells?,Option.some.injEq] at t;subst t;have y:=o
   cases o with | d o=>exact one (o.oneCell rfl) y
  | ptr _=>
   simp only [AV.cells?,Option.some.injEq] at t;subst t;have y:=o
   cases o with | d o=>exact one (o.oneCell rfl) y
  | fn _ _ _=>
   simp only [AV.cells?,Option.some.injEq] at t;subst t;have y:=o
   cases o with | d o=>exact one (o.oneCell rfl) y
 | top=>simp [AV.cells?] at t
 | tup _=>simp [AV.cells?] at t
 | ptr r i C=>simp only [AV.cells?,Option.some.injEq] at t;subst t;have y:=o;cases o;exact one Z y
 | own r i n=>simp only [AV.cells?,Option.some.injEq] at t;subst t;have y:=o;cases o;exact one Z y
 | rptr r i k e C=>simp only [AV.cells?,Option.some.injEq] at t;subst t;have y:=o;cases o;exact one Z y
 | map r i=>simp only [AV.cells?,Option.some.injEq] at t;subst t;have y:=o;cases o;exact one Z y
 | ifc T I r i=>simp only [AV.cells?,Option.some.injEq] at t;subst t;have y:=o;cases o;exact one (by cases I<;>rfl) y
 | fn g H=>simp only [AV.cells?,Option.some.injEq] at t;subst t;have y:=o;cases o;exact one Z y
def Gr:List Value ->Option (List AV)
 | []=>some []
 | v::r=>match Gr r with
  | none=>none
  | some l=>match Hj v with
   | none=>none
   | some a=>some (a::l)
theorem CP {a:List Value} (h:Gr a=some f) (w:World) (O:Nat ->Prop) (b:Nat ->Nat ->Value):a.length=f.length/\∀(j:Nat) c u,f[j]? =some c ->a[j]? =some u ->AU w O b c u/\u.oneCell'=true:=by
 induction a generalizing f with
 | nil=>simp only [Gr,Option.some.injEq] at h;subst h;simp
 | cons v r g=>
  grind [Gr,KW]
def Ao (P:Program) (T:TypeId):Option (List AV):=match P.info? T with
 | none=>none
 | some i=>match i.zero with
  | none=>none
  | some z=>Gr z.cells.toList
theorem HP (h:Ao P T=some f):∃(i:TypeInfo) (z:Value),P.info? T=some i/\i.zero=some z/\Gr z.cells.toList=some f:=by grind [Ao]
theorem Pt {h:List AV} {us:List Value} {b:Nat} (o:w.heap[b]? =some (.cells us.toArray T (0,0))) (k:us.length=h.length)
  (i:∀(f:Nat) c u,h[f]? =some c ->us[f]? =some u ->AU w j a c u/\u.oneCell'=true):Ad w j a (.blk T h) (.pointer (some ⟨b,0,none⟩)):=
 ⟨b,us,Z,o,k,λf c u r g=>(i f c u r g).1,λu g=>by
  obtain ⟨f,l,rfl⟩:=eQ g
  exact (i f _ _ (ω (by omega)) (ω l)).2⟩
section
variable {P:Program} {F:Fr} {s:AS} {d:Nat} {ty T E:TypeId} {pos:String} {aft:Array Edge} {g:Option (Nat×Bool)} {x y:Operand} {k:IntKind} {i:Int}
variable {a:List (Nat×AV)} {c f:List (Nat×List AJ)} {h:List AV}
theorem CE (l:Nat) (D:Ao P T=some h) (M:AT l s.env=some a) (L:AR l s.hp=some c) (I:Bw c l (.blk T h)=some f) (J:Nat.blt d s.n=true):
  AH P F ⟨some d,.alloc T,ty,pos,aft,g⟩ s ⟨s.n,(d,.ptr l 0 0)::a,f⟩ (BS l):=λA v w H=>by
 obtain ⟨R,z,Q,O,C⟩:=HP D
 have r:(execOp v.eval ⟨some d,.alloc T,ty,pos,aft,g⟩).run P w= .ok (.value (.pointer (some ⟨w.heap.size,0,none⟩))) (w.alloc (.cells z.cells T)):=by
  simp [execOp,Instr.alloc,zeroValue,typeInfo,Q,O,newVar,newRow]
 unfold Oper.wp;rw [r]
 have t:=H.new l (.blk T h) (.pointer (some ⟨w.heap.size,0,none⟩)) (.cells z.cells T) M L I Z (λB=>by
  obtain ⟨N,_⟩:=CP C w (F.O A s.hp) A;refine Pt (us:=z.cells.toList) (by simpa using heap_alloc_new w (.cells z.cells T)) N λj o u K G=>?_
  exact (CP C _ _ _).2 j o u K G)
 exact ⟨_,t.put (IW J) (.ptr OY),λl i b=>MA λe=>Ql b e.1⟩
theorem CQ (l:Nat) {A:AV} (D:s.ev x=some A) (z:A.cells? =some h) (L:aM l h=true) (K:AT l s.env=some a) (J:AR l s.hp=some c) (H:Bw c l (.blk T h)=some f) (I:Nat.blt d s.n=true):
  AH P F ⟨some d,.box T x,ty,pos,aft,g⟩ s ⟨s.n,(d,.ptr l 0 0)::a,f⟩ (BS l):=λR r w C=>by
 have t:(execOp r.eval ⟨some d,.box T x,ty,pos,aft,g⟩).run P w= .ok (.value (.pointer (some ⟨w.heap.size,0,none⟩))) (w.alloc (.cells (r.eval x).cells T)):=by
  simp [execOp,Instr.box,newVar,newRow]
 unfold Oper.wp;rw [t];obtain ⟨Q,O⟩:=(C.ev D).cells z
 have B:=C.new l (.blk T h) (.pointer (some ⟨w.heap.size,0,none⟩)) (.cells (r.eval x).cells T) K J H Z (λv=>by
  refine Pt (us:=(r.eval x).cells.toList) (by simpa using heap_alloc_new w (.cells (r.eval x).cells T)) Q λj o u z G=>?_;obtain ⟨N,M⟩:=O j o u z G
  exact ⟨v o u (Ry L (ϑ z)) N,M⟩)
 exact ⟨_,B.put (IW I) (.ptr OY),λl i b=>MA λe=>Ql b e.1⟩
end
variable {a:List Value} {c:List AV} {t:TypeId} {w:World}
def FQ {α:Type} (cs:List α) (off:Nat):List α ->List α
 | []=>cs
 | v::r=>FQ (cs.set off v) (off+1) r
theorem YX {c:Type}:∀(l b:List c) (a:Nat),(FQ b a l).length=b.length
 | [],_,_=>rfl
 | v::r,b,a=>by rw [FQ,YX r];simp
theorem C3 {f:Type}:∀(l b:List f) (a:Nat),a+l.length<=b.length ->∀j:Nat,(FQ b a l)[j]? =if a<=j/\j<a+l.length then l[j - a]? else b[j]?
 | [],b,a,_,j=>by rw [FQ,η (by simp only [List.length_nil,fG];omega)]
 | v::r,b,a,h,j=>by
  simp only [gm] at h⊢;rw [FQ,C3 r _ _ (by simp;omega)]
  by_cases e:j=a
  .subst e;rw [η (by omega),ϖ (by omega),Nat.sub_self,List.getElem?_set_self (by omega)];rfl
  .by_cases c:a+1<=j/\j<a+1+r.length
   .rw [ϖ c,ϖ (by omega)];have:j - a=(j - (a+1))+1:=by omega
    rw [this];rfl
   .rw [η c,η (by omega),List.getElem?_set_ne (by omega)]
theorem Is {b o:Nat} {c:Nat×Nat} {v:Value} (h:w.heap[b]? =some (.cells a.toArray t c)):(w.setCell ⟨b,o,none⟩ v).heap[b]? =some (.cells (a.set o v).toArray t c):=by
 simp [World.setCell,gS,h]
theorem ot {b:Nat} {t:TypeId} {fr:Nat×Nat}:∀(c a:List Value) (o:Nat) (w:World),w.heap[b]? =some (.cells a.toArray t fr) ->(w.setCells b o c).heap[b]? =some (.cells (FQ a o c).toArray t fr)
 | [],_,_,_,h=>h
 | v::r,a,o,w,h=>by
  rw [World.setCells,FQ];exact ot r _ _ _ (Is h)
theorem ou {b:Nat}:∀(a:List Value) (o:Nat) (w:World) (k:Nat),k≠b ->(w.setCells b o a).heap[k]? =w.heap[k]?
 | [],_,_,_,_=>rfl
 | v::r,o,w,k,h=>by rw [World.setCells,ou r _ _ k h,Below.heap_setCell _ _ _ _ h]
theorem oq {b:Nat}:∀(a:List Value) (o:Nat) (w:World),(w.setCells b o a).os=w.os/\(w.setCells b o a).tape=w.tape/\(w.setCells b o a).output=w.output/\(w.setCells b o a).heap.size=w.heap.size
 | [],_,_=>⟨Z,Z,Z,Z⟩
 | v::r,o,w=>by
  obtain ⟨h,g,f,c⟩:=oq r (o+1) (w.setCell ⟨b,o,none⟩ v);rw [World.setCells];exact ⟨h,g,f,by rw [c];simp⟩
theorem Fe {P:Program} {T:TypeId} {b o:Nat} {v:Value} (h:w.heap[b]? =some (.cells a.toArray t (0,0))) (i:(P.info? T).map (·.size)=some v.cells.toList.length) (g:o+v.cells.toList.length<=a.length)
  (k:∀u∈v.cells.toList,u.oneCell'=true):(Instr.storeAt T (.pointer (some ⟨b,o,none⟩)) v).run P w= .ok () (w.setCells b o v.cells.toList):=by
 have f:w.there b o v.cells.size:=λj l=>by
  have c:o+j<a.length:=by simp at g;omega
  refine ⟨?_,by simp [World.frozen?,h]⟩;rw [cell_of_row w b (o+j) a.toArray t (0,0) h]
  simp [c]
 have s:=run_storeVar_mid (P:=P) w b o T v.cells f (by simpa using i) (all_oneCell_toArray (cs:=v.cells.toList) k);have r:(storeVar T ⟨b,o,none⟩ v).run P w=(storeVar T ⟨b,o,none⟩ (.agg v.cells)).run P w:=rfl
 grind [Instr.storeAt,Instr.sureAddr]
def Dy:List AV ->Nat ->List AV ->Option (List AV)
 | cs,0,[]=>some cs
 | [],0,_::_=>none
 | _::cs,0,v::r=>match Dy cs 0 r with
  | none=>none
  | some cs'=>some (v::cs')
 | [],_+1,_=>none
 | c::cs,o+1,l=>match Dy cs o l with
  | none=>none
  | some cs'=>some (c::cs')
theorem Cc:∀(b:List AV) (o:Nat) (l a:List AV),Dy b o l=some a ->o+l.length<=b.length/\a.length=b.length/\∀j:Nat,a[j]? =if o<=j/\j<o+l.length then l[j - o]? else b[j]?
 | b,0,[],a,h=>by
  simp only [Dy,Option.some.injEq] at h;subst h;exact ⟨by simp,Z,λj=>by rw [η (by simp)]⟩
 | [],0,_::_,_,h=>by simp [Dy] at h
 | c::b,0,v::r,a,h=>by
  simp only [Dy] at h
  split at h
  .cases h
  .rename_i f k
   injection h with h;subst h
   obtain ⟨s,i,g⟩:=Cc b 0 r f k;refine ⟨by simp at s⊢;omega,by simp [i],λj=>?_⟩
   cases j with
   | zero=>simp
   | succ j=>
    have:=g j;simp only [List.getElem?_cons_succ,this,ϱ,true_and,fN,Nat.sub_zero,gm,Nat.add_lt_add_iff_right]
 | [],_+1,_,_,h=>by simp [Dy] at h
 | c::b,o+1,l,a,h=>by
  simp only [Dy] at h
  split at h
  .cases h
  .rename_i f k
   injection h with h;subst h
   obtain ⟨s,i,g⟩:=Cc b o l f k;refine ⟨by simp;omega,by simp [i],λj=>?_⟩
   cases j with
   | zero=>simp
   | succ j=>
    have:=g j;simp only [List.getElem?_cons_succ,this]
    by_cases e:o<=j/\j<o+l.length
    .rw [ϖ e,ϖ (by omega)];congr 1;omega
    .rw [η e,η (by omega)]
def Ek:List AV ->Nat ->Nat ->Option (List AV)
 | _,0,0=>some []
 | [],0,_+1=>none
 | c::cs,0,n+1=>match Ek cs 0 n with
  | none=>none
  | some l=>some (c::l)
 | [],_+1,_=>none
 | _::cs,o+1,n=>Ek cs o n
theorem FV:∀(a:List AV) (o n:Nat) (l:List AV),Ek a o n=some l ->o+n<=a.length/\l.length=n/\∀j:Nat,j<n ->l[j]? =a[o+j]?
 | a,0,0,l,h=>by simp only [Ek,Option.some.injEq] at h;subst h;simp
 | [],0,_+1,_,h=>by simp [Ek] at h
 | c::a,0,n+1,l,h=>by
  simp only [Ek] at h
  split at h
  .cases h
  .rename_i k r
   injection h with h;subst h
   obtain ⟨i,f,b⟩:=FV a 0 n k r;refine ⟨by simp at i⊢;omega,by simp [f],λj g=>?_⟩
   cases j with
   | zero=>simp
   | succ j=>have:=b j (by omega);simp only [fN] at this⊢;simpa using this
 | [],_+1,_,_,h=>by simp [Ek] at h
 | c::a,o+1,n,l,h=>by
  simp only [Ek] at h;obtain ⟨i,f,b⟩:=FV a o n l h;refine ⟨by simp;omega,f,λj g=>?_⟩;rw [b j g,show o+1+j=(o+j)+1 by omega];rfl
def Nm:List AV ->Option (List D)
 | []=>some []
 | .d x::r=>match Nm r with
  | none=>none
  | some l=>match x.one with
   | true=>some (x::l)
   | false=>none
 | _::_=>none
def In (l:List AV):Option AV:=match Nm l with
 | some ds=>some (.d (.agg ds))
 | none=>some (.agg l)
theorem Nl {f:List D} (h:Nm c=some f):c=f.map .d/\∀b∈f,b.one=true:=by
 induction c generalizing f with
 | nil=>simp only [Nm,Option.some.injEq] at h;subst h;simp
 | cons a r g=>
  cases a with
  | d x=>
   grind [Nm]
  | _=>simp [Nm] at h
theorem F2 {w:World} {O:Nat ->Prop} {ρ:Nat ->Nat ->Value} {A:AV} (h:In c=some A) {us:List Value} (k:us.length=c.length) (f:∀(j:Nat) a u,c[j]? =some a ->us[j]? =some u ->AU w O ρ a u/\u.oneCell'=true):AU w O ρ A (.agg us.toArray):=by
 unfold In at h
 split at h
 .rename_i t g
  injection h with h;subst h
  obtain ⟨s,r⟩:=Nl g;subst s;refine .d (.agg (by simpa using k) r λj a u i b=>?_);have:=(f j (.d a) u (by rw [ζ,i];rfl) b).1
  cases this with | d h=>exact h
 .injection h with h;subst h
  exact .agg k (λu b=>by
   obtain ⟨j,o,rfl⟩:=eQ b
   exact (f j _ _ (ω (by omega)) (ω o)).2) λj a u i b=>(f j a u i b).1
theorem List.getElem?_some_of_lt {b:Type} {l:List b} {i:Nat} (h:i<l.length):∃a,l[i]? =some a:=⟨_,ω h⟩
section
variable {P:Program} {F:Fr} {s:AS} {d:Nat} {ty T E:TypeId} {pos:String} {aft:Array Edge} {g:Option (Nat×Bool)} {x y:Operand} {k:IntKind} {i:Int}
variable {a:Bool} {c f:Nat} {t:TypeId} {h:List D} {o:Nat} {j:List AV} {u w:Nat} {A:AV} {z:World} {B:D}
theorem Tp {l L:List AV} {J:List (Nat×List AJ)} (hx:s.ev x=some (.ptr u w c)) (hy:s.ev y=some A) (hc:A.cells? =some l) (W:cr s.hp u w=some (.blk t j)) (G:Dy j c l=some L)
  (hh:BH s.hp u w (.blk t L)=some J) {V:Nat} (Q:l.length=V) (hT:AW P T V=true):AH P F ⟨none,.store T x y,ty,pos,aft,g⟩ s ⟨s.n,s.env,J⟩ (λ_ _=>true):=λρ v a M=>by
 subst Q;have H:=M.ev hx
 generalize N:v.eval x=vx at H
 cases H with
 | @ptr _ _ _ b U=>
  obtain ⟨b',us,D,h1,h2,h3,h4⟩:=M.heap.sim u w _ W;rw [U] at D;injection D with D;injection D with D;injection D with D;subst D
  obtain ⟨Y,X⟩:=(M.ev hy).cells hc;obtain ⟨h7,h8,h9⟩:=Cc _ _ _ _ G
  have K:∀h∈(v.eval y).cells.toList,h.oneCell'=true:=λh z=>by
   obtain ⟨w,hj,rfl⟩:=eQ z;exact (X w _ _ (ω (by omega)) (ω hj)).2
  have I:=Fe (P:=P) (T:=T) (o:=c) h1 (by rw [Y];exact YY hT) (by omega) K
  have R:(execOp v.eval ⟨none,.store T x y,ty,pos,aft,g⟩).run P a= .ok .skip (a.setCells b c (v.eval y).cells.toList):=by
   simp [execOp,N,I]
  unfold Oper.wp;rw [R];obtain ⟨g1,g2,g3,g4⟩:=oq (b:=b) (v.eval y).cells.toList c a;refine ⟨ρ,M.write u w _ _ W (Ag hh) g1 g2 g3 g4 (λb' S=>ou _ _ _ _ (λe=>S (by rw [U,e];rfl))) (λ_ _ _=>⟨_,_,Z⟩) (λC=>?_) (gP (DB _ _ _ _).symm),λ_ _ _=>rfl⟩;rw [U];refine Pt (ot _ _ _ _ h1) (by rw [YX];omega) λm r h B z=>?_;rw [C3 _ _ _ (by omega)] at z;rw [h9] at B;rw [Y] at z
  split at B
  .rename_i O
   rw [ϖ O] at z;obtain ⟨a1,a2⟩:=X _ _ _ B z;exact ⟨C _ _ a1,a2⟩
  .rename_i O
   rw [η O] at z;exact ⟨C _ _ (h3 m r h B z),h4 h (ϑ z)⟩
theorem A5 (G:s.ev x=some (.ptr u w c)) (H:cr s.hp u w=some (.blk t j)) (D:j[c]? =some A) (K:BF P T=true) (I:Nat.blt d s.n=true):
  AA P F ⟨some d,.load T x,ty,pos,aft,g⟩ s d A:=
 CR _ I λO B a C=>by
  have o:=C.ev G
  generalize z:B.eval x=Q at o
  cases o with
  | @ptr _ _ _ b J=>
   obtain ⟨S,v,h,N,M,L,R⟩:=C.heap.sim u w _ H;rw [J] at h;injection h with h;injection h with h;injection h with h;subst h
   have r:c<v.length:=by rw [M];exact (χ.1 D).1
   have l:a.cell? ⟨b,c,none⟩=some v[c]:=by
    rw [cell_of_row a b c v.toArray t (0,0) N];simp [r]
   exact ⟨v[c],by simp [execOp,z,Instr.loadAt,Instr.sureAddr,loadVar,D7 K,l],L c A _ D (ω r)⟩
theorem B1 {l:List AV} (O:s.ev x=some (.ptr u w c)) (R:cr s.hp u w=some (.blk t j)) (W:CA P T f=true) (S:Ek j c f=some l) (X:In l=some A) (U:Nat.blt d s.n=true):
  AA P F ⟨some d,.load T x,ty,pos,aft,g⟩ s d A:=
 CR _ U λρ K a L=>by
  have C:=L.ev O
  generalize G:K.eval x=vx at C
  cases C with
  | @ptr _ _ _ b V=>
   obtain ⟨b',D,z,h1,h2,h3,h4⟩:=L.heap.sim u w _ R;rw [V] at z;injection z with z;injection z with z;injection z with z;subst z
   obtain ⟨⟨ds,h5,Z⟩,Y⟩:=Es W;obtain ⟨h8,N,J⟩:=FV _ _ _ _ S;have r:((D.drop c).take f).length=f:=by rw [Θ,List.length_drop];omega
   have Q:=run_loadAt_mid (P:=P) a b c T ((D.drop c).take f) ds (λw v B=>by
    rw [cell_of_row a b (c+w) D.toArray t (0,0) h1];rw [gZ] at B
    split at B
    .rw [gu] at B;simpa using B
    .cases B) h5 Z (by rw [r];exact Y)
   refine ⟨.agg ((D.drop c).take f).toArray,by simp [execOp,G,Q],F2 X (by rw [r,N]) λm o h I H=>?_⟩;have M:m<f:=by rw [<-N];exact (χ.1 I).1
   rw [J m M] at I;rw [gZ,ϖ M,gu] at H;exact ⟨h3 _ o h I H,h4 h (ϑ H)⟩
def n5:TypeDesc ->Bool
 | .struct _=>true
 | .array _ _=>true
 | _=>false
def AI (P:Program) (T:TypeId) (i:Nat):Option (Nat×Nat×Bool):=match P.underlying T with
 | some (.struct fs)=>match fs[i]? with
  | none=>none
  | some f=>match P.info? f.type with
   | none=>none
   | some inf=>match P.underlying f.type with
    | none=>none
    | some ds=>some (f.offset,inf.size,n5 ds)
 | _=>none
theorem Hh {P:Program} {T:TypeId} {i:Nat} (h:AI P T i=some (o,f,a)):∃(j:Array Field) (b:Field),P.underlying T=some (.struct j)/\j[i]? =some b/\b.offset=o/\(P.info? b.type).map (·.size)=some f/\∀w,(isAgg b.type).run P w= .ok a w:=by
 unfold AI at h
 split at h
 .rename_i j l
  split at h
  .cases h
  .rename_i b v
   split at h
   .cases h
   .rename_i u c
    split at h
    .cases h
    .rename_i C t
     simp only [Option.some.injEq,Prod.mk.injEq] at h;obtain ⟨B,A,z⟩:=h;subst B A z;refine ⟨j,b,l,v,Z,by simp [c],λw=>?_⟩;unfold isAgg;rw [Sem.run_bind,run_underlying t w]
     cases C<;>rfl
 .cases h
theorem Wv {P:Program} {T:TypeId} {i:Nat} (h:AI P T i=some (o,f,a)) {c:List Value} (hc:a=true ∨ o<c.length):(Instr.field T (.agg c.toArray) i).run P z=if a then .ok (.agg (c.toArray.extract o (o+f))) z else (match c[o]? with | some v=> .ok v z | none=> .ok (.agg #[]) z):=by
 obtain ⟨C,b,u,t,l,B,j⟩:=Hh h;have A:=kp B z
 cases a
 . cases hc with | inl hc=>cases hc | inr hc=>simp [Instr.field,run_underlying u,t,part,j,l,asAgg,hc]
 .simp [Instr.field,run_underlying u,t,part,j,l,asAgg,A]
theorem Tt {i:Nat} (t:s.ev x=some (.d (.agg h))) (C:AI P T i=some (o,f,false)) (r:h[o]? =some B) (D:Nat.blt d s.n=true):
  AA P F ⟨some d,.field T x i,ty,pos,aft,g⟩ s d (.d B):=
 CR _ D λH j w z=>by
  have a:=z.repD t
  generalize u:j.eval x=v at a
  cases a with
  | @agg _ l A I G=>
   have b:o<l.length:=by rw [A];exact (χ.1 r).1
   refine ⟨l[o],?_,.d (G o B _ r (ω b))⟩
   simp [execOp,u,Wv C (.inr b),b]
theorem Dz {P:Program} {T:TypeId} {i:Nat} (h:AI P T i=some (o,f,a)) (t:Nat.blt 0 f=true) {b:Nat}:(Instr.fieldAt T (.pointer (some ⟨b,c,none⟩)) i).run P z= .ok (.pointer (some ⟨b,c+o,none⟩)) z:=by
 obtain ⟨G,j,D,C,B,u,A⟩:=Hh h;have v:=kp u z;have l:¬f=0:=by have:=IW t;omega
 simp [*,Instr.fieldAt,run_underlying,Instr.sureAddr,fieldPlace,Addr.add_mid]
theorem A1 {l i:Nat} (z:s.ev x=some (.ptr u w c)) (G:AI P T i=some (o,f,a)) (D:Nat.blt 0 f=true) (C:c+o=l) (H:Nat.blt d s.n=true):
  AA P F ⟨some d,.fieldAddr T x i,ty,pos,aft,g⟩ s d (.ptr u w l):=
 CR _ H λJ t b B=>by
  have h:=B.ev z
  generalize A:t.eval x=v at h
  cases h with
  | ptr I=>subst C;exact ⟨_,by simp [execOp,A,Dz G D],.ptr I⟩
theorem WZ {k e t i:Nat} (A:s.ev x=some (.rptr u w k e c)) (H:AI P T i=some (o,f,a)) (G:Nat.blt 0 f=true) (D:c+o=t) (I:Nat.blt d s.n=true):
  AA P F ⟨some d,.fieldAddr T x i,ty,pos,aft,g⟩ s d (.rptr u w k e t):=
 CR _ I λL z l C=>by
  have h:=C.ev A
  generalize B:z.eval x=v at h
  cases h with
  | @rptr _ _ _ _ _ b N K J=>subst D;exact ⟨.pointer (some ⟨b,e*k+(c+o),none⟩),by simp [execOp,B,Dz H G,Nat.add_assoc],.rptr J⟩
theorem GW {i:Nat} (G:s.ev x=some (.d (.ptr (.agg h)))) (K:AI P T i=some (o,f,false)) (J:Nat.blt 0 f=true) (u:h[o]? =some B) (L:Nat.blt d s.n=true):
  AA P F ⟨some d,.fieldAddr T x i,ty,pos,aft,g⟩ s d (.d (.ptr B)):=
 CR _ L λS z w I=>by
  have a:=I.repD G
  generalize H:z.eval x=v at a
  cases a with
  | @ptr _ b t C M N R Q O=>
   have r:B.one=true:=R B (ϑ u);refine ⟨.pointer (some ⟨b,t+o,none⟩),by simp [execOp,H,Dz K J],.d (.ptr (λj=>C (o+j)) M N (λA l=>?_) (λj A l=>?_) (λj A l=>?_))⟩
   .rw [D.cells_one r] at l;simp at l;rw [l];exact r
   .rw [D.cells_one r] at l
    cases j with
    | zero=>simp at l;subst l;rw [fG];exact Q o B u
    | succ j=>simp at l
   .rw [D.cells_one r] at l
    cases j with
    | zero=>simp at l;subst l;exact O o B u
    | succ j=>simp at l
theorem GV {u:List D} {i:Nat} (C:s.ev x=some (.d (.ptr (.agg h)))) (J:AI P T i=some (o,f,true)) (I:Nat.blt 0 f=true) (r:(h.drop o).take f=u) (K:Nat.blt d s.n=true):
  AA P F ⟨some d,.fieldAddr T x i,ty,pos,aft,g⟩ s d (.d (.ptr (.agg u))):=
 CR _ K λR A w H=>by
  have a:=H.repD C
  generalize G:A.eval x=v at a
  subst r
  have cr:∀(j:Nat) c,(D.agg ((h.drop o).take f)).cells[j]? =some c ->h[o+j]? =some c:=λj c r=>by
   simp only [D.cells] at r;rw [gZ] at r
   split at r
   .rw [gu] at r;exact r
   .cases r
  cases a with
  | @ptr _ b z B L M Q O N=>
   refine ⟨.pointer (some ⟨b,z+o,none⟩),by simp [execOp,G,Dz J I],.d (.ptr (λj=>B (o+j)) L M (λt l=>Q t (List.mem_of_mem_drop (fM l))) (λj t l=>?_) (λj t l=>?_))⟩
   .have:=O _ t (cr j t l);rwa [<-Nat.add_assoc] at this
   .exact N _ t (cr j t l)
theorem KE (l:s.ev x=some (.ptr u w c)) (t:Nat.blt d s.n=true):AA P F ⟨some d,.nilCheck x,ty,pos,aft,g⟩ s d (.ptr u w c):=
 CR _ t λA b a r=>by
  have h:=r.ev l
  generalize o:b.eval x=v at h
  cases h with
  | ptr z=>exact ⟨_,by simp [execOp,o],.ptr z⟩
theorem YR {k e:Nat} (l:s.ev x=some (.rptr u w k e c)) (t:Nat.blt d s.n=true):AA P F ⟨some d,.nilCheck x,ty,pos,aft,g⟩ s d (.rptr u w k e c):=
 CR _ t λA b a r=>by
  have h:=r.ev l
  generalize o:b.eval x=v at h
  cases h with
  | rptr z=>exact ⟨_,by simp [execOp,o],.rptr z⟩
theorem JI {e:D} (b:s.ev x=some (.d (.ptr e))) (j:Nat.blt d s.n=true):AA P F ⟨some d,.nilCheck x,ty,pos,aft,g⟩ s d (.d (.ptr e)):=
 CR _ j λo a w f=>by
  have h:=f.repD b
  generalize c:a.eval x=v at h
  have l:=h
  cases h with
  | ptr _ _ _ _ _ _=>exact ⟨_,by simp [execOp,c],.d l⟩
end
section
variable {P:Program} {F:Fr} {d:Nat} {ty T T':TypeId} {pos:String} {aft:Array Edge} {g:Option (Nat×Bool)} {x y:Operand}
theorem Bk {n:Nat} {a:List (Nat×AV)} {i:List (Nat×List AJ)} {f j b:Nat} {A:AV} {t:TypeId} {l s k:List AV} {h:List (Nat×List AJ)} (v:AS.ev ⟨n,a,i⟩ x=some (.ptr f j b)) (u:AS.ev ⟨n,a,i⟩ y=some A) (B:A.cells? =some l) (w:cr i f j=some (.blk t s)) (c:Dy s b l=some k)
  (z:BH i f j (.blk t k)=some h) {r:Nat} (o:l.length=r) (C:AW P T r=true):AH P F ⟨none,.store T x y,ty,pos,aft,g⟩ ⟨n,a,i⟩ ⟨n,a,h⟩ (λ_ _=>true):=Tp v u B w c z o C
end
variable {a:List Value} {w:World} {c:Type} {R:c ->Value ->Prop} {f:c ->List c} {g:Option Addr} {k:Nat} {h:TypeId} {i:Nat} {t:TypeId} {j:List c} {o s u:Nat}
theorem G5 {n:Nat} {v:Value} (c:w.ownsRow i h o v n a):∃f j,v= .slice f n j/\n<=j/\j<=maxLen/\(f=none ->j=0)/\
  (0<n ->∃b k,f=some ⟨b,0,none⟩/\w.heap[b]? =some (.cells k h (0,0))/\k.size=j*o/\k.toList.take (n*o)=a):=by
 rcases c.2 with ⟨rfl,rfl⟩ | ⟨g,j,k,rfl,_,u,t,s,r,l⟩
 .grind
 grind
theorem QD {n:Nat} {N:Nat} (b:w.ownsRow i h o (.slice g N u) n a) (l:s<=n):w.ownsRow i h o (.slice g s u) s (a.take (s*o)):=by
 have r:s*o<=n*o:=fW _ l;refine ⟨by rw [Θ,b.1];omega,?_⟩;rcases b.2 with ⟨f,rfl⟩ | ⟨c,k,j,f,z,y,A,x,v,t⟩
 .grind
 .injection f with f e2 e3
  subst f e2 e3;exact .inr ⟨c,u,j,Z,z,y,by omega,x,v,by rw [<-t,List.take_take];congr 1;omega⟩
theorem SR.rowD {F:Fr} {s:AS} {r:Nat ->Nat ->Value} {u:Act} (h:SR F s r u w) {f j:Nat} {i:List D} (v:cr s.hp f j=some (.rowD t k i)):
  ∃(o:List Value) (a:Option Addr) (g:Nat),r f j= .slice a i.length g/\w.ownsRow 0 t k (.slice a i.length g) i.length o/\FN D.cells k (AN w (F.O r s.hp)) i o/\(∀x∈i,∀c∈x.cells,c.one=true)/\
   (i.length<=g/\g<=maxLen/\(a=none ->g=0))/\(0<i.length ->∃b,a=some ⟨b,0,none⟩/\∃l,w.heap[b]? =some (.cells l t (0,0))/\l.size=g*k/\l.toList.take (i.length*k)=o):=by
 obtain ⟨o,A,z,y⟩:=h.heap.sim f j _ v
 grind [G5]
theorem DD {b:Nat} {c:Array Value} {j:Nat} {u:Value} (h:w.heap[b]? =some (.cells c t (0,0))) (f:c.toList.take s=a) (g:a[j]? =some u):w.cell? ⟨b,j,none⟩=some u:=by grind [cell_of_row]
theorem AN.lies {O:Nat ->Prop} {J:Option Bool} {t:List D} (h:AN w O (.sl J t) (.slice g s u)) (H:∀y∈t,y.cells.length=k):
  ∃A:List Value,Bl w w.heap.size k g s A/\FN D.cells k (AN w O) t A/\(∀y∈t,∀c∈y.cells,c.one=true)/\s=t.length:=by
 cases h with
 | sl V hn hz K I hm M ha X=>
  subst K;rcases Nat.eq_zero_or_pos t.length with R | R
  .simp [*,gU,Bl,FN]
  .obtain ⟨b,o,rfl⟩:=ha (by intro e;subst e;simp at R)
   have r:∀(i:Nat) x,t[i]? =some x ->b<w.heap.size/\(∀c∈x.cells,c.one=true)/\∀(j:Nat) c,x.cells[j]? =some c ->∃f,w.cell? ⟨b,o+(i*k+j),none⟩=some f/\AN w O c f:=λi x v=>by
    have L:V=k:=by rw [<-M x (ϑ v),H x (ϑ v)]
    subst L;have:=X b o Z i x v
    cases this with
    | ptr U hb hO F I E=>exact ⟨hb,F,λj c C=>⟨U j,by rw [<-Nat.add_assoc];exact I j c C,E j c C⟩⟩
   refine ⟨(List.range (t.length*k)).map λj=>(w.cell? ⟨b,o+j,none⟩).getD undef,⟨by simp,λ_=>⟨_,Z,?_,λj f E=>?_⟩⟩,⟨by simp,H,λi x v j c C=>?_⟩,λy W c I=>?_,Z⟩
   .obtain ⟨x,v⟩:=List.getElem?_some_of_lt R
    grind
   .rw [ζ] at E
    have z:j<t.length*k:=by
     grind
    rw [gG z] at E;simp only [fS,Option.some.injEq] at E
    have G:0<k:=by
     grind
    have P:j / k<t.length:=(Nat.div_lt_iff_lt_mul G).2 z;have S:j % k<k:=fj _ G;obtain ⟨x,v⟩:=List.getElem?_some_of_lt P;have B:=H x (ϑ v);obtain ⟨c,Q⟩:=List.getElem?_some_of_lt (l:=x.cells) (i:=j % k) (by omega);obtain ⟨u',F,_⟩:=(r _ x v).2.2 _ c Q;have C:j / k*k+j % k=j:=by rw [gQ];exact Nat.div_add_mod j k
    rw [C] at F;rw [Addr.add_mid,F];rw [F] at E
    simpa using E
   .obtain ⟨f,F,T⟩:=(r i x v).2.2 j c C;have B:=H x (ϑ v);have Y:j<k:=by rw [<-B];exact (χ.1 C).1
    have N:i<t.length:=(χ.1 v).1
    have z:i*k+j<t.length*k:=by
     have:(i+1)*k<=t.length*k:=fW _ N;rw [gI] at this;omega
    refine ⟨f,by rw [ζ,gG z];simp [F],T.oneCell ((r i x v).2.1 c (ϑ C)),T⟩
   .obtain ⟨i,P,rfl⟩:=eQ W;exact (r i _ (ω P)).2.1 c I
theorem FN.append {s:List c} {t:List Value} (h:FN f k R j a) (r:FN f k R s t):FN f k R (j++s) (a++t):=by
 refine ⟨by rw [Ω,Ω,h.1,r.1,gI],λx l=>?_,λi x l b g v=>?_⟩
 .rcases ν.1 l with l | l
  .exact h.2.1 x l
  .exact r.2.1 x l
 .have o:(f x).length=k:=by
   have:=ϑ l;rcases ν.1 this with l | l
   .exact h.2.1 x l
   .exact r.2.1 x l
  have w:b<k:=by rw [<-o];exact (χ.1 v).1
  rw [List.getElem?_append] at l
  split at l
  .grind [FN]
  .rename_i A
   obtain ⟨u,B,z⟩:=r.2.2 _ x l b g v;refine ⟨u,?_,z⟩;have y:j.length*k<=i*k:=fW _ (by omega)
   grind [Nat.sub_mul,FN]
theorem FN.take (h:FN f k R j a) (n:Nat) (s:n<=j.length):FN f k R (j.take n) (a.take (n*k)):=by
 have r:n*k<=j.length*k:=fW _ s;refine ⟨by rw [Θ,Θ,h.1];rw [Nat.min_eq_left r,Nat.min_eq_left s],λx l=>h.2.1 x (fM l),λi x l b g t=>?_⟩;have o:(f x).length=k:=h.2.1 x (fM (ϑ l));have v:b<k:=by rw [<-o];exact (χ.1 t).1
 rw [gZ] at l
 split at l
 .rename_i w
  obtain ⟨u,z,y⟩:=h.2.2 i x l b g t;refine ⟨u,?_,y⟩;have:(i+1)*k<=n*k:=fW _ w
  grind
 .cases l
section
variable {P:Program} {F:Fr} {s:AS} {d:Nat} {ty T E:TypeId} {pos:String} {aft:Array Edge} {g:Option (Nat×Bool)} {x y:Operand} {k:IntKind} {i:Int}
variable {a:List (Nat×List AJ)} {c:List D} {t:TypeId} {f:List D} {h j o:Nat} {u:D}
theorem C7 {n:Nat} (m:Nat) (C:s.ev x=some (.own j o n)) (B:s.ev y=some (.d (.raw (.int k i)))) (I:i=(m:Int)) (H:m<n) (G:cr s.hp j o=some (.rowD t h c)) (K:P.underlying T=some (.slice E)) (L:AW P E h=true) (J:Nat.blt d s.n=true):
  AA P F ⟨some d,.indexAddr T x y,ty,pos,aft,g⟩ s d (.rptr j o h m 0):=
 CR _ J λO z w v=>by
  have l:=v.ev C
  generalize D:z.eval x=u at l
  obtain ⟨Q,a,N,A,W,V,U,S,M⟩:=v.rowD G;subst I
  cases l with
  | own r R=>
   rw [A] at r;injection r with e2 e3 e4
   subst e2 e3 e4;obtain ⟨b,rfl,_⟩:=M (by omega);exact ⟨.pointer (some ⟨b,m*h+0,none⟩),by simp [execOp,Instr.indexAt,asIntOf,v.raw B,D,run_underlying K,H,kp (YY L),Addr.add_mid],.rptr A⟩
theorem DX {e v:Nat} {z r:D} (L:s.ev x=some (.rptr j o h e v)) (O:cr s.hp j o=some (.rowD t h c)) (I:c[e]? =some z) (S:z.cells[v]? =some r) (U:BF P T=true) (R:Nat.blt d s.n=true):
  AA P F ⟨some d,.load T x,ty,pos,aft,g⟩ s d (.d r):=
 CR _ R λρ H w J=>by
  have l:=J.ev L
  generalize M:H.eval x=u at l
  obtain ⟨us,a,cap,e1,h1,Z,h3,h4,Y⟩:=J.rowD O
  cases l with
  | @rptr _ _ _ _ _ b N K B=>
   rw [e1] at B;injection B with e2 e3 e4
   subst e2 e3 e4;have Q:e<c.length:=(χ.1 I).1;obtain ⟨b',C,cur,X,h7,W⟩:=Y (by omega);injection C with C;injection C with C;subst C
   obtain ⟨u,V,h10,G⟩:=Z.2.2 e z I v r S;have A:=DD X W V;exact ⟨u,by simp [execOp,M,Instr.loadAt,Instr.sureAddr,loadVar,D7 U,A],.d G⟩
theorem KO {c:Type} (b:List c) (a m:Nat) (l:List c) (h:a+l.length<=m) (f:m<=b.length):(FQ b a l).take m=FQ (b.take m) a l:=by
 apply gM
 grind [C3]
theorem Ob {f j A e l:Nat} {t:TypeId} {X:List D} {z z' v:D} {S:List (Nat×List AJ)} (hx:s.ev x=some (.rptr f j A e l)) (hy:s.ev y=some (.d v)) (hv:(match v with | .tup _=>false | _=>true)=true) (ho:cr s.hp f j=some (.rowD t A X)) (hz:X[e]? =some z)
  (K:z'.cells=FQ z.cells l v.cells) (M:l+v.cells.length<=z.cells.length) {xs':List D} (hxs':X.set e z'=xs') (hh:BH s.hp f j (.rowD t A xs')=some S) {kz:Nat} (hkz:v.cells.length=kz) (hT:AW P T kz=true):
  AH P F ⟨none,.store T x y,ty,pos,aft,g⟩ s ⟨s.n,s.env,S⟩ (λ_ _=>true):=λW U w hs=>by
 subst hkz hxs';have h:=hs.ev hx
 generalize hvx:U.eval x=u at h
 obtain ⟨R,a,cap,e1,h1,I,h3,h4,h5⟩:=hs.rowD ho
 cases h with
 | @rptr _ _ _ _ _ b N cap' hρ=>
  rw [e1] at hρ;injection hρ with e2 e3 e4
  subst e2 e3 e4;have hlt:e<X.length:=(χ.1 hz).1;obtain ⟨b',e5,J,h6,h7,h8⟩:=h5 (by omega);injection e5 with e5;injection e5 with e5;subst e5
  have hk:z.cells.length=A:=I.2.1 _ (ϑ hz);have H:=hs.repD hy
  generalize hvy:U.eval y=B at H
  -- the value's cells
  have L:B.cells.toList.length=v.cells.length/\(∀c∈v.cells,c.one=true)/\∀(q:Nat) c u,v.cells[q]? =some c ->B.cells.toList[q]? =some u ->AN w (F.O W s.hp) c u/\u.oneCell'=true:=by
   have one:∀{v:D} {B:Value},v.one=true ->AN w (F.O W s.hp) v B ->B.cells.toList.length=v.cells.length/\(∀c∈v.cells,c.one=true)/\∀(q:Nat) c u,v.cells[q]? =some c ->B.cells.toList[q]? =some u ->AN w (F.O W s.hp) c u/\u.oneCell'=true:=λ{v B} h1 h=>by
    have I:=h.oneCell h1;have C:B.cells.toList=[B]:=by cases B<;>first | rfl | cases I
    rw [C,D.cells_one h1];refine ⟨Z,by simp [h1],λq c u C Y=>?_⟩
    cases q with
    | zero=>simp at C Y;subst C Y;exact ⟨h,I⟩
    | succ q=>simp at C
   cases v with
   | agg cs=>
    cases H with
    | agg V Q a3=>exact ⟨by simpa [Value.cells,D.cells] using V,Q,λq c u C Y=>by
      have hr:=a3 q c u C (by simpa [Value.cells] using Y)
      exact ⟨hr,hr.oneCell (Q c (ϑ C))⟩⟩
   | tup _=>cases hv
   | raw _=>exact one Z H
   | sl _ _=>exact one Z H
   | ptr _=>exact one Z H
   | fn _ _ _=>exact one Z H
  obtain ⟨c1,c2,c3⟩:=L
  have O:e*A+l+B.cells.toList.length<=R.length:=by
   rw [c1,I.1];have:(e+1)*A<=X.length*A:=fW _ hlt;rw [gI] at this;omega
  have hcl:R.length<=J.toList.length:=by rw [<-h8,Θ];omega
  have hone:∀u∈B.cells.toList,u.oneCell'=true:=λu Y=>by
   obtain ⟨q,hq,rfl⟩:=eQ Y;exact (c3 q _ _ (ω (by omega)) (ω hq)).2
  have h6':w.heap[b]? =some (.cells J.toList.toArray t (0,0)):=by simpa using h6
  have hrun:=Fe (P:=P) (T:=T) (o:=e*A+l) h6' (by rw [c1];exact YY hT) (by omega) hone
  have hex:(execOp U.eval ⟨none,.store T x y,ty,pos,aft,g⟩).run P w= .ok .skip (w.setCells b (e*A+l) B.cells.toList):=by
   simp [execOp,hvx,hvy,hrun]
  unfold Oper.wp;rw [hex];obtain ⟨g1,g2,g3,g4⟩:=oq (b:=b) B.cells.toList (e*A+l) w;refine ⟨W,hs.write f j _ _ ho (Ag hh) g1 g2 g3 g4 (λb' hb'=>ou _ _ _ _ (λe=>hb' (by rw [e1,e];rfl))) (λ_ _ e=>by cases e) (λhrep=>?_) (gP (DB _ _ _ _).symm),λ_ _ _=>rfl⟩
  have G:∀c u,AN w (F.O W s.hp) c u ->AN (w.setCells b (e*A+l) B.cells.toList) (F.O W S) c u:=λc u hr=>by
   have:=hrep (.d c) u (.d hr)
   cases this with | d h=>exact h
  rw [e1];refine ⟨FQ R (e*A+l) B.cells.toList,?_,⟨?_,λx' r=>?_,λi' x' r q c C=>?_⟩,λx' r c C=>?_⟩
  .refine ⟨by rw [YX,I.1,eU],.inr ⟨b,cap,(FQ J.toList (e*A+l) B.cells.toList).toArray,by simp,by omega,?_,by simpa using h4.1,h4.2.1,by simp [YX,h7],?_⟩⟩
   .simpa using ot (fr:=(0,0)) B.cells.toList J.toList (e*A+l) w h6'
   .have hml:(X.set e z').length*A=R.length:=by rw [eU,I.1]
    rw [hml];show (FQ J.toList (e*A+l) B.cells.toList).take R.length=_;rw [KO _ _ _ _ O hcl];have:J.toList.take R.length=R:=by rw [I.1];exact h8
    rw [this]
  .rw [YX,I.1,eU]
  .rcases gf r with r | rfl
   .exact I.2.1 _ r
   .rw [K,YX];exact hk
  .rw [C3 _ _ _ O]
   have hqk:q<A:=by
    have:x'.cells.length=A:=by
     rcases gf (ϑ r) with r | rfl
     .exact I.2.1 _ r
     .rw [K,YX];exact hk
    rw [<-this];exact (χ.1 C).1
   by_cases he:e=i'
   .subst he;rw [List.getElem?_set_self hlt] at r;injection r with r;subst r
    rw [K,C3 _ _ _ M] at C
    by_cases hq:l<=q/\q<l+v.cells.length
    .rw [ϖ hq] at C;have hq2:q - l<B.cells.toList.length:=by omega
     obtain ⟨V,Q⟩:=c3 _ _ _ C (ω hq2);refine ⟨_,by rw [ϖ (by omega)];rw [show e*A+q - (e*A+l)=q - l by omega];exact ω hq2,Q,G _ _ V⟩
    .rw [η hq] at C;obtain ⟨u,V,Q,a3⟩:=I.2.2 e z hz q c C;exact ⟨u,by rw [η (by omega)];exact V,Q,G _ _ a3⟩
   .rw [List.getElem?_set_ne he] at r;obtain ⟨u,V,Q,a3⟩:=I.2.2 i' x' r q c C;refine ⟨u,?_,Q,G _ _ a3⟩;rw [η]
    .exact V
    .rintro ⟨b1,b2⟩;rcases Nat.lt_or_ge i' e with hl | hl
     .have:(i'+1)*A<=e*A:=fW _ hl;rw [gI] at this;omega
     .have:(e+1)*A<=i'*A:=fW _ (by omega);rw [gI] at this;omega
  .rcases gf r with r | rfl
   .exact h3 _ r c C
   .rw [K] at C;obtain ⟨q,hq,rfl⟩:=eQ C;have hg:(FQ z.cells l v.cells)[q]? =some ((FQ z.cells l v.cells)[q]):=ω hq;rw [C3 _ _ _ M] at hg
    split at hg
    .exact c2 _ (ϑ hg)
    .exact h3 z (ϑ hz) _ (ϑ hg)
theorem RN {e:Nat} (O:s.ev x=some (.rptr j o h e 0)) (N:s.ev y=some (.d u)) (I:u.one=true) (K:cr s.hp j o=some (.rowD t h c)) (C:h=1) (B:e<c.length)
 (A:c.set e u=f) (Q:BH s.hp j o (.rowD t h f)=some a) (R:AW P T 1=true):
  AH P F ⟨none,.store T x y,ty,pos,aft,g⟩ s ⟨s.n,s.env,a⟩ (λ_ _=>true):=λM G w J=>by
 obtain ⟨V,l,U,e1,Z,S,Y,X,W⟩:=J.rowD K;have H:=ω B;have L:c[e].cells.length=1:=by rw [<-C];exact S.2.1 _ (ϑ H)
 have r:=D.cells_one I;refine Ob (z:=c[e]) (z':=u) O N (by cases u<;>first | rfl | cases I) K H ?_ (by rw [r,L];exact κ _) A Q (by rw [r];rfl) R M G w J;rw [r]
 match hc:c[e].cells,L with
 | [b],_=>rfl
end
section
variable {P:Program} {F:Fr} {d:Nat} {ty T T':TypeId} {pos:String} {aft:Array Edge} {g:Option (Nat×Bool)} {x y:Operand}
theorem W1 {n:Nat} {a:List (Nat×AV)} {i:List (Nat×List AJ)} {f j k e:Nat} {t:TypeId} {l:List D} {v:D} {h:List (Nat×List AJ)} (u:AS.ev ⟨n,a,i⟩ x=some (.rptr f j k e 0)) (s:AS.ev ⟨n,a,i⟩ y=some (.d v)) (w:v.one=true) (z:cr i f j=some (.rowD t k l)) (r:k=1) (o:e<l.length)
  {b:List D} (c:l.set e v=b) (A:BH i f j (.rowD t k b)=some h) (B:AW P T 1=true):
  AH P F ⟨none,.store T x y,ty,pos,aft,g⟩ ⟨n,a,i⟩ ⟨n,a,h⟩ (λ_ _=>true):=RN u s w z r o c A B
end
end Go.Proofs.YtnkkaeblokdifaaGreat
