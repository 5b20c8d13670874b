import Derived.Test.YteifpcnphnhaoaaGreatMg3
import Derived.Great.FillDense
import Derived.Laws.MakeOwn
namespace Go.Proofs.YteifpcnphnhaoaaGreat
open Go.RowKit
variable {a:Nat ->Nat ->Value} {c:List (Nat×List AN)} {w:World} {f:Value} {P:Program} {g:Act} {o:AN} {h:Nat ->Prop} {i j:List (Nat×List AN)} {s:AS} {F:Fr} {T:TypeId} {k:Nat} {m:Type} {n:Nat} {p:List AN} {q:World}
def upd (ρ:Nat ->Nat ->Value) (f0 i0:Nat) (v:Value):Nat ->Nat ->Value:=λf i=>if f=f0/\i=i0 then v else ρ f i
theorem QS {f0:Nat}:upd a f0 n f f0 n=f:=by simp [upd]
theorem OF {f0 b:Nat} (h:¬(b=f0/\k=n)):upd a f0 n f b k=a b k:=by simp only [upd];rw [η h]
theorem a7 (w:World) (a:Ask m):w.drawn<=(w.ask a).2.drawn:=by
 induction a generalizing w with
 | done a=>exact Γ _
 | ask c b k d=>
  grind [World.ask]
theorem Yx (w:World) (c:Sys):w.drawn<=(w.sys c).2.drawn:=by grind [a7,World.sys]
theorem PY {d:World} {a:Addr} {c:Bool} {l:List Addr} (h:w.farStore P a f c= .ok (d,l)):d.drawn=w.drawn:=by
 unfold World.farStore at h
 split at h
 .split at h
  .rename_i r b
   injection h with h;subst h
   simp only [World.viewStore,bind,Except.bind,pure,Except.pure] at b
   repeat' split at b
   all_goals first | (cases b;done) | (injection b with b;injection b with b _;rw [<-b])
  .cases h
 .cases h
theorem QA (w:World) (a:Addr) (v:Value):(w.setCell a v).drawn=w.drawn:=rfl
theorem Dn (b:Nat) (a:List Value):∀(i:Nat) (w:World),(w.setCells b i a).drawn=w.drawn:=by
 induction a with
 | nil=>intro i w;rfl
 | cons v a c=>intro i w;simp only [World.setCells];rw [c,QA]
theorem ZQ {P:Program} {g:Type} {s:Sem g} {w f:World} {a:g} (h:s.run P w= .ok a f):w.drawn<=f.drawn:=by
 induction s generalizing w with
 | pure a=>simp only [Sem.run,Result.ok.injEq] at h;rw [h.2];exact Γ _
 | load m e k b=>
  grind [Sem.run]
 | store m e v k b=>
  have d:(match w.cell? e with
   | some _=>if w.frozen? e then Result.halt (.unsupported (.unsafePointer "a write to bytes that a string shares")) w else k.run P (w.setCell e v)
   | none=>match w.farStore P e v (m==Mode.atomic) with
    | .ok (w,_)=>k.run P w
    | .error h=> .halt h w)= .ok a f:=by
   cases v<;>first | exact h | (simp [Sem.run] at h)
  split at d
  .split at d
   .cases d
   .exact b (w:=w.setCell e v) d
  grind [PY]
 | new o k b=>exact b _ (w:={w with heap:=w.heap.push o}) h
 | shape r k b=>exact b _ h
 | freeze e n k b=>
  grind [Sem.run,World.freeze]
 | frozen e k b=>exact b _ h
 | getObj r k b=>
  grind [Sem.run]
 | setObj r o k b=>
  grind [Sem.run]
 | choose q k b=>
  grind [Sem.run]
 | sys c k b=>exact ωa (Yx w c) (b _ h)
 | program k b=>exact b _ h
 | mark m k b=>exact b h
 | halt i=>simp [Sem.run] at h
variable {e:List (Nat×AV)}
theorem SR.set (h:SR F s a g w) (f0 l:Nat) (p:AN) (n:Value) {hp':List (Nat×List AN)}
  (hE:Ac f0 s.env=some e) (hH:Aa f0 s.hp=some i) (z:∀f c,hget hp' f c=if f=f0/\c=l then some p else hget i f c)
  (X:∀t U,hget s.hp f0 l≠some (.blk t U)) (H:∀b,Bu n=some b ->((∃o,hget s.hp f0 l=some o)/\Bu (a f0 l)=some b)\/(w.heap.size<=b/\b<q.heap.size))
  (P:q.os=w.os) (C:q.tape=w.tape) (G:q.output=w.output) (M:w.heap.size<=q.heap.size)
  (S:∀b,b<w.heap.size ->¬((∃o,hget s.hp f0 l=some o)/\Bu (a f0 l)=some b) ->q.heap[b]? =w.heap[b]?)
  (E:(∀A v,(∀c,¬A.Refs f0 c) ->A9 w (F.O a s.hp) a A v ->A9 q (F.O (upd a f0 l n) hp') (upd a f0 l n) A v) ->Av q (F.O (upd a f0 l n) hp') (upd a f0 l n) p n) (hdr:w.drawn<=q.drawn:=by exact Γ _):
  SR F ⟨s.n,e,hp'⟩ (upd a f0 l n) g q:=by
 obtain ⟨J,R⟩:=BG hH;have x:Ba F i a w:=h.heap.less (λd c p m=>let ⟨o,k,b⟩:=J d c p m;⟨o,k,λw O v hh=>b.1 w O a v hh⟩) λd c o m=>let ⟨p,k,b⟩:=R d c o m;⟨p,k,b.2.2.1⟩
 have Q:(∃o,hget i f0 l=some o)↔∃o,hget s.hp f0 l=some o:=⟨λ⟨o,m⟩=>let ⟨p,k,_⟩:=J _ _ _ m;⟨p,k⟩,λ⟨o,m⟩=>let ⟨p,k,_⟩:=R _ _ _ m;⟨p,k⟩⟩
 have T:∀b,b<w.heap.size ->F.O (upd a f0 l n) hp' b ->F.O a s.hp b:=λb u m=>by
  rcases m with m | ⟨f,c,o,y,r⟩
  .exact .inl m
  .refine .inr ?_
   by_cases j:f=f0/\c=l
   .obtain ⟨rfl,rfl⟩:=j;rw [QS] at r;rcases H b r with ⟨⟨L,K⟩,h4⟩ | K
    .exact ⟨f,c,L,K,h4⟩
    .omega
   .rw [z,η j] at y;rw [OF j] at r;obtain ⟨L,K,_⟩:=J _ _ _ y;exact ⟨f,c,L,K,r⟩
 have I:∀b,b<w.heap.size ->¬F.O a s.hp b ->q.heap[b]? =w.heap[b]?:=λb u m=>S b u λ⟨⟨o,y⟩,r⟩=>m (.inr ⟨f0,l,o,y,r⟩)
 have B:∀A v,(∀c,¬A.Refs f0 c) ->A9 w (F.O a s.hp) a A v ->A9 q (F.O (upd a f0 l n) hp') (upd a f0 l n) A v:=λA v hA N=>
  N.mono M I T λf c hf=>OF λ⟨e1,e2⟩=>hA c (by rw [<-e1];exact hf)
 have D:Ba F hp' (upd a f0 l n) q:=by
  refine x.one f0 l p z (λf c j=>OF j) (λb hv=>?_) P C G M hdr (λb u Y=>S b u λ⟨y,r⟩=>Y ⟨Q.2 y,r⟩) (.inr λf c o m W=>?_) (λb V=>?_) (by rw [QS];exact E B)
  .grind [QS]
  .obtain ⟨_,_,Z⟩:=J _ _ _ m;exact λN=>Sf (Z.2.1 _ _ N) rfl
  .obtain ⟨_,t,U,y⟩:=h.heap.pins f0 l b V
   grind
 refine ⟨h.size,h.defs.mono M I T,λt k ha=>?_,D⟩;rcases Bc hE ha with rfl | ⟨y,r⟩
 .exact .top
 .exact B _ _ r (h.env t k y)
theorem SR.write {w':World} (h:SR F s a g w) (f0 j:Nat) (o u:AN) (q:hget s.hp f0 j=some o)
  (k:∀f i,hget c f i=if f=f0/\i=j then some u else hget s.hp f i) (y:w'.os=w.os) (m:w'.tape=w.tape) (p:w'.output=w.output) (x:w'.heap.size=w.heap.size)
  (B:∀b,Bu (a f0 j)≠some b ->w'.heap[b]? =w.heap[b]?)
  (N:∀t H,o= .blk t H ->∃I D,u= .blk I D) (n:(∀A v,A9 w (F.O a s.hp) a A v ->A9 w' (F.O a c) a A v) ->Av w' (F.O a c) a u (a f0 j)) (hdr:w.drawn<=w'.drawn:=by exact Γ _):SR F ⟨s.n,s.env,c⟩ a g w':=by
 have E:∀b,F.O a c b ->F.O a s.hp b:=λb z=>by
  rcases z with z | ⟨f,i,J,C,G⟩
  .exact .inl z
  .refine .inr ?_
   by_cases e:f=f0/\i=j
   .obtain ⟨rfl,rfl⟩:=e;exact ⟨f,i,o,q,G⟩
   .rw [k,η e] at C;exact ⟨f,i,J,C,G⟩
 have l:∀A v,A9 w (F.O a s.hp) a A v ->A9 w' (F.O a c) a A v:=λA v L=>
  L.mono (Nat.le_of_eq x.symm) (λb _ r=>B b λe=>r (.inr ⟨f0,j,o,q,e⟩)) (λb _=>E b) λ_ _ _=>rfl
 refine ⟨h.size,h.defs.mono (Nat.le_of_eq x.symm) (λb _ r=>B b λe=>r (.inr ⟨f0,j,o,q,e⟩)) (λb _=>E b),λt d O=>l _ _ (h.env t d O),?_⟩;refine h.heap.one f0 j u k (λ_ _ _=>rfl) (λb K=> .inl ⟨⟨o,q⟩,K⟩) y m p (Nat.le_of_eq x.symm) hdr (λb _ r=>B b λe=>r ⟨⟨o,q⟩,e⟩) (.inl Z) (λb M=>?_) (n l);obtain ⟨_,t,H,C⟩:=h.heap.pins f0 j b M
 grind
def EO:List AN ->Nat ->AN ->Option (List AN)
 | [],_,_=>none
 | _::r,0,o=>some (o::r)
 | a::r,i+1,o=>match EO r i o with
  | none=>none
  | some r'=>some (a::r')
def cA (l:List AN) (i:Nat) (o:AN):Option (List AN):=match isM l with
 | some _=>none
 | none=>match Ty o with
  | true=>EO l i o
  | false=>none
def B7:List (Nat×List AN) ->Nat ->Nat ->AN ->Option (List (Nat×List AN))
 | [],_,_,_=>none
 | (k,l)::r,f,i,o=>match Nat.beq k f with
  | true=>match cA l i o with
   | none=>none
   | some l'=>some ((k,l')::r)
  | false=>match B7 r f i o with
   | none=>none
   | some r'=>some ((k,l)::r')
def Cj (hp:List (Nat×List AN)) (f:Nat) (o:AN):Option (List (Nat×List AN)):=match hfam hp f with
 | none=>match Ty o with
  | true=>some ((f,[o])::hp)
  | false=>none
 | some _=>none
theorem TV {l:List AN} (h:EO l k o=some p):∀j:Nat,p[j]? =if j=k then some o else l[j]?:=by
 induction l generalizing p k with
 | nil=>simp [EO] at h
 | cons a r b=>
  cases k with
  | zero=>simp only [EO,Option.some.injEq] at h;subst h;intro j;cases j<;>simp
  | succ k=>
   grind [EO]
theorem Vx {l:List AN} (h:cA l k o=some p):∀j:Nat,gl p j=if j=k then some o else gl l j:=by
 unfold cA at h
 split at h
 .cases h
 .rename_i m
  split at h
  .rename_i d
   have g:=TV h
   have e:isM p=none:=by
    match l,k,h with
    | [],_,h=>simp [EO] at h
    | [a],0,h=>simp only [EO,Option.some.injEq] at h;subst h;exact YJ d
    | [a],_+1,h=>simp [EO] at h
    | a::b::r,0,h=>simp only [EO,Option.some.injEq] at h;subst h;rfl
    | a::b::r,k+1,h=>
     simp only [EO] at h
     split at h
     .cases h
     .rename_i f c
      injection h with h;subst h
      match k,c with
      | 0,c=>simp only [EO,Option.some.injEq] at c;subst c;rfl
      | k+1,c=>
       simp only [EO] at c
       split at c
       .cases c
       .injection c with c;subst c;rfl
   intro j;unfold gl
   grind
  .cases h
theorem BB {f0:Nat} (h:B7 j f0 n o=some c):∀f i,hget c f i=if f=f0/\i=n then some o else hget j f i:=by
 induction j generalizing c with
 | nil=>simp [B7] at h
 | cons p r d=>
  obtain ⟨k,l⟩:=p;simp only [B7] at h
  split at h
  .rename_i b
   have a:=ωb b;subst a
   split at h
   .cases h
   .rename_i s m
    injection h with h;subst h
    intro f i
    by_cases e:k=f
    .subst e;simp only [hget,hfam,ψw,χk,true_and];exact Vx m i
    grind [hget,hfam,IP]
  .rename_i b
   have a:=ωx b
   split at h
   .cases h
   .rename_i q g
    injection h with h;subst h
    intro f i
    by_cases e:k=f
    .grind [hget,hfam,ψw]
    .have:=d g f i
     grind [hget,hfam]
theorem Hk {f0:Nat} (h:Cj j f0 o=some c):(∀f i,hget c f i=if f=f0/\i=0 then some o else hget j f i)/\∀i,hget j f0 i=none:=by grind [Cj,hget,hfam,ψw,MZ,IP]
theorem SR.new (h:SR F s a g w) (f0:Nat) (m:AN) (f:Value) (l:Obj)
  (p:Ac f0 s.env=some e) (o:Aa f0 s.hp=some i) (k:Cj i f0 m=some c) (r:Bu f=some w.heap.size)
  (j:(∀A v,(∀d,¬A.Refs f0 d) ->A9 w (F.O a s.hp) a A v ->A9 (w.alloc l) (F.O (upd a f0 0 f) c) (upd a f0 0 f) A v) ->Av (w.alloc l) (F.O (upd a f0 0 f) c) (upd a f0 0 f) m f):
  SR F ⟨s.n,e,c⟩ (upd a f0 0 f) g (w.alloc l):=by
 obtain ⟨q,y⟩:=Hk k;refine h.set f0 0 m f p o q (λt z u=>?_) (λb x=> .inr ?_) Z Z Z (by simp) (λb n _=>Below.heap_alloc w l b n) j
 .grind [BG]
 simp_all
def UH:List D ->Option (List AV)
 | []=>some []
 | c::r=>match UH r with
  | none=>none
  | some l=>some (.d c::l)
def AV.cells?:AV ->Option (List AV)
 | .agg cs=>some cs
 | .d (.agg cs)=>UH cs
 | .d (.tup _)=>none
 | .top=>none
 | .tup _=>none
 | a=>some [a]
variable {d:List AV}
theorem WV {a:List D} (h:UH a=some d):d=a.map .d:=by
 induction a generalizing d with
 | nil=>simp only [UH,Option.some.injEq] at h;subst h;rfl
 | cons c r b=>
  grind [UH]
theorem A9.cells {w:World} {O:Nat ->Prop} {q:Nat ->Nat ->Value} {a:AV} {v:Value} {l:List AV} (b:a.cells? =some l) (h:A9 w O q a v):
  v.cells.toList.length=l.length/\∀(j:Nat) c u,l[j]? =some c ->v.cells.toList[j]? =some u ->A9 w O q c u/\u.oneCell'=true:=by
 have one:∀{v:Value} {a:AV},v.oneCell'=true ->A9 w O q a v ->v.cells.toList.length=[a].length/\∀(j:Nat) c u,[a][j]? =some c ->v.cells.toList[j]? =some u ->A9 w O q c u/\u.oneCell'=true:=λ{v a} p h=>by
  have o:v.cells.toList=[v]:=by cases v<;>first | rfl | cases p
  grind
 cases a with
 | agg A=>
  simp only [AV.cells?,Option.some.injEq] at b;subst b
  cases h with
  | agg p y t=>exact ⟨by simpa [Value.cells] using p,λj c u o r=>⟨t j c u o (by simpa [Value.cells] using r),y u (ξ (by simpa [Value.cells] using r))⟩⟩
 | d x=>
  cases x with
  | agg A=>
   simp only [AV.cells?] at b;have:=WV b;subst this
   cases h with
   | d h=>
    cases h with
    | agg p y t=>
     refine ⟨by simpa [Value.cells] using p,λj c u o r=>?_⟩;rw [ν] at o
     cases hcs:A[j]? with
     | none=>rw [hcs] at o;cases o
     | some x=>
      rw [hcs] at o;injection o with o;subst o
      have z:=t j x u hcs (by simpa [Value.cells] using r);exact ⟨.d z,z.oneCell (y x (ξ hcs))⟩
  | tup _=>simp [AV.cells?] at b
  | raw u=>
   simp only [AV.cells?,Option.some.injEq] at b;subst b;have m:=h
   cases h with | d h=>exact one (h.oneCell rfl) m
  | sl _ _=>
   simp only [AV.cells?,Option.some.injEq] at b;subst b;have m:=h
   cases h with | d h=>exact one (h.oneCell rfl) m
  | ptr _=>
   simp only [AV.cells?,Option.some.injEq] at b;subst b;have m:=h
   cases h with | d h=>exact one (h.oneCell rfl) m
  | fn _ _ _=>
   simp only [AV.cells?,Option.some.injEq] at b;subst b;have m:=h
   cases h with | d h=>exact one (h.oneCell rfl) m
 | top=>simp [AV.cells?] at b
 | tup _=>simp [AV.cells?] at b
 | ptr f i s=>simp only [AV.cells?,Option.some.injEq] at b;subst b;have m:=h;cases h;exact one Z m
 | own f i n=>simp only [AV.cells?,Option.some.injEq] at b;subst b;have m:=h;cases h;exact one Z m
 | rptr f i k e s=>simp only [AV.cells?,Option.some.injEq] at b;subst b;have m:=h;cases h;exact one Z m
 | map f i=>simp only [AV.cells?,Option.some.injEq] at b;subst b;have m:=h;cases h;exact one Z m
 | ifc T C f i=>simp only [AV.cells?,Option.some.injEq] at b;subst b;have m:=h;cases h;exact one (by cases C<;>rfl) m
 | fn g B=>simp only [AV.cells?,Option.some.injEq] at b;subst b;have m:=h;cases h;exact one Z m
def Hz:List Value ->Option (List AV)
 | []=>some []
 | v::r=>match Hz r with
  | none=>none
  | some l=>match It v with
   | none=>none
   | some a=>some (a::l)
theorem Cy {a:List Value} (h:Hz a=some d) (w:World) (O:Nat ->Prop) (b:Nat ->Nat ->Value):a.length=d.length/\∀(j:Nat) c u,d[j]? =some c ->a[j]? =some u ->A9 w O b c u/\u.oneCell'=true:=by
 induction a generalizing d with
 | nil=>simp only [Hz,Option.some.injEq] at h;subst h;simp
 | cons v r e=>
  grind [Hz,MA]
def At (P:Program) (T:TypeId):Option (List AV):=match P.info? T with
 | none=>none
 | some i=>match i.zero with
  | none=>none
  | some z=>Hz z.cells.toList
theorem IT (h:At P T=some d):∃(i:TypeInfo) (z:Value),P.info? T=some i/\i.zero=some z/\Hz z.cells.toList=some d:=by grind [At]
theorem Rd {e:List AV} {us:List Value} {b:Nat} (k:w.heap[b]? =some (.cells us.toArray T (0,0))) (g:us.length=e.length)
  (f:∀(j:Nat) c u,e[j]? =some c ->us[j]? =some u ->A9 w h a c u/\u.oneCell'=true):Av w h a (.blk T e) (.pointer (some ⟨b,0,none⟩)):=
 ⟨b,us,Z,k,g,λj c u l d=>(f j c u l d).1,λu d=>by
  obtain ⟨j,i,rfl⟩:=ωq d
  exact (f j _ _ (ω (by omega)) (ω i)).2⟩
section
variable {P:Program} {F:Fr} {s:AS} {d:Nat} {ty T E:TypeId} {pos:String} {aft:Array Edge} {g:Option (Nat×Bool)} {x y:Operand} {k:IntKind} {i:Int}
variable {a:List (Nat×AV)} {c e:List (Nat×List AN)} {f:List AV}
theorem CA (b:Nat) (v:At P T=some f) (I:Ac b s.env=some a) (H:Aa b s.hp=some e) (C:Cj e b (.blk T f)=some c) (D:Nat.blt d s.n=true):
  AG P F ⟨some d,.alloc T,ty,pos,aft,g⟩ s ⟨s.n,(d,.ptr b 0 0)::a,c⟩ (Bn b):=λq p w B=>by
 obtain ⟨M,z,L,K,t⟩:=IT v
 have n:(execOp p.eval ⟨some d,.alloc T,ty,pos,aft,g⟩).run P w= .ok (.value (.pointer (some ⟨w.heap.size,0,none⟩))) (w.alloc (.cells z.cells T)):=by
  simp [execOp,Instr.alloc,zeroValue,typeInfo,L,K,newVar,newRow]
 unfold Oper.wp;rw [n]
 have o:=B.new b (.blk T f) (.pointer (some ⟨w.heap.size,0,none⟩)) (.cells z.cells T) I H C Z (λr=>by
  obtain ⟨J,_⟩:=Cy t w (F.O q s.hp) q;refine Rd (us:=z.cells.toList) (by simpa using heap_alloc_new w (.cells z.cells T)) J λj m u G A=>?_
  exact (Cy t _ _ _).2 j m u G A)
 exact ⟨_,o.put (IS D) (.ptr QS),λb i h=>OF λl=>Sf h l.1⟩
theorem Bi (b:Nat) {A:AV} (v:s.ev x=some A) (q:A.cells? =some f) (H:dI b f=true) (G:Ac b s.env=some a) (D:Aa b s.hp=some e) (B:Cj e b (.blk T f)=some c) (C:Nat.blt d s.n=true):
  AG P F ⟨some d,.box T x,ty,pos,aft,g⟩ s ⟨s.n,(d,.ptr b 0 0)::a,c⟩ (Bn b):=λM n w t=>by
 have o:(execOp n.eval ⟨some d,.box T x,ty,pos,aft,g⟩).run P w= .ok (.value (.pointer (some ⟨w.heap.size,0,none⟩))) (w.alloc (.cells (n.eval x).cells T)):=by
  simp [execOp,Instr.box,newVar,newRow]
 unfold Oper.wp;rw [o];obtain ⟨L,K⟩:=(t.ev v).cells q
 have r:=t.new b (.blk T f) (.pointer (some ⟨w.heap.size,0,none⟩)) (.cells (n.eval x).cells T) G D B Z (λp=>by
  refine Rd (us:=(n.eval x).cells.toList) (by simpa using heap_alloc_new w (.cells (n.eval x).cells T)) L λj m u q z=>?_;obtain ⟨J,I⟩:=K j m u q z
  exact ⟨p m u (Tz H (ξ q)) J,I⟩)
 exact ⟨_,r.put (IS C) (.ptr QS),λb i h=>OF λl=>Sf h l.1⟩
end
variable {a:List Value} {c:List AV} {t:TypeId} {w:World}
def GL {α:Type} (cs:List α) (off:Nat):List α ->List α
 | []=>cs
 | v::r=>GL (cs.set off v) (off+1) r
theorem aq {c:Type}:∀(l b:List c) (a:Nat),(GL b a l).length=b.length
 | [],_,_=>rfl
 | v::r,b,a=>by rw [GL,aq r];simp
theorem DI {d:Type}:∀(l b:List d) (a:Nat),a+l.length<=b.length ->∀j:Nat,(GL b a l)[j]? =if a<=j/\j<a+l.length then l[j - a]? else b[j]?
 | [],b,a,_,j=>by rw [GL,η (by simp only [χc,ψx];omega)]
 | v::r,b,a,h,j=>by
  simp only [χq] at h⊢;rw [GL,DI r _ _ (by simp;omega)]
  by_cases e:j=a
  .subst e;rw [η (by omega),ς (by omega),Nat.sub_self,List.getElem?_set_self (by omega)];rfl
  .by_cases c:a+1<=j/\j<a+1+r.length
   .rw [ς c,ς (by omega)];have:j - a=(j - (a+1))+1:=by omega
    rw [this];rfl
   .rw [η c,η (by omega),List.getElem?_set_ne (by omega)]
theorem KE {b o:Nat} {c:Nat×Nat} {v:Value} (h:w.heap[b]? =some (.cells a.toArray t c)):(w.setCell ⟨b,o,none⟩ v).heap[b]? =some (.cells (a.set o v).toArray t c):=by
 simp [World.setCell,ψy,h]
theorem Zcb {b:Nat} {t:TypeId} {fr:Nat×Nat}:∀(c a:List Value) (o:Nat) (w:World),w.heap[b]? =some (.cells a.toArray t fr) ->(w.setCells b o c).heap[b]? =some (.cells (GL a o c).toArray t fr)
 | [],_,_,_,h=>h
 | v::r,a,o,w,h=>by
  rw [World.setCells,GL];exact Zcb r _ _ _ (KE h)
theorem Zca {b:Nat}:∀(a:List Value) (o:Nat) (w:World) (k:Nat),k≠b ->(w.setCells b o a).heap[k]? =w.heap[k]?
 | [],_,_,_,_=>rfl
 | v::r,o,w,k,h=>by rw [World.setCells,Zca r _ _ k h,Below.heap_setCell _ _ _ _ h]
theorem ZcI {b:Nat}:∀(a:List Value) (o:Nat) (w:World),(w.setCells b o a).os=w.os/\(w.setCells b o a).tape=w.tape/\(w.setCells b o a).output=w.output/\(w.setCells b o a).heap.size=w.heap.size
 | [],_,_=>⟨Z,Z,Z,Z⟩
 | v::r,o,w=>by
  obtain ⟨f,e,d,c⟩:=ZcI r (o+1) (w.setCell ⟨b,o,none⟩ v);rw [World.setCells];exact ⟨f,e,d,by rw [c];simp⟩
theorem G8 {P:Program} {T:TypeId} {b o:Nat} {v:Value} (h:w.heap[b]? =some (.cells a.toArray t (0,0))) (f:(P.info? T).map (·.size)=some v.cells.toList.length) (e:o+v.cells.toList.length<=a.length)
  (g:∀u∈v.cells.toList,u.oneCell'=true):(Instr.storeAt T (.pointer (some ⟨b,o,none⟩)) v).run P w= .ok () (w.setCells b o v.cells.toList):=by
 have d:w.there b o v.cells.size:=λj i=>by
  have c:o+j<a.length:=by simp at e;omega
  refine ⟨?_,by simp [World.frozen?,h]⟩;rw [cell_of_row w b (o+j) a.toArray t (0,0) h]
  simp [c]
 have l:=run_storeVar_mid (P:=P) w b o T v.cells d (by simpa using f) (all_oneCell_toArray (cs:=v.cells.toList) g);have k:(storeVar T ⟨b,o,none⟩ v).run P w=(storeVar T ⟨b,o,none⟩ (.agg v.cells)).run P w:=rfl
 grind [Instr.storeAt,Instr.sureAddr]
def Eh:List AV ->Nat ->List AV ->Option (List AV)
 | cs,0,[]=>some cs
 | [],0,_::_=>none
 | _::cs,0,v::r=>match Eh cs 0 r with
  | none=>none
  | some cs'=>some (v::cs')
 | [],_+1,_=>none
 | c::cs,o+1,l=>match Eh cs o l with
  | none=>none
  | some cs'=>some (c::cs')
theorem DX:∀(b:List AV) (o:Nat) (l a:List AV),Eh b o l=some a ->o+l.length<=b.length/\a.length=b.length/\∀j:Nat,a[j]? =if o<=j/\j<o+l.length then l[j - o]? else b[j]?
 | b,0,[],a,h=>by
  simp only [Eh,Option.some.injEq] at h;subst h;exact ⟨by simp,Z,λj=>by rw [η (by simp)]⟩
 | [],0,_::_,_,h=>by simp [Eh] at h
 | c::b,0,v::r,a,h=>by
  simp only [Eh] at h
  split at h
  .cases h
  .rename_i d i
   injection h with h;subst h
   obtain ⟨k,g,f⟩:=DX b 0 r d i;refine ⟨by simp at k⊢;omega,by simp [g],λj=>?_⟩
   cases j with
   | zero=>simp
   | succ j=>
    have:=f j;simp only [List.getElem?_cons_succ,this,ζ,true_and,ψu,Nat.sub_zero,χq,Nat.add_lt_add_iff_right]
 | [],_+1,_,_,h=>by simp [Eh] at h
 | c::b,o+1,l,a,h=>by
  simp only [Eh] at h
  split at h
  .cases h
  .rename_i d i
   injection h with h;subst h
   obtain ⟨k,g,f⟩:=DX b o l d i;refine ⟨by simp;omega,by simp [g],λj=>?_⟩
   cases j with
   | zero=>simp
   | succ j=>
    have:=f j;simp only [List.getElem?_cons_succ,this]
    by_cases e:o<=j/\j<o+l.length
    .rw [ς e,ς (by omega)];congr 1;omega
    .rw [η e,η (by omega)]
def F9:List AV ->Nat ->Nat ->Option (List AV)
 | _,0,0=>some []
 | [],0,_+1=>none
 | c::cs,0,n+1=>match F9 cs 0 n with
  | none=>none
  | some l=>some (c::l)
 | [],_+1,_=>none
 | _::cs,o+1,n=>F9 cs o n
theorem GS:∀(a:List AV) (o n:Nat) (l:List AV),F9 a o n=some l ->o+n<=a.length/\l.length=n/\∀j:Nat,j<n ->l[j]? =a[o+j]?
 | a,0,0,l,h=>by simp only [F9,Option.some.injEq] at h;subst h;simp
 | [],0,_+1,_,h=>by simp [F9] at h
 | c::a,0,n+1,l,h=>by
  simp only [F9] at h
  split at h
  .cases h
  .rename_i g i
   injection h with h;subst h
   obtain ⟨f,d,b⟩:=GS a 0 n g i;refine ⟨by simp at f⊢;omega,by simp [d],λj e=>?_⟩
   cases j with
   | zero=>simp
   | succ j=>have:=b j (by omega);simp only [ψu] at this⊢;simpa using this
 | [],_+1,_,_,h=>by simp [F9] at h
 | c::a,o+1,n,l,h=>by
  simp only [F9] at h;obtain ⟨f,d,b⟩:=GS a o n l h;refine ⟨by simp;omega,d,λj e=>?_⟩;rw [b j e,show o+1+j=(o+j)+1 by omega];rfl
def Pf:List AV ->Option (List D)
 | []=>some []
 | .d x::r=>match Pf r with
  | none=>none
  | some l=>match x.one with
   | true=>some (x::l)
   | false=>none
 | _::_=>none
def Jw (l:List AV):Option AV:=match Pf l with
 | some ds=>some (.d (.agg ds))
 | none=>some (.agg l)
theorem Pe {e:List D} (h:Pf c=some e):c=e.map .d/\∀b∈e,b.one=true:=by
 induction c generalizing e with
 | nil=>simp only [Pf,Option.some.injEq] at h;subst h;simp
 | cons a r f=>
  cases a with
  | d x=>
   grind [Pf]
  | _=>simp [Pf] at h
theorem GZ {w:World} {O:Nat ->Prop} {ρ:Nat ->Nat ->Value} {A:AV} (h:Jw c=some A) {us:List Value} (i:us.length=c.length) (e:∀(j:Nat) a u,c[j]? =some a ->us[j]? =some u ->A9 w O ρ a u/\u.oneCell'=true):A9 w O ρ A (.agg us.toArray):=by
 unfold Jw at h
 split at h
 .rename_i o f
  injection h with h;subst h
  obtain ⟨n,m⟩:=Pe f;subst n;refine .d (.agg (by simpa using i) m λj a u g b=>?_);have:=(e j (.d a) u (by rw [ν,g];rfl) b).1
  cases this with | d h=>exact h
 .injection h with h;subst h
  exact .agg i (λu b=>by
   obtain ⟨j,k,rfl⟩:=ωq b
   exact (e j _ _ (ω (by omega)) (ω k)).2) λj a u g b=>(e j a u g b).1
theorem List.getElem?_some_of_lt {b:Type} {l:List b} {i:Nat} (h:i<l.length):∃a,l[i]? =some a:=⟨_,ω h⟩
section
variable {P:Program} {F:Fr} {s:AS} {d:Nat} {ty T E:TypeId} {pos:String} {aft:Array Edge} {g:Option (Nat×Bool)} {x y:Operand} {k:IntKind} {i:Int}
variable {a:Bool} {c n:Nat} {t:TypeId} {e:List D} {o:Nat} {f:List AV} {j h:Nat} {A:AV} {w:World} {m:D}
theorem Vq {l H:List AV} {D:List (Nat×List AN)} (Y:s.ev x=some (.ptr h j c)) (X:s.ev y=some A) (hc:A.cells? =some l) (R:hget s.hp h j=some (.blk t f)) (z:Eh f c l=some H)
  (hh:B7 s.hp h j (.blk t H)=some D) {Q:Nat} (L:l.length=Q) (hT:A5 P T Q=true):AG P F ⟨none,.store T x y,ty,pos,aft,g⟩ s ⟨s.n,s.env,D⟩ (λ_ _=>true):=λW n w I=>by
 subst L;have B:=I.ev Y
 generalize J:n.eval x=vx at B
 cases B with
 | @ptr _ _ _ b O=>
  obtain ⟨b',us,v,V,h2,h3,h4⟩:=I.heap.sim h j _ R;rw [O] at v;injection v with v;injection v with v;injection v with v;subst v
  obtain ⟨U,S⟩:=(I.ev X).cells hc;obtain ⟨h7,h8,h9⟩:=DX _ _ _ _ z
  have G:∀u∈(n.eval y).cells.toList,u.oneCell'=true:=λu p=>by
   obtain ⟨j,hj,rfl⟩:=ωq p;exact (S j _ _ (ω (by omega)) (ω hj)).2
  have C:=G8 (P:=P) (T:=T) (o:=c) V (by rw [U];exact ae hT) (by omega) G
  have M:(execOp n.eval ⟨none,.store T x y,ty,pos,aft,g⟩).run P w= .ok .skip (w.setCells b c (n.eval y).cells.toList):=by
   simp [execOp,J,C]
  unfold Oper.wp;rw [M];obtain ⟨g1,g2,g3,g4⟩:=ZcI (b:=b) (n.eval y).cells.toList c w;refine ⟨W,I.write h j _ _ R (BB hh) g1 g2 g3 g4 (λb' N=>Zca _ _ _ _ (λe=>N (by rw [O,e];rfl))) (λ_ _ _=>⟨_,_,Z⟩) (λr=>?_) (Nat.le_of_eq (Dn _ _ _ _).symm),λ_ _ _=>rfl⟩;rw [O];refine Rd (Zcb _ _ _ _ V) (by rw [aq];omega) λm a u q p=>?_;rw [DI _ _ _ (by omega)] at p;rw [h9] at q;rw [U] at p
  split at q
  .rename_i K
   rw [ς K] at p;obtain ⟨a1,a2⟩:=S _ _ _ q p;exact ⟨r _ _ a1,a2⟩
  .rename_i K
   rw [η K] at p;exact ⟨r _ _ (h3 m a u q p),h4 u (ξ p)⟩
theorem AQ (u:s.ev x=some (.ptr h j c)) (v:hget s.hp h j=some (.blk t f)) (r:f[c]? =some A) (C:BW P T=true) (z:Nat.blt d s.n=true):
  AA P F ⟨some d,.load T x,ty,pos,aft,g⟩ s d A:=
 Cz _ z λI p w q=>by
  have l:=q.ev u
  generalize o:p.eval x=J at l
  cases l with
  | @ptr _ _ _ b B=>
   obtain ⟨L,n,a,H,G,D,K⟩:=q.heap.sim h j _ v;rw [B] at a;injection a with a;injection a with a;injection a with a;subst a
   have m:c<n.length:=by rw [G];exact (φ.1 r).1
   have e:w.cell? ⟨b,c,none⟩=some n[c]:=by
    rw [cell_of_row w b c n.toArray t (0,0) H];simp [m]
   exact ⟨n[c],by simp [execOp,o,Instr.loadAt,Instr.sureAddr,loadVar,ET C,e],D c A _ r (ω m)⟩
theorem BA {l:List AV} (K:s.ev x=some (.ptr h j c)) (M:hget s.hp h j=some (.blk t f)) (R:CB P T n=true) (N:F9 f c n=some l) (S:Jw l=some A) (O:Nat.blt d s.n=true):
  AA P F ⟨some d,.load T x,ty,pos,aft,g⟩ s d A:=
 Cz _ O λρ G w H=>by
  have q:=H.ev K
  generalize z:G.eval x=vx at q
  cases q with
  | @ptr _ _ _ b Q=>
   obtain ⟨b',r,o,Z,h2,Y,X⟩:=H.heap.sim h j _ M;rw [Q] at o;injection o with o;injection o with o;injection o with o;subst o
   obtain ⟨⟨ds,W,V⟩,U⟩:=Fh R;obtain ⟨h8,J,D⟩:=GS _ _ _ _ N;have e:((r.drop c).take n).length=n:=by rw [ϱ,χd];omega
   have L:=run_loadAt_mid (P:=P) w b c T ((r.drop c).take n) ds (λj v p=>by
    rw [cell_of_row w b (c+j) r.toArray t (0,0) Z];rw [χg] at p
    split at p
    .rw [χh] at p;simpa using p
    .cases p) W V (by rw [e];exact U)
   refine ⟨.agg ((r.drop c).take n).toArray,by simp [execOp,z,L],GZ S (by rw [e,J]) λm a u C B=>?_⟩;have I:m<n:=by rw [<-J];exact (φ.1 C).1
   rw [D m I] at C;rw [χg,ς I,χh] at B;exact ⟨Y _ a u C B,X u (ξ B)⟩
def isRowD:TypeDesc ->Bool
 | .struct _=>true
 | .array _ _=>true
 | _=>false
def AH (P:Program) (T:TypeId) (i:Nat):Option (Nat×Nat×Bool):=match P.underlying T with
 | some (.struct fs)=>match fs[i]? with
  | none=>none
  | some f=>match P.info? f.type with
   | none=>none
   | some inf=>match P.underlying f.type with
    | none=>none
    | some ds=>some (f.offset,inf.size,isRowD ds)
 | _=>none
theorem In {P:Program} {T:TypeId} {i:Nat} (h:AH P T i=some (o,n,a)):∃(c:Array Field) (f:Field),P.underlying T=some (.struct c)/\c[i]? =some f/\f.offset=o/\(P.info? f.type).map (·.size)=some n/\∀w,(isAgg f.type).run P w= .ok a w:=by
 unfold AH at h
 split at h
 .rename_i c e
  split at h
  .cases h
  .rename_i f m
   split at h
   .cases h
   .rename_i l b
    split at h
    .cases h
    .rename_i u j
     simp only [Option.some.injEq,Prod.mk.injEq] at h;obtain ⟨t,q,p⟩:=h;subst t q p;refine ⟨c,f,e,m,Z,by simp [b],λw=>?_⟩;unfold isAgg;rw [Sem.run_bind,run_underlying j w]
     cases u<;>rfl
 .cases h
theorem ZP {P:Program} {T:TypeId} {i:Nat} (h:AH P T i=some (o,n,a)) {b:List Value}:(Instr.field T (.agg b.toArray) i).run P w=if a then .ok (.agg (b.toArray.extract o (o+n))) w else (match b[o]? with | some v=> .ok v w | none=> .halt (.stuck "part: no such cell") w):=by
 obtain ⟨q,f,l,j,e,p,c⟩:=In h;have m:=ZcB p w
 cases a
 .simp [Instr.field,run_underlying l,j,part,c,e,asAgg]
  cases b[o]?<;>simp [stuck]
 .simp [Instr.field,run_underlying l,j,part,c,e,asAgg,m]
theorem Vv {i:Nat} (l:s.ev x=some (.d (.agg e))) (t:AH P T i=some (o,n,false)) (j:e[o]? =some m) (u:Nat.blt d s.n=true):
  AA P F ⟨some d,.field T x i,ty,pos,aft,g⟩ s d (.d m):=
 Cz _ u λA b w q=>by
  have h:=q.repD l
  generalize p:b.eval x=v at h
  cases h with
  | @agg _ f r B z=>
   have a:o<f.length:=by rw [r];exact (φ.1 j).1
   refine ⟨f[o],?_,.d (z o m _ j (ω a))⟩
   simp [execOp,p,ZP t,a]
theorem Ei {P:Program} {T:TypeId} {i:Nat} (h:AH P T i=some (o,n,a)) (j:Nat.blt 0 n=true) {b:Nat}:(Instr.fieldAt T (.pointer (some ⟨b,c,none⟩)) i).run P w= .ok (.pointer (some ⟨b,c+o,none⟩)) w:=by
 obtain ⟨v,f,u,t,q,l,p⟩:=In h;have m:=ZcB l w;have e:¬n=0:=by have:=IS j;omega
 simp [*,Instr.fieldAt,run_underlying,Instr.sureAddr,fieldPlace,Addr.add_mid]
theorem AL {e i:Nat} (m:s.ev x=some (.ptr h j c)) (z:AH P T i=some (o,n,a)) (u:Nat.blt 0 n=true) (t:c+o=e) (A:Nat.blt d s.n=true):
  AA P F ⟨some d,.fieldAddr T x i,ty,pos,aft,g⟩ s d (.ptr h j e):=
 Cz _ A λC l w q=>by
  have b:=q.ev m
  generalize p:l.eval x=v at b
  cases b with
  | ptr B=>subst t;exact ⟨_,by simp [execOp,p,Ei z u],.ptr B⟩
theorem OE {k e m i:Nat} (q:s.ev x=some (.rptr h j k e c)) (B:AH P T i=some (o,n,a)) (A:Nat.blt 0 n=true) (z:c+o=m) (C:Nat.blt d s.n=true):
  AA P F ⟨some d,.fieldAddr T x i,ty,pos,aft,g⟩ s d (.rptr h j k e m):=
 Cz _ C λH p w u=>by
  have l:=u.ev q
  generalize t:p.eval x=v at l
  cases l with
  | @rptr _ _ _ _ _ b N G D=>subst z;exact ⟨.pointer (some ⟨b,e*k+(c+o),none⟩),by simp [execOp,t,Ei B A,Nat.add_assoc],.rptr D⟩
theorem NP {i:Nat} (u:s.ev x=some (.d (.ptr (.agg e)))) (C:AH P T i=some (o,n,false)) (B:Nat.blt 0 n=true) (p:e[o]? =some m) (G:Nat.blt d s.n=true):
  AA P F ⟨some d,.fieldAddr T x i,ty,pos,aft,g⟩ s d (.d (.ptr m)):=
 Cz _ G λM q w A=>by
  have h:=A.repD u
  generalize z:q.eval x=v at h
  cases h with
  | @ptr _ b l t H I L K J=>
   have f:m.one=true:=L m (ξ p);refine ⟨.pointer (some ⟨b,l+o,none⟩),by simp [execOp,z,Ei C B],.d (.ptr (λj=>t (o+j)) H I (λr a=>?_) (λj r a=>?_) (λj r a=>?_))⟩
   .rw [D.cells_one f] at a;simp at a;rw [a];exact f
   .rw [D.cells_one f] at a
    cases j with
    | zero=>simp at a;subst a;rw [ψx];exact K o m p
    | succ j=>simp at a
   .rw [D.cells_one f] at a
    cases j with
    | zero=>simp at a;subst a;exact J o m p
    | succ j=>simp at a
theorem V3 {m:List D} {i:Nat} (t:s.ev x=some (.d (.ptr (.agg e)))) (B:AH P T i=some (o,n,true)) (A:Nat.blt 0 n=true) (f:(e.drop o).take n=m) (C:Nat.blt d s.n=true):
  AA P F ⟨some d,.fieldAddr T x i,ty,pos,aft,g⟩ s d (.d (.ptr (.agg m))):=
 Cz _ C λL q w z=>by
  have h:=z.repD t
  generalize u:q.eval x=v at h
  subst f
  have hget:∀(j:Nat) c,(D.agg ((e.drop o).take n)).cells[j]? =some c ->e[o+j]? =some c:=λj c f=>by
   simp only [D.cells] at f;rw [χg] at f
   split at f
   .rw [χh] at f;exact f
   .cases f
  cases h with
  | @ptr _ b p r G H K J I=>
   refine ⟨.pointer (some ⟨b,p+o,none⟩),by simp [execOp,u,Ei B A],.d (.ptr (λj=>r (o+j)) G H (λl a=>K l (List.mem_of_mem_drop (ωs a))) (λj l a=>?_) (λj l a=>?_))⟩
   .have:=J _ l (hget j l a);rwa [<-Nat.add_assoc] at this
   .exact I _ l (hget j l a)
theorem Ld (e:s.ev x=some (.ptr h j c)) (n:Nat.blt d s.n=true):AA P F ⟨some d,.nilCheck x,ty,pos,aft,g⟩ s d (.ptr h j c):=
 Cz _ n λp b w m=>by
  have a:=m.ev e
  generalize l:b.eval x=v at a
  cases a with
  | ptr o=>exact ⟨_,by simp [execOp,l],.ptr o⟩
theorem Pt {k e:Nat} (l:s.ev x=some (.rptr h j k e c)) (o:Nat.blt d s.n=true):AA P F ⟨some d,.nilCheck x,ty,pos,aft,g⟩ s d (.rptr h j k e c):=
 Cz _ o λq b w n=>by
  have a:=n.ev l
  generalize m:b.eval x=v at a
  cases a with
  | rptr p=>exact ⟨_,by simp [execOp,m],.rptr p⟩
theorem K6 {e:D} (b:s.ev x=some (.d (.ptr e))) (j:Nat.blt d s.n=true):AA P F ⟨some d,.nilCheck x,ty,pos,aft,g⟩ s d (.d (.ptr e)):=
 Cz _ j λm a w f=>by
  have h:=f.repD b
  generalize c:a.eval x=v at h
  have l:=h
  cases h with
  | ptr _ _ _ _ _ _=>exact ⟨_,by simp [execOp,c],.d l⟩
end
section
variable {P:Program} {F:Fr} {d:Nat} {ty T T':TypeId} {pos:String} {aft:Array Edge} {g:Option (Nat×Bool)} {x y:Operand}
theorem B4 {n:Nat} {a:List (Nat×AV)} {h:List (Nat×List AN)} {f j b:Nat} {A:AV} {t:TypeId} {l o i:List AV} {e:List (Nat×List AN)} (q:AS.ev ⟨n,a,h⟩ x=some (.ptr f j b)) (p:AS.ev ⟨n,a,h⟩ y=some A) (u:A.cells? =some l) (r:hget h f j=some (.blk t o)) (c:Eh o b l=some i)
  (s:B7 h f j (.blk t i)=some e) {m:Nat} (k:l.length=m) (v:A5 P T m=true):AG P F ⟨none,.store T x y,ty,pos,aft,g⟩ ⟨n,a,h⟩ ⟨n,a,e⟩ (λ_ _=>true):=Vq q p u r c s k v
end
variable {a:List Value} {w:World} {c:Type} {R:c ->Value ->Prop} {d:c ->List c} {e:Option Addr} {k:Nat} {f t:TypeId} {g:Nat} {h:List c} {i m j:Nat}
theorem Hb {n:Nat} {v:Value} (h:w.ownsRow g f i v n a):∃d j,v= .slice d n j/\n<=j/\j<=maxLen/\(d=none ->j=0)/\
  (0<n ->∃b k,d=some ⟨b,0,none⟩/\w.heap[b]? =some (.cells k f (0,0))/\k.size=j*i/\k.toList.take (n*i)=a):=by
 rcases h.2 with ⟨rfl,rfl⟩ | ⟨c,j,k,rfl,_,q,p,o,m,l⟩
 .grind
 grind
theorem Rs {n:Nat} {N:Nat} (h:w.ownsRow g f i (.slice e N j) n a) (l:m<=n):w.ownsRow g f i (.slice e m j) m (a.take (m*i)):=by
 have o:m*i<=n*i:=ψa _ l;refine ⟨by rw [ϱ,h.1];omega,?_⟩;rcases h.2 with ⟨c,rfl⟩ | ⟨b,k,d,c,t,s,u,r,q,p⟩
 .grind
 .injection c with c e2 e3
  subst c e2 e3;exact .inr ⟨b,j,d,Z,t,s,by omega,r,q,by rw [<-p,List.take_take];congr 1;omega⟩
theorem SR.rowD {F:Fr} {s:AS} {l:Nat ->Nat ->Value} {m:Act} (h:SR F s l m w) {f j:Nat} {e:List D} (n:hget s.hp f j=some (.rowD t k e)):
  ∃(i:List Value) (a:Option Addr) (d:Nat),l f j= .slice a e.length d/\w.ownsRow 0 t k (.slice a e.length d) e.length i/\GG D.cells k (A1 w (F.O l s.hp)) e i/\(∀x∈e,∀c∈x.cells,c.one=true)/\
   (e.length<=d/\d<=maxLen/\(a=none ->d=0))/\(0<e.length ->∃b,a=some ⟨b,0,none⟩/\∃g,w.heap[b]? =some (.cells g t (0,0))/\g.size=d*k/\g.toList.take (e.length*k)=i):=by
 obtain ⟨i,q,p,o⟩:=h.heap.sim f j _ n
 grind [Hb]
theorem Do {b:Nat} {c:Array Value} {j:Nat} {u:Value} (h:w.heap[b]? =some (.cells c t (0,0))) (d:c.toList.take m=a) (e:a[j]? =some u):w.cell? ⟨b,j,none⟩=some u:=by grind [cell_of_row]
theorem A1.lies {O:Nat ->Prop} {E:Option Bool} {n:List D} (h:A1 w O (.sl E n) (.slice e m j)) (B:∀y∈n,y.cells.length=k):
  ∃r:List Value,CR w w.heap.size k e m r/\GG D.cells k (A1 w O) n r/\(∀y∈n,∀c∈y.cells,c.one=true)/\m=n.length:=by
 cases h with
 | sl Q Y X F C hm H V S=>
  subst F;rcases Nat.eq_zero_or_pos n.length with L | L
  .simp [*,ωz,CR,GG]
  .obtain ⟨b,o,rfl⟩:=V (by intro f;subst f;simp at L)
   have g:∀(i:Nat) x,n[i]? =some x ->b<w.heap.size/\(∀c∈x.cells,c.one=true)/\∀(d:Nat) c,x.cells[d]? =some c ->∃u,w.cell? ⟨b,o+(i*k+d),none⟩=some u/\A1 w O c u:=λi x p=>by
    have G:Q=k:=by rw [<-H x (ξ p),B x (ξ p)]
    subst G;have:=S b o Z i x p
    cases this with
    | ptr P U hO z C v=>exact ⟨U,z,λd c t=>⟨P d,by rw [<-Nat.add_assoc];exact C d c t,v d c t⟩⟩
   refine ⟨(List.range (n.length*k)).map λd=>(w.cell? ⟨b,o+d,none⟩).getD undef,⟨by simp,λ_=>⟨_,Z,?_,λd u v=>?_⟩⟩,⟨by simp,B,λi x p d c t=>?_⟩,λy R c C=>?_,Z⟩
   .obtain ⟨x,p⟩:=List.getElem?_some_of_lt L
    grind
   .rw [ν] at v
    have q:d<n.length*k:=by
     grind
    rw [ψt q] at v;simp only [ψl,Option.some.injEq] at v
    have A:0<k:=by
     grind
    have J:d / k<n.length:=(Nat.div_lt_iff_lt_mul A).2 q;have M:d % k<k:=Nat.mod_lt _ A;obtain ⟨x,p⟩:=List.getElem?_some_of_lt J;have s:=B x (ξ p);obtain ⟨c,K⟩:=List.getElem?_some_of_lt (l:=x.cells) (i:=d % k) (by omega);obtain ⟨W,z,_⟩:=(g _ x p).2.2 _ c K;have t:d / k*k+d % k=d:=by rw [φd];exact Nat.div_add_mod d k
    rw [t] at z;rw [Addr.add_mid,z];rw [z] at v
    simpa using v
   .obtain ⟨u,z,N⟩:=(g i x p).2.2 d c t;have s:=B x (ξ p);have T:d<k:=by rw [<-s];exact (φ.1 t).1
    have I:i<n.length:=(φ.1 p).1
    have q:i*k+d<n.length*k:=by
     have:(i+1)*k<=n.length*k:=ψa _ I;rw [φf] at this;omega
    refine ⟨u,by rw [ν,ψt q];simp [z],N.oneCell ((g i x p).2.1 c (ξ t)),N⟩
   .obtain ⟨i,J,rfl⟩:=ωq R;exact (g i _ (ω J)).2.1 c C
theorem GG.append {m:List c} {n:List Value} (b:GG d k R h a) (l:GG d k R m n):GG d k R (h++m) (a++n):=by
 refine ⟨by rw [Δ,Δ,b.1,l.1,φf],λx f=>?_,λi x f j e o=>?_⟩
 .rcases ϖ.1 f with f | f
  .exact b.2.1 x f
  .exact l.2.1 x f
 .have g:(d x).length=k:=by
   have:=ξ f;rcases ϖ.1 this with f | f
   .exact b.2.1 x f
   .exact l.2.1 x f
  have p:j<k:=by rw [<-g];exact (φ.1 o).1
  rw [List.getElem?_append] at f
  split at f
  .grind [GG]
  .rename_i s
   obtain ⟨u,t,r⟩:=l.2.2 _ x f j e o;refine ⟨u,?_,r⟩;have q:h.length*k<=i*k:=ψa _ (by omega)
   grind [Nat.sub_mul,GG]
theorem GG.take (b:GG d k R h a) (n:Nat) (m:n<=h.length):GG d k R (h.take n) (a.take (n*k)):=by
 have l:n*k<=h.length*k:=ψa _ m;refine ⟨by rw [ϱ,ϱ,b.1];rw [Nat.min_eq_left l,Nat.min_eq_left m],λx f=>b.2.1 x (ωs f),λi x f j e o=>?_⟩;have g:(d x).length=k:=b.2.1 x (ωs (ξ f));have p:j<k:=by rw [<-g];exact (φ.1 o).1
 rw [χg] at f
 split at f
 .rename_i q
  obtain ⟨u,s,r⟩:=b.2.2 i x f j e o;refine ⟨u,?_,r⟩;have:(i+1)*k<=n*k:=ψa _ q
  grind
 .cases f
section
variable {P:Program} {F:Fr} {s:AS} {d:Nat} {ty T E:TypeId} {pos:String} {aft:Array Edge} {g:Option (Nat×Bool)} {x y:Operand} {k:IntKind} {i:Int}
variable {a:List (Nat×List AN)} {c:List D} {t:TypeId} {e:List D} {f j h:Nat} {m:D}
theorem CM {n:Nat} (m:Nat) (v:s.ev x=some (.own h j n)) (r:s.ev y=some (.d (.raw (.int k i)))) (C:i=(m:Int)) (B:m<n) (A:hget s.hp h j=some (.rowD t f c)) (G:P.underlying T=some (.slice E)) (H:A5 P E f=true) (D:Nat.blt d s.n=true):
  AA P F ⟨some d,.indexAddr T x y,ty,pos,aft,g⟩ s d (.rptr h j f m 0):=
 Cz _ D λK p w o=>by
  have e:=o.ev v
  generalize z:p.eval x=u at e
  obtain ⟨L,a,J,q,R,Q,O,N,I⟩:=o.rowD A;subst C
  cases e with
  | own l M=>
   rw [q] at l;injection l with e2 e3 e4
   subst e2 e3 e4;obtain ⟨b,rfl,_⟩:=I (by omega);exact ⟨.pointer (some ⟨b,m*f+0,none⟩),by simp [execOp,Instr.indexAt,asIntOf,o.raw r,z,run_underlying G,B,ZcB (ae H),Addr.add_mid],.rptr q⟩
theorem CY {e n:Nat} {z m:D} (G:s.ev x=some (.rptr h j f e n)) (I:hget s.hp h j=some (.rowD t f c)) (A:c[e]? =some z) (L:z.cells[n]? =some m) (M:BW P T=true) (K:Nat.blt d s.n=true):
  AA P F ⟨some d,.load T x,ty,pos,aft,g⟩ s d (.d m):=
 Cz _ K λZ v w B=>by
  have l:=B.ev G
  generalize H:v.eval x=u at l
  obtain ⟨us,a,Y,W,h1,U,h3,h4,S⟩:=B.rowD I
  cases l with
  | @rptr _ _ _ _ _ b N C p=>
   rw [W] at p;injection p with e2 e3 e4
   subst e2 e3 e4;have J:e<c.length:=(φ.1 A).1;obtain ⟨b',q,X,R,h7,Q⟩:=S (by omega);injection q with q;injection q with q;subst q
   obtain ⟨u,O,V,r⟩:=U.2.2 e z A n m L;have o:=Do R Q O;exact ⟨u,by simp [execOp,H,Instr.loadAt,Instr.sureAddr,loadVar,ET M,o],.d r⟩
theorem Lu {c:Type} (b:List c) (a m:Nat) (l:List c) (h:a+l.length<=m) (e:m<=b.length):(GL b a l).take m=GL (b.take m) a l:=by
 apply χn
 grind [DI]
theorem Ln {n A:Nat} {z z':D} (hx:s.ev x=some (.rptr h j f n A)) (hy:s.ev y=some (.d m)) (hv:(match m with | .tup _=>false | _=>true)=true) (ho:hget s.hp h j=some (.rowD t f c)) (hz:c[n]? =some z)
  (L:z'.cells=GL z.cells A m.cells) (O:A+m.cells.length<=z.cells.length) (hxs':c.set n z'=e) (hh:B7 s.hp h j (.rowD t f e)=some a) {kz:Nat} (hkz:m.cells.length=kz) (hT:A5 P T kz=true):
  AG P F ⟨none,.store T x y,ty,pos,aft,g⟩ s ⟨s.n,s.env,a⟩ (λ_ _=>true):=λW U w hs=>by
 subst hkz hxs';have l:=hs.ev hx
 generalize hvx:U.eval x=u at l
 obtain ⟨S,r,cap,e1,h1,J,h3,h4,h5⟩:=hs.rowD ho
 cases l with
 | @rptr _ _ _ _ _ b N cap' hρ=>
  rw [e1] at hρ;injection hρ with e2 e3 e4
  subst e2 e3 e4;have hlt:n<c.length:=(φ.1 hz).1;obtain ⟨b',e5,K,h6,h7,h8⟩:=h5 (by omega);injection e5 with e5;injection e5 with e5;subst e5
  have hk:z.cells.length=f:=J.2.1 _ (ξ hz);have I:=hs.repD hy
  generalize hvy:U.eval y=C at I
  -- the value's cells
  have M:C.cells.toList.length=m.cells.length/\(∀p∈m.cells,p.one=true)/\∀(q:Nat) p u,m.cells[q]? =some p ->C.cells.toList[q]? =some u ->A1 w (F.O W s.hp) p u/\u.oneCell'=true:=by
   have one:∀{m:D} {C:Value},m.one=true ->A1 w (F.O W s.hp) m C ->C.cells.toList.length=m.cells.length/\(∀p∈m.cells,p.one=true)/\∀(q:Nat) p u,m.cells[q]? =some p ->C.cells.toList[q]? =some u ->A1 w (F.O W s.hp) p u/\u.oneCell'=true:=λ{m C} h1 l=>by
    have J:=l.oneCell h1;have G:C.cells.toList=[C]:=by cases C<;>first | rfl | cases J
    rw [G,D.cells_one h1];refine ⟨Z,by simp [h1],λq p u G X=>?_⟩
    cases q with
    | zero=>simp at G X;subst G X;exact ⟨l,J⟩
    | succ q=>simp at G
   cases m with
   | agg cs=>
    cases I with
    | agg V R a3=>exact ⟨by simpa [Value.cells,D.cells] using V,R,λq p u G X=>by
      have hr:=a3 q p u G (by simpa [Value.cells] using X)
      exact ⟨hr,hr.oneCell (R p (ξ G))⟩⟩
   | tup _=>cases hv
   | raw _=>exact one Z I
   | sl _ _=>exact one Z I
   | ptr _=>exact one Z I
   | fn _ _ _=>exact one Z I
  obtain ⟨c1,c2,c3⟩:=M
  have Q:n*f+A+C.cells.toList.length<=S.length:=by
   rw [c1,J.1];have:(n+1)*f<=c.length*f:=ψa _ hlt;rw [φf] at this;omega
  have hcl:S.length<=K.toList.length:=by rw [<-h8,ϱ];omega
  have hone:∀u∈C.cells.toList,u.oneCell'=true:=λu X=>by
   obtain ⟨q,Y,rfl⟩:=ωq X;exact (c3 q _ _ (ω (by omega)) (ω Y)).2
  have h6':w.heap[b]? =some (.cells K.toList.toArray t (0,0)):=by simpa using h6
  have hrun:=G8 (P:=P) (T:=T) (o:=n*f+A) h6' (by rw [c1];exact ae hT) (by omega) hone
  have hex:(execOp U.eval ⟨none,.store T x y,ty,pos,aft,g⟩).run P w= .ok .skip (w.setCells b (n*f+A) C.cells.toList):=by
   simp [execOp,hvx,hvy,hrun]
  unfold Oper.wp;rw [hex];obtain ⟨g1,g2,g3,g4⟩:=ZcI (b:=b) C.cells.toList (n*f+A) w;refine ⟨W,hs.write h j _ _ ho (BB hh) g1 g2 g3 g4 (λb' hb'=>Zca _ _ _ _ (λn=>hb' (by rw [e1,n];rfl))) (λ_ _ n=>nomatch n) (λhrep=>?_) (Nat.le_of_eq (Dn _ _ _ _).symm),λ_ _ _=>rfl⟩
  have H:∀p u,A1 w (F.O W s.hp) p u ->A1 (w.setCells b (n*f+A) C.cells.toList) (F.O W a) p u:=λp u hr=>by
   have:=hrep (.d p) u (.d hr)
   cases this with | d l=>exact l
  rw [e1];refine ⟨GL S (n*f+A) C.cells.toList,?_,⟨?_,λx' B=>?_,λi' x' B q p G=>?_⟩,λx' B p G=>?_⟩
  .refine ⟨by rw [aq,J.1,ωr],.inr ⟨b,cap,(GL K.toList (n*f+A) C.cells.toList).toArray,by simp,by omega,?_,by simpa using h4.1,h4.2.1,by simp [aq,h7],?_⟩⟩
   .simpa using Zcb (fr:=(0,0)) C.cells.toList K.toList (n*f+A) w h6'
   .have hml:(c.set n z').length*f=S.length:=by rw [ωr,J.1]
    rw [hml];show (GL K.toList (n*f+A) C.cells.toList).take S.length=_;rw [Lu _ _ _ _ Q hcl];have:K.toList.take S.length=S:=by rw [J.1];exact h8
    rw [this]
  .rw [aq,J.1,ωr]
  .rcases ψs B with B | rfl
   .exact J.2.1 _ B
   .rw [L,aq];exact hk
  .rw [DI _ _ _ Q]
   have hqk:q<f:=by
    have:x'.cells.length=f:=by
     rcases ψs (ξ B) with B | rfl
     .exact J.2.1 _ B
     .rw [L,aq];exact hk
    rw [<-this];exact (φ.1 G).1
   by_cases he:n=i'
   .subst he;rw [List.getElem?_set_self hlt] at B;injection B with B;subst B
    rw [L,DI _ _ _ O] at G
    by_cases Y:A<=q/\q<A+m.cells.length
    .rw [ς Y] at G;have hq2:q - A<C.cells.toList.length:=by omega
     obtain ⟨V,R⟩:=c3 _ _ _ G (ω hq2);refine ⟨_,by rw [ς (by omega)];rw [show n*f+q - (n*f+A)=q - A by omega];exact ω hq2,R,H _ _ V⟩
    .rw [η Y] at G;obtain ⟨u,V,R,a3⟩:=J.2.2 n z hz q p G;exact ⟨u,by rw [η (by omega)];exact V,R,H _ _ a3⟩
   .rw [List.getElem?_set_ne he] at B;obtain ⟨u,V,R,a3⟩:=J.2.2 i' x' B q p G;refine ⟨u,?_,R,H _ _ a3⟩;rw [η]
    .exact V
    .rintro ⟨b1,b2⟩;rcases Nat.lt_or_ge i' n with hl | hl
     .have:(i'+1)*f<=n*f:=ψa _ hl;rw [φf] at this;omega
     .have:(n+1)*f<=i'*f:=ψa _ (by omega);rw [φf] at this;omega
  .rcases ψs B with B | rfl
   .exact h3 _ B p G
   .rw [L] at G;obtain ⟨q,Y,rfl⟩:=ωq G;have hg:(GL z.cells A m.cells)[q]? =some ((GL z.cells A m.cells)[q]):=ω Y;rw [DI _ _ _ O] at hg
    split at hg
    .exact c2 _ (ξ hg)
    .exact h3 z (ξ hz) _ (ξ hg)
theorem TK {b:Nat} (K:s.ev x=some (.rptr h j f b 0)) (J:s.ev y=some (.d m)) (B:m.one=true) (G:hget s.hp h j=some (.rowD t f c)) (r:f=1) (q:b<c.length)
 (p:c.set b m=e) (L:B7 s.hp h j (.rowD t f e)=some a) (M:A5 P T 1=true):
  AG P F ⟨none,.store T x y,ty,pos,aft,g⟩ s ⟨s.n,s.env,a⟩ (λ_ _=>true):=λI u w C=>by
 obtain ⟨Q,n,O,W,V,N,U,S,R⟩:=C.rowD G;have A:=ω q;have H:c[b].cells.length=1:=by rw [<-r];exact N.2.1 _ (ξ A)
 have o:=D.cells_one B;refine Ln (z:=c[b]) (z':=m) K J (by cases m<;>first | rfl | cases B) G A ?_ (by rw [o,H];exact Γ _) p L (by rw [o];rfl) M I u w C;rw [o]
 match hc:c[b].cells,H with
 | [l],_=>rfl
end
section
variable {P:Program} {F:Fr} {d:Nat} {ty T T':TypeId} {pos:String} {aft:Array Edge} {g:Option (Nat×Bool)} {x y:Operand}
theorem Sg {n:Nat} {a:List (Nat×AV)} {i:List (Nat×List AN)} {f j k e:Nat} {t:TypeId} {l:List D} {v:D} {h:List (Nat×List AN)} (q:AS.ev ⟨n,a,i⟩ x=some (.rptr f j k e 0)) (p:AS.ev ⟨n,a,i⟩ y=some (.d v)) (r:v.one=true) (s:hget i f j=some (.rowD t k l)) (o:k=1) (m:e<l.length)
  {b:List D} (c:l.set e v=b) (u:B7 i f j (.rowD t k b)=some h) (w:A5 P T 1=true):
  AG P F ⟨none,.store T x y,ty,pos,aft,g⟩ ⟨n,a,i⟩ ⟨n,a,h⟩ (λ_ _=>true):=TK q p r s o m c u w
end
end Go.Proofs.YteifpcnphnhaoaaGreat
