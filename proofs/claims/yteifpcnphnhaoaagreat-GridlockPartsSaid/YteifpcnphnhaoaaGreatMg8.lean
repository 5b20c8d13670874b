import Derived.Test.YteifpcnphnhaoaaGreatMg7
import Derived.Laws.Cover3
namespace Go.Proofs.YteifpcnphnhaoaaGreat
open Go.RowKit
theorem SR.adoptC {P:Program} {F:Fr} {s:AS} {O:Nat ->Nat ->Value} {G:Act} {w:World} (h:SR F s O G w) (g i p f:Nat) {T E t:TypeId} {H N:Nat} (_S:SlTy P T E H N) {I r:List AV} {m:List (Nat×AV)} {z q A:List (Nat×List AN)}
  (hE:Ac f s.env=some m) (R:Aa f s.hp=some z) (hh:Cj z f (.rowD E H [])=some q) (B:hget q g i=some (.blk t I)) (hc:I[p]? =some (.d (.sl (some true) []))) (J:Eh I p [.own f 0 0]=some r) (y:B7 q g i (.blk t r)=some A):
  SR F ⟨s.n,m,A⟩ (upd O f 0 (.slice none 0 0)) G w:=by
 obtain ⟨h1,h2⟩:=Hk hh;have v:=h.set f 0 (.rowD E H []) (.slice none 0 0) hE R h1 (λt I e=>by obtain ⟨o,B,_⟩:=(BG R).2 _ _ _ e;rw [h2] at B;cases B) (λb hb=>nomatch hb) Z Z Z (Γ _) (λ_ _ _=>rfl) (λ_=>⟨[],World.ownsRow_nil w 0 E H,⟨by simp,by simp,λi x X=>by simp at X⟩,by simp⟩);refine v.write g i _ (.blk t r) B (BB y) Z Z Z Z (λ_ _=>rfl) (λ_ _ _=>⟨_,_,Z⟩) (λQ=>?_);obtain ⟨b,S,e1,e2,e3,e4,e5⟩:=v.heap.sim g i _ B;obtain ⟨s1,V,U⟩:=DX _ _ _ _ J;refine ⟨b,S,e1,e2,by rw [e3,V],λj c u l Y=>?_,e5⟩;rw [U] at l
 split at l
 .rename_i hj
  have L:j=p:=by simp at hj;omega
  subst L
  simp at l;subst l
  have K:=e4 j _ u hc Y
  cases K with
  | d K=>
   cases K with
   | @sl _ _ a n cap k hn W C hcc hm hk ha hp=>
    have M:a=none:=by simpa using hn true rfl
    subst M;have D:=W rfl
    simp at C
    subst D C;exact .own QS (Γ _)
 grind
section
variable {P:Program} {F:Fr} {Q:Exit ->AS ->Prop} {s:AS} {c:Code} {ops:Array Oper} {l:List Oper}
theorem XA {u:Nat} {n:List (Nat×AV)} {w:List (Nat×List AN)} (g i b f:Nat) {T E t:TypeId} {v r:Nat} (S:SlTy P T E v r) {q o:List AV} {a:List (Nat×AV)} {k e m:List (Nat×List AN)}
  (C:Ac f n=some a) (B:Aa f w=some k) (z:Cj k f (.rowD E v [])=some e) (y:hget e g i=some (.blk t q)) (A:q[b]? =some (.d (.sl (some true) []))) (p:Eh q b [.own f 0 0]=some o) (j:B7 e g i (.blk t o)=some m) (h:CG P F c Q ⟨u,a,m⟩):CG P F c Q ⟨u,n,w⟩:=λ_ _ _ x=>h _ _ _ (x.adoptC g i b f S C B z y A p j)
end
theorem A1.nilSplit {w:World} {O:Nat ->Prop} {n:Option Bool} {e:List D} {v:Value} (h:A1 w O (.sl n e) v):(e=[]/\A1 w O (.sl (some true) []) v)\/A1 w O (.sl (some false) e) v:=by
 cases h with
 | @sl _ _ a m q k r f c l i j o g=>
  cases a with
  | none=>
   have:=f rfl;have p:e=[]:=ωz (by omega);subst p;exact .inl ⟨Z,.sl k (λb d=>by injection d with d) f c l i j o g⟩
  | some s=>exact .inr (.sl k (λb d=>by injection d with d) f c l i j o g)
section
variable {P:Program} {F:Fr} {Q:Exit ->AS ->Prop} {n:Nat} {env:List (Nat×AV)} {hp:Hp} {c:Code}
theorem Fp {f:Array Oper} {l:List Oper} (t:Nat) {b:Option Bool} {m:List D} (s:get env t=some (.d (.sl b m))) (y:m=[] ->Ao P F f l Q ⟨n,(t,.d (.sl (some true) []))::env,hp⟩) (u:Ao P F f l Q ⟨n,(t,.d (.sl (some false) m))::env,hp⟩):Ao P F f l Q ⟨n,env,hp⟩:=λj e w i=>by
 have k:=i.env t _ s
 have g:∀x:D,A1 w (F.O j hp) x (e.tmps.getD t undef) ->SR F ⟨n,(t,.d x)::env,hp⟩ j e w:=λx r=>⟨i.size,i.defs,λq a o=>by
  rcases Mp o with ⟨rfl,rfl⟩ | ⟨_,o⟩
  .exact .d r
  .exact i.env q a o,i.heap⟩
 generalize p:e.tmps.getD t undef=v at k
 cases k with
 | d k=>
  rcases k.nilSplit with ⟨z,h⟩ | h
  .exact y z j e w (g _ (by rw [p];exact h))
  .exact u j e w (g _ (by rw [p];exact h))
end
section
variable {P:Program} {F:Fr} {s:AS} {d:Nat} {ty T T' E:TypeId} {pos:String} {aft:Array Edge} {g:Option (Nat×Bool)} {x:Operand}
theorem Ea {b:Bool} {j:List D} (t:P.underlying T=some (.slice E)) (l:s.ev x=some (.d (.sl (some b) j))) (r:Nat.blt d s.n=true):AA P F ⟨some d,.binOp .eql T x (.const (.slice none 0 0)) T',ty,pos,aft,g⟩ s d (.d (.raw (.bool b))):=
 Cz _ r λu c w o=>by
  have e:=o.ev l
  generalize n:c.eval x=v at e
  cases e with
  | d e=>
   cases e with
   | @sl _ _ a m f k p y q i A B C z=>
    have h:=p b rfl;have i:c.eval (.const (.slice none 0 0))= .slice none 0 0:=rfl;subst h;exact ⟨.bool a.isNone,by simp [execOp,n,i,eqGuard,binOp,run_equal_slice_nil w T E a m f t],.d (.raw Z)⟩
end
variable {a:Nat ->Nat ->Value} {c:Nat ->Prop} {d:List AV} {e:AV} {f:FuncId} {w:World} {g:Value}
def YO:AV ->Option (FuncId×List AV)
 | .fn g caps=>some (g,caps)
 | .d (.raw (.func (.func g) ⟨[]⟩ ⟨[]⟩))=>some (g,[])
 | _=>none
theorem Wa {w:World} {O:Nat ->Prop} {g:Nat ->Nat ->Value} {a:AV} {v:Value} {f:FuncId} {b:List AV} (h:A9 w O g a v) (c:YO a=some (f,b)):
  ∃e:List Value,v= .func (.func f) #[] e.toArray/\e.length=b.length/\∀(i:Nat) a v,b[i]? =some a ->e[i]? =some v ->A9 w O g a v:=by
 unfold YO at c
 split at c
 .injection c with c;injection c with h1 h2;subst h1 h2
  cases h with
  | @fn _ _ e j h=>exact ⟨e,Z,j,h⟩
 .injection c with c;injection c with h1 h2;subst h1 h2
  cases h with
  | d h=>cases h with | raw h=>exact ⟨[],rfl,rfl,by simp⟩
 .cases c
def dL:List D ->List AV
 | []=> []
 | d::r=> .d d::dL r
theorem fK {l:List D} {i:Nat} (h:(dL l)[i]? =some e):∃d,l[i]? =some d/\e= .d d:=by
 induction l generalizing i with
 | nil=>simp [dL] at h
 | cons x r b=>
  grind [dL]
theorem J3 (l:List D):(dL l).length=l.length:=by induction l with | nil=>rfl | cons x r ih=>simp [dL,ih]
def SG:AV ->Option (FuncId×List AV×List AV)
 | .fn g caps=>some (g,[],caps)
 | .d (.fn g fs caps)=>some (g,dL fs,dL caps)
 | .d (.raw (.func (.func g) ⟨[]⟩ ⟨[]⟩))=>some (g,[],[])
 | _=>none
theorem SF {w:World} {O:Nat ->Prop} {j:Nat ->Nat ->Value} {a:AV} {v:Value} {f:FuncId} {o c:List AV} (h:A9 w O j a v) (b:SG a=some (f,o,c)):
  ∃g e:List Value,v= .func (.func f) g.toArray e.toArray/\g.length=o.length/\e.length=c.length/\(∀(i:Nat) a v,o[i]? =some a ->g[i]? =some v ->A9 w O j a v)/\∀(i:Nat) a v,c[i]? =some a ->e[i]? =some v ->A9 w O j a v:=by
 unfold SG at b
 split at b
 .injection b with b;injection b with h1 h2;injection h2 with h2 h3;subst h1 h2 h3
  cases h with
  | @fn _ _ e q h=>exact ⟨[],e,Z,Z,q,by simp,h⟩
 .injection b with b;injection b with h1 h2;injection h2 with h2 h3;subst h1 h2 h3
  cases h with
  | d h=>
   cases h with
   | @fn _ _ _ g e m l s r=>
    refine ⟨g,e,Z,by rw [J3];exact m,by rw [J3];exact l,λi a v n k=>?_,λi a v n k=>?_⟩
    .obtain ⟨d,p,rfl⟩:=fK n;exact .d (s i d v p k)
    .obtain ⟨d,p,rfl⟩:=fK n;exact .d (r i d v p k)
 .injection b with b;injection b with h1 h2;injection h2 with h2 h3;subst h1 h2 h3
  cases h with
  | d h=>cases h with | raw h=>exact ⟨[],[],rfl,rfl,rfl,by simp,by simp⟩
 .cases b
section
variable {P:Program} {F:Fr} {s:AS} {d:Nat} {ty T T':TypeId} {pos:String} {aft:Array Edge} {g:Option (Nat×Bool)} {at_:Array TypeId} {x:Operand}
variable {a:List Operand} {f:FuncId} {c:List AV} {e:List (Nat×AV)} {h:List Operand} {i:List AV} {j:Act} {w:World} {k m n:Hp}
theorem Lv {c:Func} (p:P.funcs[f]? =some c) (b:(c.name== "runtime.NumGoroutine")=false) (l:c.body.isSome=true) {k i:List Value} {e:Option Nat} (o:j.eval x= .func (.func f) k.toArray i.toArray):
  (execOp j.eval ⟨e,.call {callee:= .value x,args:=a.toArray,argTypes:=at_},ty,pos,aft,g⟩).run P w= .ok (.enter f (k++(a.map j.eval++i)).toArray) w:=by
 have n:¬c.body=none:=by intro h;rw [h] at l;cases l
 have m:¬c.name= "runtime.NumGoroutine" :=by simpa using b
 simp [*,execOp,resolve,Deferred.ofValue,invoke,callFunc]
def Pb (s:AS) (x:Operand) (xs:List Operand):Option (FuncId×List AV):=match s.ev x with
 | none=>none
 | some a=>match SG a with
  | none=>none
  | some (f,fs,caps)=>match LZ s xs with
   | none=>none
   | some l=>some (f,fs++(l++caps))
theorem Iy {m:Nat ->Nat ->Value} (o:SR F s m j w) (h:Pb s x a=some (f,c)):
  ∃k e:List Value,j.eval x= .func (.func f) k.toArray e.toArray/\(k++(a.map j.eval++e)).length=c.length/\∀(i:Nat) b v,c[i]? =some b ->(k++(a.map j.eval++e))[i]? =some v ->A9 w (F.O m s.hp) m b v:=by
 unfold Pb at h
 split at h
 .cases h
 .rename_i b q
  split at h
  .cases h
  .rename_i u t n p
   split at h
   .cases h
   .rename_i l r
    injection h with h;injection h with h1 h2;subst h1 h2
    obtain ⟨k,e,B,C,A,y,z⟩:=SF (o.ev q) p
    grind [Cb]
theorem ZF {R:AV ->Hp ->Prop} (A:AT P f c n R) (j:Pb s x a=some (f,c))
  (h:List Nat) (t:CP s.hp n h) (u:A6 h n=true) (q:C9 h s.hp=some k) (H:Bw (By n h) s.env=some e) (G:CV (By n h) k=some m)
  (E:∀r i,R r i ->A6 h i=true/\Fu h i=true/\r.ok (Jc h)=true) (D:Nat.blt d s.n=true):
  Pn P F ⟨some d,.call {callee:= .value x,args:=a.toArray,argTypes:=at_},ty,pos,aft,g⟩ s (λB=>∃r i,R r i/\B=⟨s.n,(d,r)::e,i++m⟩):=λQ O w z=>by
 obtain ⟨W,M,L,K⟩:=A.1;obtain ⟨V,U,C,J,I⟩:=Iy z j;unfold Oper.wp;rw [Lv M L K C,Oper.upon_enter];refine (F4 z A J I h t u q H G E).mono λb S ⟨v,r,i,l,N,y,o,p,_⟩=>?_;subst N;exact ⟨_,l,⟨Z,r,i,y,Z⟩,p.put (IS D) o⟩
theorem Vc {q:Hp} {t:AV} (J:AT P f c n λr H=>r=t/\H=q) (j:Pb s x a=some (f,c))
  (h:List Nat) (z:CP s.hp n h) (A:A6 h n=true) (y:C9 h s.hp=some k) (O:Bw (By n h) s.env=some e) (N:CV (By n h) k=some m)
  (D:A6 h q=true) (C:Fu h q=true) (B:t.ok (Jc h)=true) (M:Nat.blt d s.n=true) {p:Hp} (i:some (q++m)=some p):
  AG P F ⟨some d,.call {callee:= .value x,args:=a.toArray,argTypes:=at_},ty,pos,aft,g⟩ s ⟨s.n,(d,t)::e,p⟩ (By n h):=by
 injection i with i
 subst i;intro Y X w I;obtain ⟨fn,V,U,S⟩:=J.1;obtain ⟨us,vs,K,R,Q⟩:=Iy I j;unfold Oper.wp;rw [Lv V U S K,Oper.upon_enter];refine (F4 I J R Q h z A y O N (λr H ⟨G,E⟩=>by subst G E;exact ⟨D,C,B⟩)).mono λb Z ⟨v,r,H,l,G,⟨E,W⟩,o,u,L⟩=>?_;subst G E W;exact ⟨l,u.put (IS M) o,L⟩
theorem Lr {y:D} (J:AM P f c y) (u:Pb s x a=some (f,c)) (L:Nat.blt d s.n=true):
  AA P F ⟨some d,.call {callee:= .value x,args:=a.toArray,argTypes:=at_},ty,pos,aft,g⟩ s d (.d y):=by
 refine ⟨L,Z,λm X w A=>?_⟩;obtain ⟨fn,S,R,Q⟩:=J.1;obtain ⟨us,Y,C,O,N⟩:=Iy A u;unfold Oper.wp;rw [Lv S R Q C,Oper.upon_enter];have p:∀m b,¬BK m [] b:=λm b ⟨_,_,_,h,_⟩=>nomatch h
 let H:Fr:=Fr.mk none (.marks w.heap.size) w (F.O m s.hp) (BK m []) (Cp m []) (λb q=>⟨by
  rcases q with q | q
  .exact ψf (F.hOf b q).1 A.heap.size0
  .exact (A.heap.mine b q).1,p m b⟩) [] (λ_ _ _ h=>D9 h)
 have K:∀n,H.O n []=F.O m s.hp:=λn=>funext λb=>propext ⟨λh=>h.elim id λh=>(p n b h).elim,.inl⟩
 have t:Ba H [] m w:=⟨(λf i o E=>nomatch E),(λf i f' i' o o' b E=>nomatch E),λb q=>(p m b q).elim,Z,Z,Z,Γ _,λ_ _ _=>rfl,λf i b q=>ZcC q,Γ _⟩
 refine (J.2 H m _ Z Z ⟨Z,Z,Z⟩ t O (λi j v M C=>by rw [K];exact N i j v M C)).mono λe I ⟨v,r,H',n,W,⟨V,U⟩,k,l⟩=>?_;subst W V U;have B:∀b,b<w.heap.size ->I.heap[b]? =w.heap[b]?:=λb G=>l.keep b G (p m b);have z:w.heap.size<=I.heap.size:=l.size0;refine ⟨v,Z,?_,A.heap.stay ⟨l.os,l.tape,l.output,ωa A.heap.drawn l.drawn⟩ z B,z,B⟩
 cases k with
 | d k=>rw [K] at k;exact .d k
theorem ZcN (e:LZ s h=some i) (c:Nat.blt d s.n=true):
  AA P F ⟨some d,.makeFunc (.func f) #[] h.toArray,ty,pos,aft,g⟩ s d (.fn f i):=
 Cz _ c λl a w b=>by
  obtain ⟨k,j⟩:=Cb b e;exact ⟨.func (.func f) #[] (h.map a.eval).toArray,by simp [execOp,Instr.makeFunc],.fn k j⟩
theorem Yd {k:List Operand} {A:List AV} {ds es:List D} (G:LZ s k=some i) (E:LZ s h=some A) (y:i=dL ds) (u:A=dL es) (C:Nat.blt d s.n=true):
  AA P F ⟨some d,.makeFunc (.func f) k.toArray h.toArray,ty,pos,aft,g⟩ s d (.d (.fn f ds es)):=
 Cz _ C λp o w z=>by
  obtain ⟨K,J⟩:=Cb z G;obtain ⟨I,H⟩:=Cb z E;subst y u
  have n:∀(l:List D) (b:Nat) c (v:Value) (q:List Value),(∀(b:Nat) a v,(dL l)[b]? =some a ->q[b]? =some v ->A9 w (F.O p s.hp) p a v) ->l[b]? =some c ->q[b]? =some v ->A1 w (F.O p s.hp) c v:=λl b c v q e j m=>by
   have t:(dL l)[b]? =some (.d c):=by
    clear e m
    induction l generalizing b with
    | nil=>simp at j
    | cons x r B=>
     cases b with
     | zero=>simp at j;subst j;rfl
     | succ b=>simpa [dL] using B b (by simpa using j)
   have:=e b _ v t m
   cases this with | d e=>exact e
  exact ⟨.func (.func f) (k.map o.eval).toArray (h.map o.eval).toArray,by simp [execOp,Instr.makeFunc],.d (.fn (by rw [K,J3]) (by rw [I,J3]) (λb c v j m=>n _ b c v _ J j m) λb c v j m=>n _ b c v _ H j m)⟩
end
theorem AT.frozen {P:Program} {f:FuncId} {c:List AV} {b n k:Nat} {E:TypeId} {xs:List D} (h:AT P f c [] λr o=>r= .own b 0 n/\o=[(b,[.rowD E k xs])]) (u:n<=xs.length):AM P f c (.sl none (xs.take n)):=by
 refine ⟨h.1,λF p s B A j z y x=>(h.2 F p s B A j z y x).mono λe q ⟨v,r,o,d,H,⟨G,C⟩,g,w⟩=>?_⟩;subst G C
 have l:SR F ⟨1,[(0,.own b 0 n)],[(b,[.rowD E k xs])]⟩ d {tmps:= #[v],defers:=[]} q:=by
  refine ⟨Z,by rw [j.2.2];exact .nil,λt a m=>?_,w⟩;rcases Mp m with ⟨rfl,rfl⟩ | ⟨_,m⟩
  .exact g
  .cases m
 have I:Nat.beq b b=true:=ψw b;have i:=l.freeze (E:=E) (kk:=k) (xs:=xs) (ys:=xs.take n) (env':=[(0,.top)]) (hp1:=[(b,[.rowD E k xs])]) (hp':=[]) 0 b Z (by simp [hget,hfam,gl,isM]) u Z (by simp [Ac,Bw,AV.ok,AV.okS,Bn]) (by simp [Aa,CV,Ec,CU]) (by simp [C6]) (by simp [hfam]);exact ⟨v,_,[],d,H,⟨Z,Z⟩,i.env 0 _ Z,i.heap⟩
end Go.Proofs.YteifpcnphnhaoaaGreat
