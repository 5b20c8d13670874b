import Derived.Test.YteifpcnphnhaoaaGreatMg8
import Derived.Lib.Strings
namespace Go.Proofs.YteifpcnphnhaoaaGreat
open Go.RowKit
def AS.LeP (F:Fr) (s s':AS):Prop:=s'.n=s.n/\(∃nm l,F.pn=l/\K5 l nm=true/\Bb s.hp nm=some s'.hp)/\∀t a,get s'.env t=some a ->get s.env t=some a
theorem SR.leP {F:Fr} {s e:AS} {d:Nat ->Nat ->Value} {b:Act} {w:World} (h:SR F s d b w) (g:s.LeP F e):SR F e d b w:=by
 obtain ⟨o,⟨f,l,n,m,k⟩,j⟩:=g;have c:=h.only f n m k;refine ⟨o▸c.size,c.defs,λt a i=>c.env t a (j t a i),c.heap⟩
section
variable {P:Program} {F:Fr} {Q:Exit ->AS ->Prop} {s:AS} {c:Code}
theorem CG.leP {b:AS} (h:CG P F c Q b) (f:s.LeP F b):CG P F c Q s:=λd a w e=>h d a w (e.leP f)
theorem AU {n:Nat} {b l:List (Nat×AV)} {f a:Hp} {d:List Nat} (g:F.pn=d) (e:List Nat) (j:K5 d e=true) (i:Bb f e=some a) (h:Sr b l):AS.LeP F ⟨n,b,f⟩ ⟨n,l,a⟩:=⟨Z,⟨e,d,g,j,i⟩,λ_ _=>h.get⟩
theorem BO {α:Type} (h:α ->AS) (I:α ->Prop) (i:α ->Nat) (C:α) (N:I C) (E:s.LeP F (h C))
  (l:∀a,I a ->CG P F c (Then (λo=>∃g,I g/\i g<i a/\o.LeP F (h g)) Q) (h a)):CG P F (.loop c) Q s:=by
 refine CG.leP ?_ E
 let R:AS ->Prop:=λo=>∃a,I a/\o=h a
 refine λd b w p=>?_
 have D:∀n a,i a=n ->I a ->∀d b w,SR F (h a) d b w ->(Code.loop c).wpIn (RJ F.rnd) 0 P (UL F Q) b w:=by
  intro n a _ r d b w p;refine wpIn_loop (λb w=>∃a d,I a/\SR F (h a) d b w) (λb w=>Classical.epsilon λm=>∃a d,I a/\SR F (h a) d b w/\i a=m/\∀g f,I g ->SR F (h g) f b w ->m<=i g) ⟨a,d,r,p⟩ ?_;intro b w r
  have j:∀b w,(∃a d,I a/\SR F (h a) d b w) ->∃m,∃a d,I a/\SR F (h a) d b w/\i a=m/\∀g f,I g ->SR F (h g) f b w ->m<=i g:=λb w ⟨a,d,B,A⟩=>by
   have J:∀n a d,i a=n ->I a ->SR F (h a) d b w ->∃m,∃a d,I a/\SR F (h a) d b w/\i a=m/\∀g f,I g ->SR F (h g) f b w ->m<=i g:=by
    intro n
    induction n using Nat.strongRecOn with
    | _ n H=>
     grind
   grind
  obtain ⟨a,d,B,A,M,L⟩:=Classical.epsilon_spec (j b w r);refine Go.wpIn_mono (l a B d b w A) λe k v ⟨o,f,z,t⟩=>?_
  cases e with
  | normal=>
   obtain ⟨g,y,K,x⟩:=z
   have q:∃a d,I a/\SR F (h a) d k v:=⟨g,f,y,t.leP x⟩
   refine ⟨q,?_⟩;obtain ⟨_,_,_,_,_,u⟩:=Classical.epsilon_spec (j k v q);have G:=u g f y (t.leP x);omega
  | _=>exact ⟨o,f,z,t⟩
 grind
end
section
variable {P:Program} {F:Fr} {s:AS} {d:Nat} {ty T T2 E:TypeId} {pos:String} {aft:Array Edge} {g:Option (Nat×Bool)} {x y:Operand} {α:Type} {emb:α ->D}
variable {a:List (Nat×AV)} {c e:List (Nat×List AN)} {f h:List D}
theorem Eu (l k:List α) {i j n p o f2 t m:Nat} (v:s.ev x=some (.own i j n)) (w:hget s.hp i j=some (.rowD E p f)) (B:f=l.map emb) (z:n=l.length)
  (u:s.ev y=some (.own f2 t m)) (q:hget s.hp f2 t=some (.rowD E p h)) (r:h=k.map emb) (A:m=k.length)
  (S:SlTy P T E p o) (G:(l.length+k.length)*o<=140737488355328) (I:Ac i s.env=some a) (H:Aa i s.hp=some c) (C:B7 c i j (.rowD E p ((l++k).map emb))=some e) (D:Nat.blt d s.n=true):
  AG P F ⟨some d,.call {callee:= .builtin .append,args:= #[x,y],argTypes:= #[T,T]},ty,pos,aft,g⟩ s ⟨s.n,(d,.own i j (l++k).length)::a,e⟩ (Bn i):=by
 subst z A B r;have b:=Ff (ty:=ty) (pos:=pos) (aft:=aft) (g:=g) (F:=F) (zs:=(l++k).map emb) v u w (by simp) q Z (by simp) S G I H (by rw [θ (by simp),θ (by simp),Ω]) C D
 grind
theorem QR (l m:List α) {b j n o k:Nat} {p:Option Bool} (t:s.ev x=some (.own b j n)) (u:hget s.hp b j=some (.rowD E o f)) (w:f=l.map emb) (v:n=l.length)
  (r:s.ev y=some (.d (.sl p h))) (q:h=m.map emb) (z:∀i,(emb i).cells.length=o)
  (S:SlTy P T E o k) (C:(l.length+m.length)*k<=140737488355328) (G:Ac b s.env=some a) (D:Aa b s.hp=some c) (A:B7 c b j (.rowD E o ((l++m).map emb))=some e) (B:Nat.blt d s.n=true):
  AG P F ⟨some d,.call {callee:= .builtin .append,args:= #[x,y],argTypes:= #[T,T]},ty,pos,aft,g⟩ s ⟨s.n,(d,.own b j (l++m).length)::a,e⟩ (Bn b):=by grind [Vw]
end
section
variable {P:Program} {F:Fr} {s:AS} {d:Nat} {ty T E:TypeId} {pos:String} {aft:Array Edge} {g:Option (Nat×Bool)} {x lo hi:Operand} {α:Type} {emb:α ->D} {nil:Option Bool} {xs:List D} {kk:Nat}
variable {a:IntKind} {c:Int}
theorem D6 (l:List α) (k:Nat) (h:s.ev x=some (.d (.sl nil xs))) (e:xs=l.map emb) (f:s.ev lo=some (.d (.raw (.int a c)))) (i:c=(k:Int)) (p:k<=l.length) (n:P.underlying T=some (.slice E)) (o:A5 P E kk=true) (j:∀b,(emb b).cells.length=kk) (m:Nat.blt d s.n=true):
  AA P F ⟨some d,.slice T x (some lo) none none,ty,pos,aft,g⟩ s d (.d (.sl nil ((l.drop k).map emb))):=by grind [Vr,List.map_drop]
theorem Zch (l:List α) (k:Nat) (h:s.ev x=some (.d (.sl nil xs))) (e:xs=l.map emb) (f:s.ev hi=some (.d (.raw (.int a c)))) (i:c=(k:Int)) (p:k<=l.length) (n:P.underlying T=some (.slice E)) (o:A5 P E kk=true) (j:∀b,(emb b).cells.length=kk) (m:Nat.blt d s.n=true):
  AA P F ⟨some d,.slice T x none (some hi) none,ty,pos,aft,g⟩ s d (.d (.sl nil ((l.take k).map emb))):=by grind [Vs,List.map_take]
end
section
variable {P:Program} {F:Fr} {s:AS} {d:Nat} {ty T T':TypeId} {pos:String} {aft:Array Edge} {g:Option (Nat×Bool)} {x y:Operand}
theorem strEq (a b:List UInt8):((⟨a.toArray⟩:ByteArray).toList=(⟨b.toArray⟩:ByteArray).toList)↔a=b:=by
 rw [Lib.toList_data,Lib.toList_data]
theorem KO {a b:List UInt8} (e:s.ev x=some (.d (Aq a))) (c:s.ev y=some (.d (Aq b))) (f:Nat.blt d s.n=true):AA P F ⟨some d,.binOp .eql T x y T',ty,pos,aft,g⟩ s d (.d (.raw (.bool (decide (a=b))))):=by grind [st_eqlS,strEq]
theorem DH {a b:List UInt8} (e:s.ev x=some (.d (Aq a))) (c:s.ev y=some (.d (Aq b))) (f:Nat.blt d s.n=true):AA P F ⟨some d,.binOp .neq T x y T',ty,pos,aft,g⟩ s d (.d (.raw (.bool (decide (¬a=b))))):=by grind [st_neqS,strEq]
end
section
variable {P:Program} {F:Fr} {s:AS} {d:Nat} {ty T E:TypeId} {pos:String} {aft:Array Edge} {g:Option (Nat×Bool)} {x y:Operand} {α:Type} {emb:α ->D}
theorem FW {n:Nat} {b:List (Nat×AV)} {h:List (Nat×List AN)} (l:List α) (a:α) {f j e:Nat} {t:TypeId} {m:List D} {v:D} {c:Hp} (p:AS.ev ⟨n,b,h⟩ x=some (.rptr f j 1 e 0)) (o:AS.ev ⟨n,b,h⟩ y=some (.d v)) (i:v=emb a) (q:v.one=true) (r:hget h f j=some (.rowD t 1 m)) (u:m=l.map emb) (k:e<l.length)
  (w:B7 h f j (.rowD t 1 ((l.set e a).map emb))=some c) (z:A5 P T 1=true):
  AG P F ⟨none,.store T x y,ty,pos,aft,g⟩ ⟨n,b,h⟩ ⟨n,b,c⟩ (λ_ _=>true):=by
 subst u i;exact Sg p o q r Z (by simpa using k) List.map_set.symm w z
end
variable {a:Nat ->Prop} {c:Nat ->Nat ->Value} {w:World} {d:Value} {e:List D} {f:Act} {E:TypeId} {g:List D} {s:AS} {F:Fr}
theorem AM.weak {P:Program} {f:FuncId} {b:List AV} {x y:D} (h:AM P f b x) (k:∀w O v,A1 w O x v ->A1 w O y v):AM P f b y:=
 ⟨h.1,λF i j q p g o n m=>(h.2 F i j q p g o n m).mono λe z ⟨v,r,A,c,u,⟨t,s⟩,a,l⟩=>by
  subst t s
  cases a with
  | d a=>exact ⟨v,_,[],c,u,⟨Z,Z⟩,.d (k _ _ _ a),l⟩⟩
theorem A1.anyNil {n:Option Bool} (h:A1 w a (.sl n e) d):A1 w a (.sl none e) d:=by
 cases h with
 | sl k m c b j g i l f=>exact .sl k (λ_ h=>nomatch h) c b j g i l f
theorem A1.aggMono {e b:List D} (h:A1 w a (.agg e) d) (k:b.length=e.length) (g:∀c∈b,c.one=true) (m:∀(i:Nat) c f,e[i]? =some c ->b[i]? =some f ->∀d,A1 w a c d ->A1 w a f d):A1 w a (.agg b) d:=by
 cases h with
 | agg p o n=>
  refine .agg (by omega) g λi f d l j=>?_
  grind
theorem WP (h:SR F s c f w) {k j n z:Nat} {hp':Hp} (M:hget s.hp k j=some (.rowD E z e)) (hn:n<=e.length) (t:e.take n=g)
  (T:∀b,F.O c hp' b ->F.O c s.hp b) (S:∀b,Bu (c k j)=some b ->¬F.O c hp' b) (L:A9 w a c (.own k j n) d):A1 w (F.O c hp') (.sl none g) d:=by
 obtain ⟨Z,m,X,J,g1,I,V,H,U⟩:=h.rowD M
 cases L with
 | own r P=>
  rw [J] at r;injection r with e2 e3 e4
  subst e2 e3 e4;refine .sl z (λ_ h=>nomatch h) H.2.2 (by rw [<-t,ϱ];omega) (by omega) H.2.1 (λy C=>I.2.1 y (by rw [<-t] at C;exact ωs C)) (λN=>?_) (λb o A i y C=>?_)
  .grind [Nat.eq_zero_or_pos]
  .have p:e[i]? =some y:=by
    grind
   have Q:i<e.length:=(φ.1 p).1;obtain ⟨B,x,W,K,c2,Y⟩:=U (by omega);rw [x] at A;injection A with A;injection A with hb1 hb2;subst hb1 hb2
   subst x;have D:B<w.heap.size:=(ωn.1 K).1
   have R:∀(q:Nat) l,y.cells[q]? =some l ->∃u,w.cell? ⟨B,0+i*z+q,none⟩=some u/\A1 w (F.O c hp') l u:=λq l G=>by
    obtain ⟨u,d1,d2,d3⟩:=I.2.2 i y p q l G;exact ⟨u,by rw [ψu];exact Do K Y d1,d3.mono (Γ _) (λ_ _ _=>rfl) λb _=>T b⟩
   refine .ptr (λq=>(w.cell? ⟨B,0+i*z+q,none⟩).getD undef) D (S B (by rw [J];rfl)) (V y (ξ p)) (λq l G=>?_) (λq l G=>?_)
   .grind
   grind
theorem SR.freezeC (h:SR F s c f w) (a i v k:Nat) {n M:Nat} {t:TypeId} {K x y:List AV} {r:List (Nat×AV)} {B o hp':Hp}
  (U:hget s.hp a i=some (.blk t K)) (Y:K[v]? =some (.own k 0 n)) (q:hfam s.hp k=some [.rowD E M e]) (V:n<=e.length) (H:e.take n=g)
  (hE:Ac k s.env=some r) (hH:Aa k s.hp=some B) (X:C6 k B=some o) (D:hget o a i=some (.blk t x)) (I:Eh x v [.d (.sl none g)]=some y) (z:B7 o a i (.blk t y)=some hp'):SR F ⟨s.n,r,hp'⟩ c f w:=by
 have C:hget s.hp k 0=some (.rowD E M e):=by simp [hget,q,gl,isM]
 obtain ⟨N,h2,h3⟩:=h.forget k hE hH X (λi t K l=>by
  simp only [hget,q,χk,gl,isM] at l
  cases i<;>simp at l)
 refine N.write a i (.blk t x) (.blk t y) D (BB z) Z Z Z Z (λ_ _=>rfl) (λ_ _ _=>⟨_,_,Z⟩) λA=>?_;obtain ⟨b,L,P,O,e3,e4,e5⟩:=N.heap.sim a i _ D;obtain ⟨b',G,f1,f2,f3,f4,f5⟩:=h.heap.sim a i _ U;rw [P] at f1;injection f1 with f1;injection f1 with f1;injection f1 with f1;subst f1
 rw [O] at f2;injection f2 with f2;injection f2 with f2
 have:L=G:=by simpa using ωm Array.toList f2
 subst this;obtain ⟨s1,R,Q⟩:=DX _ _ _ _ I;refine ⟨b,L,P,O,by rw [e3,R],λj m u p S=>?_,e5⟩;rw [Q] at p
 split at p
 .rename_i W
  have J:j=v:=by simp at W;omega
  subst J
  simp at p;subst p
  have T:=WP h (hp':=o) C V H h2 (λb hb=>h3 0 _ b C hb) (f4 j _ u Y S);exact A _ _ (.d T)
 grind
section
variable {P:Program} {F:Fr} {Q:Exit ->AS ->Prop} {s:AS} {c:Code} {ops:Array Oper} {l l':List Oper}
variable {a:List (Nat×List AN)} {d:List (Nat×AV)} {e:Nat} {f:List (Nat×AV)} {g:List D} {n:Option Bool} {E:TypeId} {h:Type} {x:D} {i j:Hp} {k m:Nat}
theorem Va (o b q p:Nat) {t:TypeId} {ys:List D} {B w x:List AV} {r:Hp}
  (G:hget a o b=some (.blk t B)) (J:B[q]? =some (.own p 0 m)) (v:hfam a p=some [.rowD E k g]) (H:m<=g.length) (y:g.take m=ys)
  (L:Ac p d=some f) (K:Aa p a=some i) (I:C6 p i=some r) (A:hget r o b=some (.blk t w)) (z:Eh w q [.d (.sl none ys)]=some x) (u:B7 r o b (.blk t x)=some j) (h:CG P F c Q ⟨e,f,j⟩):CG P F c Q ⟨e,d,a⟩:=λ_ _ _ C=>h _ _ _ (C.freezeC o b q p G J v H y L K I A z u)
theorem KP {emb:h ->D} (t o:Nat) (l:List h) (r:get d t=some (.own o 0 m)) (p:hfam a o=some [.rowD E k g]) (q:g=l.map emb) (u:m=l.length) (x:Ac o d=some f) (w:Aa o a=some i) (v:C6 o i=some j)
  (b:CG P F c Q ⟨e,(t,.d (.sl none (l.map emb)))::f,j⟩):CG P F c Q ⟨e,d,a⟩:=by grind [fy,hget,gl,isM]
theorem Vb {emb:h ->D} (t o:Nat) (l:List h) (r:get d t=some (.own o 0 m)) (p:hfam a o=some [.rowD E k g]) (q:g=l.map emb) (u:m=l.length) (x:Ac o d=some f) (w:Aa o a=some i) (v:C6 o i=some j)
  (b:Ao P F ops l' Q ⟨e,(t,.d (.sl none (l.map emb)))::f,j⟩):Ao P F ops l' Q ⟨e,d,a⟩:=by grind [dF,hget,gl,isM]
theorem SR.weakD {F:Fr} {s:AS} {g:Nat ->Nat ->Value} {b:Act} {w:World} (h:SR F s g b w) (t:Nat) (y:D) (k:get s.env t=some (.d x)) (j:∀w O v,A1 w O x v ->A1 w O y v):SR F ⟨s.n,(t,.d y)::s.env,s.hp⟩ g b w:=by
 refine ⟨h.size,h.defs,λi a f=>?_,h.heap⟩;rcases Mp f with ⟨rfl,rfl⟩ | ⟨_,f⟩
 .have e:=h.env t _ k
  generalize b.tmps.getD t undef=v at e
  cases e with
  | d e=>exact .d (j _ _ _ e)
 .exact h.env i a f
theorem a_weakD (t:Nat) (y:D) (f:get d t=some (.d x)) (b:∀w O v,A1 w O x v ->A1 w O y v) (h:CG P F c Q ⟨e,(t,.d y)::d,a⟩):CG P F c Q ⟨e,d,a⟩:=λ_ _ _ g=>h _ _ _ (g.weakD t y f b)
theorem Xl (t:Nat) (y:D) (f:get d t=some (.d x)) (b:∀w O v,A1 w O x v ->A1 w O y v) (h:Ao P F ops l Q ⟨e,(t,.d y)::d,a⟩):Ao P F ops l Q ⟨e,d,a⟩:=λ_ _ _ g=>h _ _ _ (g.weakD t y f b)
theorem VX (t:Nat) (b:get d t=some (.d (.sl n g))) (h:CG P F c Q ⟨e,(t,.d (.sl none g))::d,a⟩):CG P F c Q ⟨e,d,a⟩:=a_weakD t _ b (λ_ _ _ h=>h.anyNil) h
theorem Yb (t:Nat) (b:get d t=some (.d (.sl n g))) (h:Ao P F ops l Q ⟨e,(t,.d (.sl none g))::d,a⟩):Ao P F ops l Q ⟨e,d,a⟩:=Xl t _ b (λ_ _ _ h=>h.anyNil) h
end
section
variable {P:Program} {F:Fr} {Q:Exit ->AS ->Prop} {c:Code} {ops:Array Oper} {l:List Oper}
end
variable {P:Program} {a:Nat}
abbrev DU (l:Nat):Value:= .func (.yield l) #[] #[]
def gE (P:Program) (l:Nat) (vs:List Value) (w:World) (R:Ending ->World ->Prop):Prop:=
 ∃r:Loop,w.heap[l]? =some (.loop r)/\vs.length=r.params.size/\RoundIn Fence.wide 0 P l r.fn ((r.params.zip vs.toArray).foldl (λtmps (t,a)=>tmps.setIfInBounds t a) r.tmps) r.assign r.body w R
theorem gE.mono {b:List Value} {w:World} {R c:Ending ->World ->Prop} (h:gE P a b w R) (d:∀e w',R e w' ->c e w'):gE P a b w c:=by
 obtain ⟨r,i,g,f⟩:=h;exact ⟨r,i,g,f.mono d⟩
def Gk (P:Program) (l:Nat) (args:List AV) (H:Hp) (R:AV ->Hp ->Prop):Prop:=
 ∀(F:Fr) (ρ:Nat ->Nat ->Value) (vs:List Value),F.own0=BK ρ H ->F.pin=Cp ρ H ->F.top H ->Ba F H ρ F.w0 ->vs.length=args.length ->(∀(i:Nat) a v,args[i]? =some a ->vs[i]? =some v ->A9 F.w0 (F.O ρ H) ρ a v)→
  gE P l vs F.w0 λe w'=>∃v r H' ρ',e= .returned v/\R r H'/\A9 w' (F.O ρ' H') ρ' r v/\Ba F H' ρ' w'
theorem Gk.mono {e:List AV} {H:Hp} {R j:AV ->Hp ->Prop} (h:Gk P a e H R) (n:∀r f,R r f ->j r f):Gk P a e H j:=
 λF k m t s i q p o=>(h F k m t s i q p o).mono λ_ _ ⟨v,r,f,g,d,b,c⟩=>⟨v,r,f,g,d,n _ _ b,c⟩
section
variable {P:Program} {F:Fr} {s:AS} {Q:Exit ->AS ->Prop}
variable {a:List (Nat×AV)} {R:AV ->Hp ->Prop} {c:Array TypeId} {d:List Operand} {e:Array Edge} {w:World} {f:List AV} {g:Nat} {h:String} {i:TypeId} {x:Operand} {j:Act} {k m n:Hp}
theorem Vg {q:Nat ->Nat ->Value} (u:SR F s q j w) (T:Gk P g f m R) {D:List Value} (y:D.length=f.length) (G:∀(i:Nat) c v,f[i]? =some c ->D[i]? =some v ->A9 w (F.O q s.hp) q c v)
  (h:List Nat) (z:CP s.hp m h) (A:A6 h m=true) (H:C9 h s.hp=some k) (X:Bw (By m h) s.env=some a) (W:CV (By m h) k=some n)
  (U:∀r p,R r p ->A6 h p=true/\Fu h p=true/\r.ok (Jc h)=true):
  gE P g D w λe E=>∃v r p d,e= .returned v/\R r p/\A9 E (F.O d (p++n)) d r v/\SR F ⟨s.n,a,p++n⟩ d j E/\∀b i,By m h b i=true ->d b i=q b i:=by
 obtain ⟨C,o,V⟩:=F1 (.marks w.heap.size) u.heap h z A;refine (T (Bs F (.marks w.heap.size) s.hp m q w C) q D Z Z ⟨Z,Z,Z⟩ o y (λi c v J O=>by rw [V];exact G i c v J O)).mono λe E ⟨v,r,p,K,e1,B,x,I⟩=>?_;obtain ⟨N,M,L⟩:=U r p B;obtain ⟨d,g1,g2,g3,g4,g5,g6,g7⟩:=KD u.heap h z A H W C o I N M;refine ⟨v,r,p,d,e1,B,g2 r v (λb i S=>G4.1 (AV.ok_spec L S)) x,⟨u.size,u.defs.mono g5 g6 g7,λt c J=>?_,g1⟩,g4⟩;rcases De X J with rfl | ⟨h1,Y⟩
 .exact .top
 .exact g3 _ _ Y (u.env t c h1)
theorem WA {r:Loop} {k:Option Nat} {f:Option (Nat×Bool)} (n:j.eval x=DU g) (b:w.heap[g]? =some (.loop r)) (o:(d.map j.eval).length=r.params.size):
  (execOp j.eval ⟨k,.call {callee:= .value x,args:=d.toArray,argTypes:=c},i,h,e,f⟩).run P w= .ok (.round g r.fn ((r.params.zip (d.map j.eval).toArray).foldl (λm (t,a)=>m.setIfInBounds t a) r.tmps) r.assign r.body) w:=by simp [*,run_yield,execOp,resolve,Deferred.ofValue,invoke]
theorem T5 {r:Option Nat} {n i:Nat} {f:FuncId} {d:Array Value} {a b:Code} {R:Ending ->World ->Prop} (h:RoundIn Fence.wide n P g f d a b w R):RoundIn (RJ r) i P g f d a b w R:=by
 cases r with
 | none=>exact ⟨trivial,λc e _=>h.2 c e (room_wide _)⟩
 | some _=>exact ⟨trivial,λc e _=>h.2 c e (room_wide _)⟩
theorem Tv {m:Array Oper} {b:List Oper} {l d:Nat} {x:Operand} {E:List Operand} {args:List AV} {p:Hp} {R:AV ->Hp ->Prop} {C:Array TypeId} {H:TypeId} {q:String} {D:Array Edge} (J:s.ev x=some (.d (.raw (DU l)))) (j:LZ s E=some args) (O:Gk P l args p R)
  (c:List Nat) (z:CP s.hp p c) (A:A6 c p=true) {a f:Hp} {g:List (Nat×AV)} (y:C9 c s.hp=some a) (V:Bw (By p c) s.env=some g) (U:CV (By p c) a=some f)
  (S:∀r i,R r i ->A6 c i=true/\Fu c i=true/\r.ok (Jc c)=true) (N:Nat.blt d s.n=true)
  (T:∀r i,R r i ->Ao P F m b Q ⟨s.n,(d,r)::g,i++f⟩):
  Ao P F m (⟨some d,.call {callee:= .value x,args:=E.toArray,argTypes:=C},H,q,D,none⟩::b) Q s:=λρ o w u=>
 wpListIn_plain Z λK M=>by
  obtain ⟨h4,h5⟩:=Cb u j
  have L:o.eval x=DU l:=by
   have:=u.ev J
   generalize o.eval x=v at this
   cases this with
   | d this=>cases this with | raw _=>rfl
  obtain ⟨r,Y,X,W⟩:=Vg u O h4 h5 c z A y V U S;refine ⟨λ_ _=>trivial,?_⟩;rw [Q4 _ _ _ Z,WA L Y X,Oper.uponIn_round];refine ⟨(λh=>by cases h),T5 (W.mono λe G ⟨v,I,i,k,e1,B,n,t,_⟩=>?_)⟩;subst e1;exact M _ _ (T I i B k _ G (t.put (IS N) n))
end
variable {a:Nat ->Nat ->Value} {w:World} {F:Fr} {c:Act} {Q:Exit ->AS ->Prop} {s:AS} {P:Program} {d H:Hp}
theorem Ba.rnd (h:Ba F d a w) (r:Option Nat):Ba {F with rnd:=r} d a w:=
 ⟨h.sim,h.inj,h.mine,h.os,h.tape,h.output,h.size0,h.keep,h.pins,h.drawn⟩
theorem Ba.unrnd {r:Option Nat} (h:Ba {F with rnd:=r} d a w):Ba F d a w:=
 ⟨h.sim,h.inj,h.mine,h.os,h.tape,h.output,h.size0,h.keep,h.pins,h.drawn⟩
theorem W9 {l:Nat ->Nat ->Value} (e:SR F s a c w) {m:List Nat} {k:Hp} (C:F.pin=Cp l H) (n:Bb s.hp m=some k) (q:A6 m H=true):Ba F k a w:=by
 obtain ⟨B,K⟩:=ER n
 have d:∀f i o,hget k f i=some o ->hget s.hp f i=some o:=λf i o g=>by
  simp only [hget] at g⊢
  cases hf:hfam k f with
  | none=>rw [hf] at g;cases g
  | some x=>rw [(B f x hf).2];rw [hf] at g;exact g
 have h:∀b,BK a k b ->BK a s.hp b:=λb ⟨f,i,o,u,A⟩=>⟨f,i,o,d f i o u,A⟩
 have E:∀b,b<w.heap.size ->F.O a k b ->F.O a s.hp b:=λb _ j=>j.imp id (h b);refine ⟨λf i o g=>(e.heap.sim f i o (d f i o g)).mono (Γ _) (λ_ _ _=>rfl) E (λ_ _=>rfl) (λ_ _ _=>rfl),λf i z y o v b g p=>e.heap.inj f i z y o v b (d f i o g) (d z y v p),λb j=>e.heap.mine b (h b j),e.heap.os,e.heap.tape,e.heap.output,e.heap.size0,e.heap.keep,λf i b j=>?_,e.heap.drawn⟩;obtain ⟨u,t,I,A⟩:=e.heap.pins f i b j;refine ⟨u,t,I,?_⟩;rw [C] at j;obtain ⟨_,J,G,r⟩:=ZcC j
 have D:f∈m:=by
  simp only [hget] at r
  cases hf:hfam H f with
  | none=>rw [hf] at r;cases r
  | some x=>exact GY q hf
 grind [hget]
def Jq (n:Nat):List Tmp ->List AV ->List (Nat×AV) ->Option (List (Nat×AV))
 | [],[],env=>some env
 | t::ts,a::as,env=>match Nat.blt t n with
  | true=>Jq n ts as ((t,a)::env)
  | false=>none
 | _,_,_=>none
theorem Mz {w:World} {O:Nat ->Prop} {ρ:Nat ->Nat ->Value} {n:Nat}:∀{d:List Tmp} {f:List AV} {c b:List (Nat×AV)} {vs:List Value} {tmps:Array Value},Jq n d f c=some b ->vs.length=f.length ->(∀(i:Nat) a v,f[i]? =some a ->vs[i]? =some v ->A9 w O ρ a v)→
  tmps.size=n ->(∀t a,get c t=some a ->A9 w O ρ a (tmps.getD t undef))→
  d.length=f.length/\((d.zip vs).foldl (λtmps (t,a)=>tmps.setIfInBounds t a) tmps).size=n/\∀t a,get b t=some a ->A9 w O ρ a (((d.zip vs).foldl (λtmps (t,a)=>tmps.setIfInBounds t a) tmps).getD t undef)
 | [],[],c,b,vs,tmps,h,j,g,e,k=>by
  simp only [Jq,Option.some.injEq] at h;subst h;exact ⟨Z,by simpa using e,by simpa using k⟩
 | t::d,a::f,c,b,v::vs,tmps,h,j,g,e,k=>by
  simp only [Jq] at h
  split at h
  .rename_i m
   have m:=IS m
   obtain ⟨u,s,r⟩:=Mz (tmps:=tmps.setIfInBounds t v) (vs:=vs) h (by simpa using j) (λi a v l q=>g (i+1) a v (by simpa using l) (by simpa using q)) (by simpa using e) (λp x l=>by
    rcases Mp l with ⟨rfl,rfl⟩ | ⟨o,l⟩
    .have:=g 0 _ v Z Z;rw [ψh];simp [e,m];exact this
    .have:=k p x l;rw [ψh] at this⊢
     rw [Array.getElem?_setIfInBounds_ne o];exact this)
   exact ⟨by simp [u],s,r⟩
  .cases h
 | t::d,a::f,c,b,[],tmps,h,j,g,e,k=>by simp at j
 | [],a::f,c,b,vs,tmps,h,j,g,e,k=>by simp [Jq] at h
 | t::d,[],c,b,vs,tmps,h,j,g,e,k=>by simp [Jq] at h
def PD:Exit ->Option (Option Code)
 | .normal=>some none
 | .ret=>some (some .ret)
 | .exit id=>some (some (.exit id))
 | .goto t=>some (some (.goto t))
 | _=>none
def IL.fin (L:IL) (j:Option Code):IL:={L with st:=if j.isNone then .ready else .done,pend:=j}
def IL.busy (L:IL):IL:={L with st:= .busy}
def gF (l lf:Nat) (H:Hp) (R:AV ->Hp ->Prop) (e:Exit) (s:AS):Prop:=
 ∃j L hpe nm H',PD e=some j/\hget s.hp lf 0=some (.loop L)/\L.id=l/\B7 s.hp lf 0 (.loop (L.fin j))=some hpe/\Bb hpe nm=some H'/\A6 nm H=true/\R (.d (.raw (.bool j.isNone))) H'
variable {L:IL}
theorem SR.setLoop (m:SR F s a c w) {j:Nat} {h:Hp} {st:LoopState} {pd:Option Code} (n:hget s.hp j 0=some (.loop L)) (f:B7 s.hp j 0 (.loop {L with st:=st,pend:=pd})=some h):
  ∃r:Loop,w.heap[L.id]? =some (.loop r)/\r.state=L.st/\r.pending=L.pend/\SR F ⟨s.n,s.env,h⟩ a c (w.putObj L.id (.loop {r with state:=st,pending:=pd})):=by
 obtain ⟨r,p,o,⟨y,l,i⟩,x,v⟩:=m.heap.sim j 0 _ n;have k:L.id<w.heap.size:=(ωn.1 o).1;refine ⟨r,o,y,l,m.write j 0 _ (.loop {L with st:=st,pend:=pd}) n (BB f) Z Z Z World.putObj_size (λb q=>World.putObj_heap_other λe=>q (by rw [p,e];rfl)) (λt z e=>by cases e) λg=>?_⟩;exact ⟨{r with state:=st,pending:=pd},p,World.putObj_heap_same k,⟨Z,Z,i⟩,x,λt d u=>g _ _ (v t d u)⟩
theorem Sw {l lf:Nat} {g:List AV} {b:List (Nat×AV)} {R:AV ->Hp ->Prop} (hL:hget H lf 0=some (.loop L)) (E:L.id=l) (_:L.st= .ready) (D:Jq L.n L.ps.toList g L.env=some b)
  (h:∀F:Fr,F.pn=hpN H ->F.rnd=some l ->CG P F L.asg (λe s=>e= .normal/\∃m k,hget s.hp lf 0=some (.loop m)/\m.id=l/\m.st= .ready/\B7 s.hp lf 0 (.loop m.busy)=some k/\CG P F L.body (gF l lf H R) ⟨s.n,s.env,k⟩) ⟨L.n,b,H⟩):Gk P l g H R:=by
 intro F ρ vs h1 h2 u N h4 h5;obtain ⟨r,g1,g2,⟨g3,g4,g5,g6,g7⟩,g8,g9⟩:=N.sim lf 0 _ hL;subst E;obtain ⟨k1,k2,k3⟩:=Mz (ρ:=ρ) (w:=F.w0) (O:=F.O ρ H) (tmps:=r.tmps) (vs:=vs) D h4 h5 g8 g9
 have hz:(r.params.zip vs.toArray).foldl (λtmps (t,a)=>tmps.setIfInBounds t a) r.tmps=(L.ps.toList.zip vs).foldl (λtmps (t,a)=>tmps.setIfInBounds t a) r.tmps:=by
  rw [g5,<-Array.foldl_toList,Array.toList_zip]
 refine ⟨r,g2,?_,?_⟩
 .grind
 rw [hz,g6,g7]
 let Q:Fr:={F with rnd:=some L.id}
 have A:SR Q ⟨L.n,b,H⟩ ρ {tmps:=(L.ps.toList.zip vs).foldl (λtmps (t,a)=>tmps.setIfInBounds t a) r.tmps,defers:=[]} F.w0:=⟨k2,(by show IC F.lo _ _ _;rw [u.2.2];exact .nil),k3,N.rnd _⟩
 have hw:=h Q u.1 Z ρ _ _ A;refine roundIn_of_wpIn trivial (Go.wpIn_mono (F:=Fence.wide.inRound L.id) hw λe a w C=>?_);obtain ⟨s,x,⟨rfl,m,k,W,J,V,U,T⟩,hs⟩:=C;obtain ⟨r1,K,Y,X,q⟩:=hs.setLoop W (st:= .busy) (pd:=m.pend) U;rw [J] at K;refine ⟨_,run_beginRound K (Y.trans V),?_⟩;rw [J,<-X] at q;refine Go.wpIn_mono (F:=Fence.wide.inRound L.id) (T x _ _ q) λe a w C=>?_;obtain ⟨s2,o,⟨j,L2,hpe,nm,n,c,j2,z,j3,j4,j5,j6⟩,B⟩:=C;obtain ⟨S,M,m2,m3,p⟩:=B.setLoop j2 (st:=if j.isNone then .ready else .done) (pd:=j) j3;rw [z] at M p;have hh:Ba F n o (w.putObj L.id (.loop {S with state:=if j.isNone then .ready else .done,pending:=j})):=(W9 p h2 j4 j5).unrnd
 have f:∃v y,(Instr.endRound L.id j).run P w= .ok v y/\∃G I n i,Ending.returned v= .returned G/\R I n/\A9 y (F.O i n) i I G/\Ba F n i y:=
  ⟨_,_,run_endRound j M,_,_,n,o,Z,j6,.d (.raw Z),hh⟩
 cases e with
 | normal=>simp only [PD,Option.some.injEq] at c;subst c;exact f
 | ret=>simp only [PD,Option.some.injEq] at c;subst c;exact f
 | exit id=>simp only [PD,Option.some.injEq] at c;subst c;exact f
 | goto t=>simp only [PD,Option.some.injEq] at c;subst c;exact f
 | panic _=>cases c
 | outgrown=>cases c
theorem SR.grow (g:SR F s a c w) (o:Obj):SR F s a c (w.alloc o):=by
 have f:w.heap.size<=(w.alloc o).heap.size:=by rw [World.size_alloc];omega
 have i:∀b,b<w.heap.size ->(w.alloc o).heap[b]? =w.heap[b]?:=λb e=>by
  show (w.heap.push o)[b]? =_
  grind
 exact ⟨g.size,g.defs.mono f (λb e _=>i b e) (λ_ _ h=>h),λt d j=>(g.env t d j).mono f (λb e _=>i b e) (λ_ _ h=>h) (λ_ _ _=>rfl),g.heap.stay ⟨Z,Z,Z,g.heap.drawn⟩ f i⟩
theorem Ba.ltO (h:Ba F d a w) {b:Nat} (c:F.O a d b):b<w.heap.size:=by
 rcases c with c | c
 .exact ψf (F.hOf b c).1 h.size0
 .exact (h.mine b c).1
theorem SR.mark (h:SR F s a c w) (e:F.lo.le F.w0.heap.size):SR F s a {c with defers:=Jy w.heap.size::c.defers} (w.alloc (.deferred (some []))):=by
 obtain ⟨m,d,e⟩:∃m,F.lo= .marks m/\m<=F.w0.heap.size:=by
  cases hl:F.lo with
  | marks m=>rw [hl] at e;exact ⟨m,Z,e⟩
  | exact L=>rw [hl] at e;exact e.elim
 have i:=h.grow (.deferred (some []));have g:=i.defs;have f:=h.defs;rw [d] at g f;obtain ⟨n,r,p,t⟩:=g;obtain ⟨l,q,_,k⟩:=f
 have j:n=l:=by
  grind [List.map_inj_right,Jy]
 subst j;refine ⟨i.size,?_,i.env,i.heap⟩;rw [d];refine ⟨w.heap.size::n,by rw [r];rfl,φh.2 ⟨λd=>φe _ (k _ d).2.1,p⟩,λb d=>?_⟩;rcases Υ.1 d with rfl | d
 .exact ⟨ωa e h.heap.size0,by rw [World.size_alloc];omega,λo=>φe _ (h.heap.ltO o),by show (w.heap.push _)[w.heap.size]? =_;simp⟩
 grind
theorem VV {P:Program} {F:Fr} {s:AS} {Q:Exit ->AS ->Prop} {γ:Type} {g:Operand} {V:Array Tmp} {assign body:Code} {a:AV} {f:FuncId} {J:List AV} (hF:F.flat) (hfn:YO a=some (f,J)) (k:Nat) {j o:List (Nat×AV)} (hg:AS.ev ⟨s.n,j,s.hp⟩ g=some a) {S u q:Hp} {hp' CH:Nat ->Hp} {RR:γ ->Prop} {H2 hpf:γ ->Hp} {pd:γ ->Option Code} (B:Nat ->γ ->IL)
  (hE:Ac k s.env=some j) (hH:Aa k s.hp=some S) (hn:∀l,Cj S k (.loop ⟨l,s.n,j,.ready,none,V,assign,body⟩)=some (hp' l))
  (hc:∀l,AT P f (.d (.raw (DU l))::J) (CH l) λr H'=>r= .tup []/\∃y,RR y/\H'=(k,[.loop (B l y)])::H2 y)
  (hL2:∀l y,RR y ->(B l y).id=l/\(B l y).st≠ .busy/\(B l y).pend=pd y)
  (G:List Nat) (hfe:∀l,CP (hp' l) (CH l) G) (hcn:∀l,A6 G (CH l)=true) (hr0:∀l,C9 G (hp' l)=some u) (hE2:∀l,Bw (By (CH l) G) j=some o) (hH2:∀l,CV (By (CH l) G) u=some q)
  (hR:∀l y,RR y ->A6 G ((k,[.loop (B l y)])::H2 y)=true/\Fu G ((k,[.loop (B l y)])::H2 y)=true)
  (C:List Nat) (hlf:memB k C=false) {pn:List Nat} (hpn:F.pn=pn) (O:K5 pn C=true) (A:∀l y,RR y ->Bb ((k,[.loop (B l y)])::H2 y++q) C=some (hpf y))
  (hK:∀y,RR y ->match pd y with | none=>Q .normal ⟨s.n,o,hpf y⟩ | some c=>CG P F c Q ⟨s.n,o,hpf y⟩):
  CG P F (.rangeFunc g V assign body) Q s:=λρ E w hs=>by
 have I:RJ F.rnd=Fence.wide:=by rw [hF.1];rfl
 rw [I];refine wpIn_rangeFunc λfn _=>?_;have hm:=hs.mark hF.2
 let r0:Loop:={state:= .ready,pending:=none,fn:=fn,tmps:=E.tmps,params:=V,assign:=assign,body:=body,defers:=w.heap.size}
 let w1:World:=(w.alloc (.deferred (some []))).alloc (.loop r0)
 have H:(w.alloc (.deferred (some []))).heap.size=w.heap.size+1:=by rw [World.size_alloc]
 have h2:=hm.new k (.loop ⟨w.heap.size+1,s.n,j,.ready,none,V,assign,body⟩) (.pointer (some ⟨w.heap.size+1,0,none⟩)) (.loop r0) hE hH (hn (w.heap.size+1)) (by rw [H];rfl) (λR=>by
  refine ⟨r0,Z,?_,⟨Z,Z,Z,Z,Z⟩,hs.size,λt a ha=>?_⟩
  .rw [<-H];exact World.alloc_heap_new _ _
  .rcases Bc hE ha with rfl | ⟨h1,h2⟩
   .exact .top
   .exact R _ _ h2 (hm.env t a h1))
 obtain ⟨vs,N,Y,hvs⟩:=Wa (h2.ev (x:=g) (a:=a) (by cases g<;>exact hg)) hfn;have hv':E.eval g= .func (.func f) #[] vs.toArray:=N;obtain ⟨fd,c1,c2,c3⟩:=(hc (w.heap.size+1)).1;have hb':¬fd.body=none:=by intro h;rw [h] at c3;cases c3
 have hn':¬fd.name= "runtime.NumGoroutine" :=by simpa using c2
 refine ⟨w.heap.size+1,[Jy w.heap.size],w1,{target:= .fn (.func f) vs.toArray,args:= #[DU (w.heap.size+1)]},w1,f,(DU (w.heap.size+1)::vs).toArray,w1,run_enterLoop_outer _ _ _ _ _,?_,λ_ _=>trivial,?_,(λh=>by cases h),?_⟩
 .have he:E.eval (.const (DU (w.heap.size+1)))=DU (w.heap.size+1):=rfl;simp only [resolve]
  simp [hv',Deferred.ofValue,he]
 .simp [invoke,callFunc,c1,hn',hb']
 refine NM (r:=none) ((F4 h2 (hc (w.heap.size+1)) (vs:=DU (w.heap.size+1)::vs) (by simp [Y]) (λi x v hx N=>?_) G (hfe _) (hcn _) (hr0 _) (hE2 _) (hH2 _) (λr H' hh=>?_)).mono λe w3 hh=>?_)
 .cases i with
  | zero=>simp at hx N;subst hx N;exact .d (.raw Z)
  | succ i=>exact hvs i x v (by simpa using hx) (by simpa using N)
 .obtain ⟨rfl,y,M,rfl⟩:=hh;obtain ⟨h4,h5⟩:=hR (w.heap.size+1) y M;exact ⟨h4,h5,Z⟩
 .obtain ⟨v,r,H',K,rfl,⟨rfl,y,X,rfl⟩,_,M,_⟩:=hh;obtain ⟨l1,l2,l3⟩:=hL2 (w.heap.size+1) y X;have n:hget ((k,[.loop (B (w.heap.size+1) y)])::H2 y++q) k 0=some (.loop (B (w.heap.size+1) y)):=by simp [hget,hfam,gl,isM]
  obtain ⟨r3,p1,W,⟨p3,p4,_⟩,_,_⟩:=M.heap.sim k 0 _ n;rw [l1] at p1 W;have h4:=M.only C hpn O (A _ y X)
  have hnO:¬F.O K (hpf y) (w.heap.size+1):=λho=>by
   rcases ho with ho | ⟨U,i',o',q1,q2⟩
   .exact M.heap.notOf ⟨k,0,_,n,by rw [p1];rfl⟩ ho
   .obtain ⟨m1,_⟩:=ER (A (w.heap.size+1) y X);have z:=q1;simp only [hget] at z
    cases hf:hfam (hpf y) U with
    | none=>rw [hf] at z;cases z
    | some x=>
     have q3:hget ((k,[.loop (B (w.heap.size+1) y)])::H2 y++q) U i'=some o':=by
      simp only [hget];rw [(m1 U x hf).2];rw [hf] at z;exact z
     obtain ⟨e1,_⟩:=M.heap.inj U i' k 0 _ _ _ q3 n q2 (by rw [p1];rfl);have:=G4.2 (m1 U x hf).1;rw [e1,hlf] at this;cases this
  have h5:=h4.putObj (b:=w.heap.size+1) (o':= .loop {r3 with state:= .exhausted}) (ds:=Jy w.heap.size::E.defers) (ωa hs.heap.size0 (Nat.le_succ _)) W (λc t x e=>by cases e) hnO ?_
  .have T:=run_endLoop (P:=P) W (by rw [p3];exact l2);have hpe:r3.pending=pd y:=p4.trans l3;refine ⟨pd y,_,T.trans (ωm (λp=>Result.ok p (w3.putObj (w.heap.size+1) (.loop {r3 with state:= .exhausted}))) hpe),?_⟩;have hk:=hK y X
   cases hpd:pd y with
   | none=>rw [hpd] at hk;exact ⟨_,K,hk,h5⟩
   | some c=>rw [hpd] at hk;have:=hk K _ _ h5;rw [I] at this;exact this
  .have D:=h4.defs
   cases Y:F.lo with
   | exact L=>rw [Y] at D;exact D
   | marks m=>
    rw [Y] at D;obtain ⟨bs,d1,d2,d3⟩:=D;refine ⟨bs,d1,d2,λb hb=>?_⟩;obtain ⟨e1,e2,e3,e4⟩:=d3 b hb;refine ⟨e1,by rw [World.putObj_size];exact e2,e3,?_⟩;rw [World.putObj_heap_other λe=>by rw [e,W] at e4;cases e4];exact e4
def NoGoto (Q:Exit ->AS ->Prop):Exit ->AS ->Prop
 | .goto _,_=>False
 | e,s=>Q e s
theorem a_scope {c:Code} (h:CG P F c (NoGoto Q) s):CG P F (.scope c) Q s:=λA j w C b k r t y v=>by
 have o:(lone (b.atR j (.code (.scope c)::k)) r w).fenced P (RJ F.rnd):=fenced_calm y v rfl;have n:step P (lone (b.atR j (.code (.scope c)::k)) r w)= .next (lone (b.atR j (.code c:: .inScope c::k)) r w):=step_lone_go (by simp [stepG,stepG.exec,Frame.atR]);obtain ⟨e,f,d,m,a⟩:=h A j w C b (.inScope c::k) r t y v;obtain ⟨p,g,m,i⟩:=m
 cases e with
 | normal=>exact ⟨.normal,f,d,⟨p,g,m,i⟩,.head o n (StepsIn.trans a (.one (fenced_calm y v Z) (step_lone_go (by simp [stepG,stepG.exec,Frame.atR]))))⟩
 | exit id=>
  have z:exitTo id (.inScope c::k)=exitTo id k:=by simp [exitTo]
  exact ⟨.exit id,f,d,⟨p,g,m,i⟩,λB x=> .head o n (a.1 B (by rw [z];exact x)),λu x=>let ⟨q,E,D⟩:=a.2 u (by rw [z];exact x);⟨q,E,.head o n D⟩⟩
 | goto l=>exact m.elim
 | ret=>exact ⟨_,f,d,⟨p,g,m,i⟩,.of_steps (.one o n) a⟩
 | panic G=>exact ⟨_,f,d,⟨p,g,m,i⟩,.of_steps (.one o n) a⟩
 | outgrown=>exact ⟨_,f,d,⟨p,g,m,i⟩,.of_steps (.one o n) a⟩
section
variable {α β:Type}
def IO (step:β ->α ->β×Bool):β ->List α ->β
 | b,[]=>b
 | b,x::r=>match step b x with
  | (b',true)=>IO step b' r
  | (b',false)=>b'
def NT (P:Program) (l:Nat) (enc:α ->List AV) (H:β ->Hp) (step:β ->α ->β×Bool):β ->List α ->Prop
 | _,[]=>True
 | b,x::r=>Gk P l (enc x) (H b) (λv H'=>v= .d (.raw (.bool (step b x).2))/\H'=H (step b x).1)/\((step b x).2=true ->NT P l enc H step (step b x).1 r)
end
variable {Q:Exit ->AS ->Prop} {a p:Nat ->Nat ->Bool} {c:List (Nat×AV)} {P:Program} {d:AV} {e:Hp} {n:Nat} {F:Fr}
theorem AV.okS_mono (b:∀f i,p f i=true ->a f i=true) (h:d.okS p=true):d.okS a=true:=by
 cases d<;>first | rfl | exact b _ _ h | cases h
theorem Ol (d:∀f i,p f i=true ->a f i=true) {as:List AV} (h:Zb p as=true):Zb a as=true:=by
 induction as with
 | nil=>rfl
 | cons b r c=>
  grind [Zb,AV.okS_mono]
theorem AV.ok_mono {p c:Nat ->Nat ->Bool} (b:∀f i,p f i=true ->c f i=true) {a:AV} (h:a.ok p=true):a.ok c=true:=by
 cases a with
 | tup as=>exact Ol (as:=as) b h
 | agg as=>exact Ol (as:=as) b h
 | fn g as=>exact Ol (as:=as) b h
 | d x=>rfl
 | top=>rfl
 | ptr g i o=>exact b g i h
 | own g i n=>exact b g i h
 | rptr g i k e o=>exact b g i h
 | map g i=>exact b g i h
 | ifc T j g i=>exact b g i h
theorem Qa (a:Hp):C9 (hpN a) a=some []:=by
 have c:∀(a:Hp) (b:List Nat),(∀f∈hpN a,f∈b) ->C9 b a=some []:=by
  intro a
  induction a with
  | nil=>intro b _;rfl
  | cons p r d=>
   intro b h;obtain ⟨g,l⟩:=p;simp only [C9,d b λf e=>h f (ωw _ e),G4.2 (h g ωu)]
 grind
theorem Em (a:Hp):A6 (hpN a) a=true:=by
 have c:∀(a:Hp) (b:List Nat),(∀f∈hpN a,f∈b) ->A6 b a=true:=by
  intro a
  induction a with
  | nil=>intro b _;rfl
  | cons p r d=>
   intro b h;obtain ⟨g,l⟩:=p;simp only [A6,ωd];exact ⟨G4.2 (h g ωu),d b λf e=>h f (ωw _ e)⟩
 grind
theorem dC {g:Hp} {b:Bool} {h:Array Oper} {a:List Oper} {l d:Nat} {x:Operand} {s:List Operand} {args:List AV} {k:Array TypeId} {w:TypeId} {i:String} {m:Array Edge}
  (z:Gk P l args e λr o=>r= .d (.raw (.bool b))/\o=g) (t:AS.ev ⟨n,c,e⟩ x=some (.d (.raw (DU l)))) (f:LZ ⟨n,c,e⟩ s=some args)
  (A:hpN g=hpN e) (C:Fu (hpN e) g=true) (E:NB (λ_ _=>false) c=true) (y:Nat.blt d n=true)
  (B:Ao P F h a Q ⟨n,(d,.d (.raw (.bool b)))::c,g⟩):
  Ao P F h (⟨some d,.call {callee:= .value x,args:=s.toArray,argTypes:=k},w,i,m,none⟩::a) Q ⟨n,c,e⟩:=by
 have j:∀p,Bw p c=some c:=λp=>by
  clear t f B
  induction c with
  | nil=>rfl
  | cons q r D=>
   grind [NB,AV.ok_mono,Bw]
 refine Tv t f z (hpN e) (F2 λ_ _=>rfl) (Em e) (Qa e) (j _) Z (λr o ⟨v,u⟩=>by subst v u;exact ⟨by rw [<-A];exact Em _,C,Z⟩) y λr o ⟨v,u⟩=>?_
 grind
theorem CP.mem {d:Hp} {c:List Nat} (h:CP e d c) {g:Nat} (b:g∈c):hfam e g=hfam d g:=by
 induction c with
 | nil=>cases b
 | cons a r f=>
  rcases Υ.1 b with rfl | b
  .exact h.1
  .exact f h.2 b
theorem Y8 {P:Program} {F:Fr} {Q:Exit ->AS ->Prop} {γ:Type} {n:Nat} {C b q:List (Nat×AV)} {K v:Hp} {g:Operand} {D:Array Tmp} {i o:Code} {a:AV} {f:FuncId} {z:List AV} (hF:F.flat) (j:Nat) (hE:Ac j C=some b) (E:AS.ev ⟨n,b,K⟩ g=some a) (W:YO a=some (f,z))
  (hH:Aa j K=some v) (V:hfam v j=none) (t:List Nat) {CHr u m:Hp} (RR:γ ->Prop) (H2:γ ->Hp) (M:γ ->LoopState) (pd:γ ->Option Code)
  (X:CP v CHr t) (hcn:A6 t CHr=true) (U:memB j t=false) (O:C9 (j::t) v=some u) (hE2:∀L:IL,Bw (By ((j,[.loop L])::CHr) (j::t)) b=some q) (hH2:∀L:IL,CV (By ((j,[.loop L])::CHr) (j::t)) u=some m)
  (hI:NB (Jc (j::t)) b=true) (N:∀y,RR y ->M y≠ .busy) (hR:∀y,RR y ->A6 (j::t) (H2 y)=true/\Fu (j::t) (H2 y)=true)
  {pn:List Nat} (w:List Nat) (S:F.pn=pn) (G:K5 pn w=true) (I:memB j w=false) (Y:∀y,RR y ->Bb (H2 y++m) w=some (H2 y++m))
  (hc:∀l (A B:Code),A=i ->B=o ->AT P f (.d (.raw (DU l))::z) ((j,[.loop ⟨l,n,b,.ready,none,D,A,B⟩])::CHr) λr H'=>r= .tup []/\∃y,RR y/\H'=(j,[.loop ⟨l,n,b,M y,pd y,D,A,B⟩])::H2 y)
  (hK:∀y,RR y ->match pd y with | none=>Q .normal ⟨n,q,H2 y++m⟩ | some c=>CG P F c Q ⟨n,q,H2 y++m⟩):
  CG P F (.rangeFunc g D i o) Q ⟨n,C,K⟩:=by
 have T:∀f',f'∈t ->f'≠j:=λf' h e=>by
  have:=G4.2 (e▸h);rw [U] at this;cases this
 have hpc:∀(x:List AN) (R:Hp) (l:List Nat),memB j l=false ->Bb ((j,x)::R) l=Bb R l:=λx R l hl=>by
  induction l with
  | nil=>rfl
  | cons a r ih=>
   grind [memB,IP,Bb,hfam]
 refine VV (s:=⟨n,C,K⟩) (γ:=γ) (RR:=RR) (H2:=H2) (pd:=pd) (hpf:=λy=>H2 y++m) hF W j E (λl y=>⟨l,n,b,M y,pd y,D,i,o⟩) (hp':=λl=>(j,[.loop ⟨l,n,b,.ready,none,D,i,o⟩])::v) (CH:=λl=>(j,[.loop ⟨l,n,b,.ready,none,D,i,o⟩])::CHr) hE hH (λl=>by simp only [Cj,V,Ty]) (λl=>hc l _ _ Z Z) (λl y J=>⟨Z,N y J,Z⟩)
  (j::t) (λl=>F2 λg E=>?_) (λl=>?_) (λl=>?_) (λl=>hE2 _) (λl=>hH2 _) (λl y J=>?_) w I S G (λl y J=>?_) hK
 .rcases Υ.1 E with rfl | E
  .simp [hfam]
  .simp only [hfam,IP (λe=>T g E e.symm)];exact X.mem E
 .simp only [A6,ωd];refine ⟨G4.2 ωu,?_⟩
  have key:∀(H:Hp),A6 t H=true ->A6 (j::t) H=true:=by
   intro H
   induction H with
   | nil=>intro _;rfl
   | cons p r ih=>
    obtain ⟨k,x⟩:=p;simp only [A6,ωd]
    exact λ⟨h1,h2⟩=>⟨G4.2 (ωw _ (G4.1 h1)),ih h2⟩
  grind
 .simp only [C9,O,G4.2 (ωu (a:=j) (l:=t))]
 .obtain ⟨h1,h2⟩:=hR y J;simp only [A6,Fu,CJ,ωd,Bool.and_true];exact ⟨⟨G4.2 ωu,h1⟩,hI,h2⟩
 grind
end Go.Proofs.YteifpcnphnhaoaaGreat
