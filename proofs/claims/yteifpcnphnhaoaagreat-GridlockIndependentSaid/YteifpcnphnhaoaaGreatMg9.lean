import Derived.Test.YteifpcnphnhaoaaGreatMg8
import Derived.Lib.Strings
namespace Go.Proofs.YteifpcnphnhaoaaGreat
open Go.RowKit
def AS.LeP (F:Fr) (s s':AS):Prop:=s'.n=s.n/\(∃nm l,F.pn=l/\JR l nm=true/\BQ s.hp nm=some s'.hp)/\∀t a,get s'.env t=some a ->get s.env t=some a
theorem SR.leP {F:Fr} {s g:AS} {f:Nat ->Nat ->Value} {b:Act} {w:World} (h:SR F s f b w) (j:s.LeP F g):SR F g f b w:=by
 obtain ⟨x,⟨i,l,v,u,r⟩,o⟩:=j;have c:=h.only i v u r;refine ⟨x▸c.size,c.defs,λt a k=>c.env t a (o t a k),c.heap⟩
section
variable {P:Program} {F:Fr} {Q:Exit ->AS ->Prop} {s:AS} {c:Code}
theorem Bl.leP {b:AS} (h:Bl P F c Q b) (i:s.LeP F b):Bl P F c Q s:=λf a w g=>h f a w (g.leP i)
theorem AY {n:Nat} {b l:List (Nat×AV)} {i a:Hp} {f:List Nat} (j:F.pn=f) (g:List Nat) (o:JR f g=true) (k:BQ i g=some a) (h:R8 b l):AS.LeP F ⟨n,b,i⟩ ⟨n,l,a⟩:=⟨Z,⟨g,f,j,o,k⟩,λ_ _=>h.get⟩
theorem BX {α:Type} (i:α ->AS) (I:α ->Prop) (j:α ->Nat) (G:α) (T:I G) (J:s.LeP F (i G))
  (o:∀a,I a ->Bl P F c (q0 (λr=>∃h,I h/\j h<j a/\r.LeP F (i h)) Q) (i a)):Bl P F (.loop c) Q s:=by
 refine Bl.leP ?_ J
 let R:AS ->Prop:=λr=>∃a,I a/\r=i a
 refine λf b w t=>?_
 have H:∀n a,j a=n ->I a ->∀f b w,SR F (i a) f b w ->(Code.loop c).wpIn (Pq F.rnd) 0 P (Sj F Q) b w:=by
  intro n a _ v f b w t;refine wpIn_loop (λb w=>∃a f,I a/\SR F (i a) f b w) (λb w=>Classical.epsilon λm=>∃a f,I a/\SR F (i a) f b w/\j a=m/\∀h g,I h ->SR F (i h) g b w ->m<=j h) ⟨a,f,v,t⟩ ?_;intro b w v
  have k:∀b w,(∃a f,I a/\SR F (i a) f b w) ->∃m,∃a f,I a/\SR F (i a) f b w/\j a=m/\∀h g,I h ->SR F (i h) g b w ->m<=j h:=λb w ⟨a,f,E,D⟩=>by
   have M:∀n a f,j a=n ->I a ->SR F (i a) f b w ->∃m,∃a f,I a/\SR F (i a) f b w/\j a=m/\∀h g,I h ->SR F (i h) g b w ->m<=j h:=by
    intro n
    induction n using Nat.strongRecOn with
    | _ n L=>
     grind
   grind
  obtain ⟨a,f,E,D,S,O⟩:=Classical.epsilon_spec (k b w v);refine Go.wpIn_mono (o a E f b w D) λe l z ⟨r,g,C,x⟩=>?_
  cases e with
  | normal=>
   obtain ⟨h,B,N,A⟩:=C
   have u:∃a f,I a/\SR F (i a) f l z:=⟨h,g,B,x.leP A⟩
   refine ⟨u,?_⟩;obtain ⟨_,_,_,_,_,y⟩:=Classical.epsilon_spec (k l z u);have K:=y h g B (x.leP A);omega
  | _=>exact ⟨r,g,C,x⟩
 grind
end
section
variable {P:Program} {F:Fr} {s:AS} {d:Nat} {ty T T2 E:TypeId} {pos:String} {aft:Array Edge} {g:Option (Nat×Bool)} {x y:Operand} {α:Type} {emb:α ->D}
variable {a:List (Nat×AV)} {c f:Hp} {h i:List D}
theorem H1 (l o:List α) {k j n t r f2 w m:Nat} (A:s.ev x=some (.own k j n)) (B:dr s.hp k j=some (.rowD E t h)) (G:h=l.map emb) (C:n=l.length)
  (z:s.ev y=some (.own f2 w m)) (u:dr s.hp f2 w=some (.rowD E t i)) (v:i=o.map emb) (D:m=o.length)
  (S:fB P T E t r) (J:(l.length+o.length)*r<=140737488355328) (L:AX k s.env=some a) (K:AT k s.hp=some f) (H:BL f k j (.rowD E t ((l++o).map emb))=some c) (I:Nat.blt d s.n=true):
  AH P F ⟨some d,.call {callee:= .builtin .append,args:= #[x,y],argTypes:= #[T,T]},ty,pos,aft,g⟩ s ⟨s.n,(d,.own k j (l++o).length)::a,c⟩ (B2 k):=by
 subst C D G v;have b:=G4 (ty:=ty) (pos:=pos) (aft:=aft) (g:=g) (F:=F) (zs:=(l++o).map emb) A z B (by simp) u Z (by simp) S J L K (by rw [ς (by simp),ς (by simp),fU]) H I
 grind
theorem Ex (l r:List α) {b j n t o:Nat} {u:Option Bool} (z:s.ev x=some (.own b j n)) (A:dr s.hp b j=some (.rowD E t h)) (C:h=l.map emb) (B:n=l.length)
  (w:s.ev y=some (.d (.sl u i))) (v:i=r.map emb) (D:∀k,(emb k).cells.length=t)
  (S:fB P T E t o) (I:(l.length+r.length)*o<=140737488355328) (K:AX b s.env=some a) (J:AT b s.hp=some f) (G:BL f b j (.rowD E t ((l++r).map emb))=some c) (H:Nat.blt d s.n=true):
  AH P F ⟨some d,.call {callee:= .builtin .append,args:= #[x,y],argTypes:= #[T,T]},ty,pos,aft,g⟩ s ⟨s.n,(d,.own b j (l++r).length)::a,c⟩ (B2 b):=by grind [Ug]
end
section
variable {P:Program} {F:Fr} {s:AS} {d:Nat} {ty T E:TypeId} {pos:String} {aft:Array Edge} {g:Option (Nat×Bool)} {x lo hi:Operand} {α:Type} {emb:α ->D} {nil:Option Bool} {xs:List D} {kk:Nat}
theorem LW (l:List α) (k:Nat) {c:IntKind} {b:Int} (i:s.ev x=some (.d (.sl nil xs))) (f:xs=l.map emb) (h:s.ev hi=some (.d (.raw (.int c b)))) (j:b=(k:Int)) (v:k<=l.length) (t:P.underlying T=some (.slice E)) (u:AW P E kk=true) (o:∀a,(emb a).cells.length=kk) (r:Nat.blt d s.n=true):
  AA P F ⟨some d,.slice T x none (some hi) none,ty,pos,aft,g⟩ s d (.d (.sl nil ((l.take k).map emb))):=by grind [Ud,List.map_take]
end
section
variable {P:Program} {F:Fr} {s:AS} {d:Nat} {ty T T':TypeId} {pos:String} {aft:Array Edge} {g:Option (Nat×Bool)} {x y:Operand}
theorem ml (a b:List UInt8):((⟨a.toArray⟩:ByteArray).toList=(⟨b.toArray⟩:ByteArray).toList)↔a=b:=by
 rw [Lib.toList_data,Lib.toList_data]
theorem ED {a b:List UInt8} (f:s.ev x=some (.d (Aj a))) (c:s.ev y=some (.d (Aj b))) (h:Nat.blt d s.n=true):AA P F ⟨some d,.binOp .eql T x y T',ty,pos,aft,g⟩ s d (.d (.raw (.bool (decide (a=b))))):=by grind [jj,ml]
theorem Ew {a b:List UInt8} (f:s.ev x=some (.d (Aj a))) (c:s.ev y=some (.d (Aj b))) (h:Nat.blt d s.n=true):AA P F ⟨some d,.binOp .neq T x y T',ty,pos,aft,g⟩ s d (.d (.raw (.bool (decide (¬a=b))))):=by grind [jg,ml]
end
section
variable {P:Program} {F:Fr} {s:AS} {d:Nat} {ty T E:TypeId} {pos:String} {aft:Array Edge} {g:Option (Nat×Bool)} {x y:Operand} {α:Type} {emb:α ->D}
theorem Ef {n:Nat} {b:List (Nat×AV)} {h:Hp} (l:List α) (a:α) {f j e:Nat} {t:TypeId} {o:List D} {v:D} {c:Hp} (u:AS.ev ⟨n,b,h⟩ x=some (.rptr f j 1 e 0)) (r:AS.ev ⟨n,b,h⟩ y=some (.d v)) (i:v=emb a) (w:v.one=true) (z:dr h f j=some (.rowD t 1 o)) (A:o=l.map emb) (k:e<l.length)
  (B:BL h f j (.rowD t 1 ((l.set e a).map emb))=some c) (C:AW P T 1=true):
  AH P F ⟨none,.store T x y,ty,pos,aft,g⟩ ⟨n,b,h⟩ ⟨n,b,c⟩ (λ_ _=>true):=by
 subst A i;exact XW u r w z Z (by simpa using k) List.map_set.symm B C
end
variable {a:Nat ->Prop} {c:Nat ->Nat ->Value} {w:World} {f:Value} {g:List D} {h:Act} {E:TypeId} {F:Fr} {s:AS} {i:List D}
theorem AK.weak {P:Program} {f:FuncId} {b:List AV} {x y:D} (h:AK P f b x) (k:∀w O v,AN w O x v ->AN w O y v):AK P f b y:=
 ⟨h.1,λF i j z u g t s o=>(h.2 F i j z u g t s o).mono λe E ⟨v,r,G,c,C,⟨B,A⟩,a,l⟩=>by
  subst B A
  cases a with
  | d a=>exact ⟨v,_,[],c,C,⟨Z,Z⟩,.d (k _ _ _ a),l⟩⟩
theorem AN.anyNil {n:Option Bool} (h:AN w a (.sl n g) f):AN w a (.sl none g) f:=by
 cases h with
 | sl k s c b o j l r i=>exact .sl k (λ_ h=>by cases h) c b o j l r i
theorem AN.aggMono {g b:List D} (h:AN w a (.agg g) f) (o:b.length=g.length) (k:∀c∈b,c.one=true) (s:∀(i:Nat) c j,g[i]? =some c ->b[i]? =some j ->∀f,AN w a c f ->AN w a j f):AN w a (.agg b) f:=by
 cases h with
 | agg x u t=>
  refine .agg (by omega) k λi j f r l=>?_
  grind
theorem VA (l:SR F s c h w) {r j n D:Nat} {hp':Hp} (R:dr s.hp r j=some (.rowD E D g)) (hn:n<=g.length) (B:g.take n=i)
  (X:∀b,F.O c hp' b ->F.O c s.hp b) (W:∀b,B6 (c r j)=some b ->¬F.O c hp' b) (Q:AR w a c (.own r j n) f):AN w (F.O c hp') (.sl none i) f:=by
 obtain ⟨us,x,cap,N,g1,M,Z,L,Y⟩:=l.rowD R
 cases Q with
 | own A T=>
  rw [N] at A;injection A with e2 e3 e4
  subst e2 e3 e4;refine .sl D (λ_ l=>by cases l) L.2.2 (by rw [<-B,Ξ];omega) (by omega) L.2.1 (λy I=>M.2.1 y (by rw [<-B] at I;exact gk I)) (λS=>?_) (λb o G k y I=>?_)
  .grind [Nat.eq_zero_or_pos]
  .have z:g[k]? =some y:=by
    grind
   have U:k<g.length:=(φ.1 z).1;obtain ⟨H,C,cur,P,c2,c3⟩:=Y (by omega);rw [C] at G;injection G with G;injection G with hb1 hb2;subst hb1 hb2
   subst C;have J:H<w.heap.size:=(gr.1 P).1
   have V:∀(q:Nat) t,y.cells[q]? =some t ->∃u,w.cell? ⟨H,0+k*D+q,none⟩=some u/\AN w (F.O c hp') t u:=λq t K=>by
    obtain ⟨u,d1,d2,d3⟩:=M.2.2 k y z q t K;exact ⟨u,by rw [gf];exact DT P c3 d1,d3.mono (ϖ _) (λ_ _ _=>rfl) λb _=>X b⟩
   refine .ptr (λq=>(w.cell? ⟨H,0+k*D+q,none⟩).getD undef) J (W H (by rw [N];rfl)) (Z y (ϑ z)) (λq t K=>?_) (λq t K=>?_)
   .grind
   grind
theorem SR.freezeC (k:SR F s c h w) (l a z f:Nat) {n P:Nat} {t:TypeId} {N A B:List AV} {y:List (Nat×AV)} {G r hp':Hp}
  (X:dr s.hp l a=some (.blk t N)) (hc:N[z]? =some (.own f 0 n)) (x:eQ s.hp f=some [.rowD E P g]) (Y:n<=g.length) (K:g.take n=i)
  (hE:AX f s.env=some y) (hH:AT f s.hp=some G) (hh:CA f G=some r) (I:dr r l a=some (.blk t A)) (L:EE A z [.d (.sl none i)]=some B) (C:BL r l a (.blk t B)=some hp'):SR F ⟨s.n,y,hp'⟩ c h w:=by
 have H:dr s.hp f 0=some (.rowD E P g):=by simp [dr,x,gl,gV]
 obtain ⟨Q,h2,h3⟩:=k.forget f hE hH hh (λa t N e=>by
  simp only [dr,x,i7,gl,gV] at e
  cases a<;>simp at e)
 refine Q.write l a (.blk t A) (.blk t B) I (Ai C) Z Z Z Z (λ_ _=>rfl) (λ_ _ _=>⟨_,_,Z⟩) λD=>?_;obtain ⟨b,O,S,R,e3,e4,e5⟩:=Q.heap.sim l a _ I;obtain ⟨b',J,f1,f2,f3,f4,f5⟩:=k.heap.sim l a _ X;rw [S] at f1;injection f1 with f1;injection f1 with f1;injection f1 with f1;subst f1
 rw [R] at f2;injection f2 with f2;injection f2 with f2
 have:O=J:=by simpa using fL Array.toList f2
 subst this;obtain ⟨s1,U,T⟩:=Cu _ _ _ _ L;refine ⟨b,O,S,R,by rw [e3,U],λj o u v V=>?_,e5⟩;rw [T] at v
 split at v
 .rename_i hj
  have M:j=z:=by simp at hj;omega
  subst M
  simp at v;subst v
  have W:=VA k (hp':=r) H Y K h2 (λb hb=>h3 0 _ b H hb) (f4 j _ u hc V);exact D _ _ (.d W)
 grind
section
variable {P:Program} {F:Fr} {Q:Exit ->AS ->Prop} {s:AS} {c:Code} {ops:Array Oper} {l l':List Oper}
variable {a:Hp} {f g:List (Nat×AV)} {h:Nat} {i:List D} {E:TypeId} {j:Type} {k o:Hp} {t u:Nat} {x:D}
theorem jN (v j x w:Nat) {b:TypeId} {ys:List D} {J B C:List AV} {y:Hp}
  (L:dr a v j=some (.blk b J)) (O:J[x]? =some (.own w 0 u)) (A:eQ a w=some [.rowD E t i]) (M:u<=i.length) (G:i.take u=ys)
  (S:AX w f=some g) (R:AT w a=some o) (N:CA w o=some y) (I:dr y v j=some (.blk b B)) (H:EE B x [.d (.sl none ys)]=some C) (z:BL y v j (.blk b C)=some k) (r:Bl P F c Q ⟨h,g,k⟩):Bl P F c Q ⟨h,f,a⟩:=λ_ _ _ K=>r _ _ _ (K.freezeC v j x w L O A M G S R N I H z)
theorem Ls {emb:j ->D} (b v:Nat) (l:List j) (y:get f b=some (.own v 0 u)) (w:eQ a v=some [.rowD E t i]) (x:i=l.map emb) (z:u=l.length) (C:AX v f=some g) (B:AT v a=some o) (A:CA v o=some k)
  (r:Bl P F c Q ⟨h,(b,.d (.sl none (l.map emb)))::g,k⟩):Bl P F c Q ⟨h,f,a⟩:=by grind [eC,dr,gl,gV]
theorem mI {emb:j ->D} (b v:Nat) (l:List j) (y:get f b=some (.own v 0 u)) (w:eQ a v=some [.rowD E t i]) (x:i=l.map emb) (z:u=l.length) (C:AX v f=some g) (B:AT v a=some o) (A:CA v o=some k)
  (r:A8 P F ops l' Q ⟨h,(b,.d (.sl none (l.map emb)))::g,k⟩):A8 P F ops l' Q ⟨h,f,a⟩:=by grind [b9,dr,gl,gV]
theorem SR.weakD {F:Fr} {s:AS} {i:Nat ->Nat ->Value} {b:Act} {w:World} (h:SR F s i b w) (t:Nat) (y:D) (o:get s.env t=some (.d x)) (k:∀w O v,AN w O x v ->AN w O y v):SR F ⟨s.n,(t,.d y)::s.env,s.hp⟩ i b w:=by
 refine ⟨h.size,h.defs,λj a g=>?_,h.heap⟩;rcases LR g with ⟨rfl,rfl⟩ | ⟨_,g⟩
 .have f:=h.env t _ o
  generalize b.tmps.getD t undef=v at f
  cases f with
  | d f=>exact .d (k _ _ _ f)
 .exact h.env j a g
theorem W3 (t:Nat) (y:D) (i:get f t=some (.d x)) (g:∀w O v,AN w O x v ->AN w O y v) (b:A8 P F ops l Q ⟨h,(t,.d y)::f,a⟩):A8 P F ops l Q ⟨h,f,a⟩:=λ_ _ _ j=>b _ _ _ (j.weakD t y i g)
theorem XY (t:Nat) {n:Option Bool} (g:get f t=some (.d (.sl n i))) (b:A8 P F ops l Q ⟨h,(t,.d (.sl none i))::f,a⟩):A8 P F ops l Q ⟨h,f,a⟩:=W3 t _ g (λ_ _ _ b=>b.anyNil) b
end
section
variable {P:Program} {F:Fr} {Q:Exit ->AS ->Prop} {c:Code} {ops:Array Oper} {l:List Oper}
end
variable {P:Program} {a:Nat}
abbrev Cs (l:Nat):Value:= .func (.yield l) #[] #[]
def eI (P:Program) (l:Nat) (vs:List Value) (w:World) (R:Ending ->World ->Prop):Prop:=
 ∃r:Loop,w.heap[l]? =some (.loop r)/\vs.length=r.params.size/\RoundIn Fence.wide 0 P l r.fn ((r.params.zip vs.toArray).foldl (λtmps (t,a)=>tmps.setIfInBounds t a) r.tmps) r.assign r.body w R
theorem eI.mono {b:List Value} {w:World} {R c:Ending ->World ->Prop} (h:eI P a b w R) (f:∀e w',R e w' ->c e w'):eI P a b w c:=by
 obtain ⟨r,j,i,g⟩:=h;exact ⟨r,j,i,g.mono f⟩
def Fu (P:Program) (l:Nat) (args:List AV) (H:Hp) (R:AV ->Hp ->Prop):Prop:=
 ∀(F:Fr) (ρ:Nat ->Nat ->Value) (vs:List Value),F.own0=Am ρ H ->F.pin=CS ρ H ->F.top H ->BP F H ρ F.w0 ->vs.length=args.length ->(∀(i:Nat) a v,args[i]? =some a ->vs[i]? =some v ->AR F.w0 (F.O ρ H) ρ a v)→
  eI P l vs F.w0 λe w'=>∃v r H' ρ',e= .returned v/\R r H'/\AR w' (F.O ρ' H') ρ' r v/\BP F H' ρ' w'
theorem Fu.mono {g:List AV} {H:Hp} {R o:AV ->Hp ->Prop} (h:Fu P a g H R) (u:∀r i,R r i ->o r i):Fu P a g H o:=
 λF s t A z k y x w=>(h F s t A z k y x w).mono λ_ _ ⟨v,r,i,j,f,b,c⟩=>⟨v,r,i,j,f,u _ _ b,c⟩
section
variable {P:Program} {F:Fr} {s:AS} {Q:Exit ->AS ->Prop}
variable {a:List (Nat×AV)} {R:AV ->Hp ->Prop} {c:Array TypeId} {f:List Operand} {g:Array Edge} {w:World} {h:List AV} {i:Nat} {j:String} {k:TypeId} {x:Operand} {o:Act} {t u y:Hp}
theorem U1 {A:Nat ->Nat ->Value} (B:SR F s A o w) (Y:Fu P i h t R) {J:List Value} (D:J.length=h.length) (L:∀(c:Nat) g v,h[c]? =some g ->J[c]? =some v ->AR w (F.O A s.hp) A g v)
  (k:List Nat) (E:Bp s.hp t k) (G:AP k t=true) (M:CE k s.hp=some u) (hE:B8 (B9 t k) s.env=some a) (hH:Bv (B9 t k) u=some y)
  (hR:∀r z,R r z ->AP k z=true/\FJ k z=true/\r.ok (I7 k)=true):
  eI P i J w λe K=>∃v r z j,e= .returned v/\R r z/\AR K (F.O j (z++y)) j r v/\SR F ⟨s.n,a,z++y⟩ j o K/\∀f c,B9 t k f c=true ->j f c=A f c:=by
 obtain ⟨I,x,hO⟩:=Ej (.marks w.heap.size) B.heap k E G;refine (Y (B5 F (.marks w.heap.size) s.hp t A w I) A J Z Z ⟨Z,Z,Z⟩ x D (λc g v O W=>by rw [hO];exact L c g v O W)).mono λe K ⟨v,r,z,S,e1,H,C,N⟩=>?_;obtain ⟨V,U,T⟩:=hR r z H;obtain ⟨j,g1,g2,g3,g4,g5,g6,g7⟩:=JA B.heap k E G M hH I x N V U;refine ⟨v,r,z,j,e1,H,g2 r v (λf c X=>Fd.1 (AV.ok_spec T X)) C,⟨B.size,B.defs.mono g5 g6 g7,λb g O=>?_,g1⟩,g4⟩;rcases DH hE O with rfl | ⟨h1,h2⟩
 .exact .top
 .exact g3 _ _ h2 (B.env b g h1)
theorem Uj {r:Loop} {d:Option Nat} {b:Option (Nat×Bool)} (v:o.eval x=Cs i) (h:w.heap[i]? =some (.loop r)) (y:(f.map o.eval).length=r.params.size):
  (execOp o.eval ⟨d,.call {callee:= .value x,args:=f.toArray,argTypes:=c},k,j,g,b⟩).run P w= .ok (.round i r.fn ((r.params.zip (f.map o.eval).toArray).foldl (λu (t,a)=>u.setIfInBounds t a) r.tmps) r.assign r.body) w:=by simp [*,run_yield,execOp,resolve,Deferred.ofValue,invoke]
theorem SK {r:Option Nat} {n k:Nat} {f:FuncId} {g:Array Value} {a b:Code} {R:Ending ->World ->Prop} (h:RoundIn Fence.wide n P i f g a b w R):RoundIn (Pq r) k P i f g a b w R:=by
 cases r with
 | none=>exact ⟨trivial,λc j _=>h.2 c j (room_wide _)⟩
 | some _=>exact ⟨trivial,λc j _=>h.2 c j (room_wide _)⟩
theorem S7 {D:Array Oper} {o:List Oper} {d:Nat} (T:s.ev x=some (.d (.raw (Cs i)))) (B:KH s f=some h) (X:Fu P i h t R)
  (z:List Nat) (L:Bp s.hp t z) (M:AP z t=true) (J:CE z s.hp=some u) (hE:B8 (B9 t z) s.env=some a) (hH:Bv (B9 t z) u=some y)
  (Y:∀r A,R r A ->AP z A=true/\FJ z A=true/\r.ok (I7 z)=true) (W:Nat.blt d s.n=true)
  (hK:∀r A,R r A ->A8 P F D o Q ⟨s.n,(d,r)::a,A++y⟩):
  A8 P F D (⟨some d,.call {callee:= .value x,args:=f.toArray,argTypes:=c},k,j,g,none⟩::o) Q s:=λρ G w I=>
 wpListIn_plain Z λK V=>by
  obtain ⟨h4,h5⟩:=CJ I B
  have U:G.eval x=Cs i:=by
   have:=I.ev T
   generalize G.eval x=v at this
   cases this with
   | d this=>cases this with | raw _=>rfl
  obtain ⟨r,h6,h7,h8⟩:=U1 I X h4 h5 z L M J hE hH Y;refine ⟨λ_ _=>trivial,?_⟩;rw [PN _ _ _ Z,Uj U h6 h7,Oper.uponIn_round];refine ⟨(λb=>by cases b),SK (h8.mono λe O ⟨v,S,A,C,e1,N,E,H,_⟩=>?_)⟩;subst e1;exact V _ _ (hK S A N C _ O (H.put (IB W) E))
end
variable {a:Nat ->Nat ->Value} {w:World} {F:Fr} {c:Act} {Q:Exit ->AS ->Prop} {s:AS} {P:Program} {f H:Hp}
theorem BP.rnd (h:BP F f a w) (r:Option Nat):BP {F with rnd:=r} f a w:=
 ⟨h.sim,h.inj,h.mine,h.os,h.tape,h.output,h.size0,h.keep,h.pins,h.drawn⟩
theorem BP.unrnd {r:Option Nat} (h:BP {F with rnd:=r} f a w):BP F f a w:=
 ⟨h.sim,h.inj,h.mine,h.os,h.tape,h.output,h.size0,h.keep,h.pins,h.drawn⟩
theorem VV {u:Nat ->Nat ->Value} (h:SR F s a c w) {v:List Nat} {r:Hp} (K:F.pin=CS u H) (y:BQ s.hp v=some r) (A:AP v H=true):BP F r a w:=by
 obtain ⟨J,Q⟩:=Dh y
 have g:∀f i o,dr r f i=some o ->dr s.hp f i=some o:=λf i o j=>by
  simp only [dr] at j⊢
  cases hf:eQ r f with
  | none=>rw [hf] at j;cases j
  | some x=>rw [(J f x hf).2];rw [hf] at j;exact j
 have k:∀b,Am a r b ->Am a s.hp b:=λb ⟨f,i,o,C,I⟩=>⟨f,i,o,g f i o C,I⟩
 have M:∀b,b<w.heap.size ->F.O a r b ->F.O a s.hp b:=λb _ l=>l.imp id (k b);refine ⟨λf i o j=>(h.heap.sim f i o (g f i o j)).mono (ϖ _) (λ_ _ _=>rfl) M (λ_ _=>rfl) (λ_ _ _=>rfl),λf i G E o D b j z=>h.heap.inj f i G E o D b (g f i o j) (g G E D z),λb l=>h.heap.mine b (k b l),h.heap.os,h.heap.tape,h.heap.output,h.heap.size0,h.heap.keep,λf i b l=>?_,h.heap.drawn⟩;obtain ⟨C,t,O,I⟩:=h.heap.pins f i b l;refine ⟨C,t,O,?_⟩;rw [K] at l;obtain ⟨_,P,N,B⟩:=mL l
 have L:f∈v:=by
  simp only [dr] at B
  cases hf:eQ H f with
  | none=>rw [hf] at B;cases B
  | some x=>exact F2 A hf
 grind [dr]
def In (n:Nat):List Tmp ->List AV ->List (Nat×AV) ->Option (List (Nat×AV))
 | [],[],env=>some env
 | t::ts,a::as,env=>match Nat.blt t n with
  | true=>In n ts as ((t,a)::env)
  | false=>none
 | _,_,_=>none
theorem L1 {w:World} {O:Nat ->Prop} {ρ:Nat ->Nat ->Value} {n:Nat}:∀{f:List Tmp} {j:List AV} {c b:List (Nat×AV)} {vs:List Value} {tmps:Array Value},In n f j c=some b ->vs.length=j.length ->(∀(i:Nat) a v,j[i]? =some a ->vs[i]? =some v ->AR w O ρ a v)→
  tmps.size=n ->(∀t a,get c t=some a ->AR w O ρ a (tmps.getD t undef))→
  f.length=j.length/\((f.zip vs).foldl (λtmps (t,a)=>tmps.setIfInBounds t a) tmps).size=n/\∀t a,get b t=some a ->AR w O ρ a (((f.zip vs).foldl (λtmps (t,a)=>tmps.setIfInBounds t a) tmps).getD t undef)
 | [],[],c,b,vs,tmps,h,l,k,g,o=>by
  simp only [In,Option.some.injEq] at h;subst h;exact ⟨Z,by simpa using g,by simpa using o⟩
 | t::f,a::j,c,b,v::vs,tmps,h,l,k,g,o=>by
  simp only [In] at h
  split at h
  .rename_i s
   have s:=IB s
   obtain ⟨B,A,z⟩:=L1 (tmps:=tmps.setIfInBounds t v) (vs:=vs) h (by simpa using l) (λi a v r y=>k (i+1) a v (by simpa using r) (by simpa using y)) (by simpa using g) (λx C r=>by
    rcases LR r with ⟨rfl,rfl⟩ | ⟨u,r⟩
    .have:=k 0 _ v Z Z;rw [iy];simp [g,s];exact this
    .have:=o x C r;rw [iy] at this⊢
     rw [Array.getElem?_setIfInBounds_ne u];exact this)
   exact ⟨by simp [B],A,z⟩
  .cases h
 | t::f,a::j,c,b,[],tmps,h,l,k,g,o=>by simp at l
 | [],a::j,c,b,vs,tmps,h,l,k,g,o=>by simp [In] at h
 | t::f,[],c,b,vs,tmps,h,l,k,g,o=>by simp [In] at h
def N8:Exit ->Option (Option Code)
 | .normal=>some none
 | .ret=>some (some .ret)
 | .exit id=>some (some (.exit id))
 | .goto t=>some (some (.goto t))
 | _=>none
def HP.fin (L:HP) (j:Option Code):HP:={L with st:=if j.isNone then .ready else .done,pend:=j}
def HP.busy (L:HP):HP:={L with st:= .busy}
def eJ (l lf:Nat) (H:Hp) (R:AV ->Hp ->Prop) (e:Exit) (s:AS):Prop:=
 ∃j L hpe nm H',N8 e=some j/\dr s.hp lf 0=some (.loop L)/\L.id=l/\BL s.hp lf 0 (.loop (L.fin j))=some hpe/\BQ hpe nm=some H'/\AP nm H=true/\R (.d (.raw (.bool j.isNone))) H'
variable {L:HP}
theorem SR.setLoop (u:SR F s a c w) {k:Nat} {i:Hp} {st:LoopState} {pd:Option Code} (v:dr s.hp k 0=some (.loop L)) (g:BL s.hp k 0 (.loop {L with st:=st,pend:=pd})=some i):
  ∃r:Loop,w.heap[L.id]? =some (.loop r)/\r.state=L.st/\r.pending=L.pend/\SR F ⟨s.n,s.env,i⟩ a c (w.putObj L.id (.loop {r with state:=st,pending:=pd})):=by
 obtain ⟨r,y,x,⟨D,o,j⟩,C,B⟩:=u.heap.sim k 0 _ v;have l:L.id<w.heap.size:=(gr.1 x).1;refine ⟨r,x,D,o,u.write k 0 _ (.loop {L with st:=st,pend:=pd}) v (Ai g) Z Z Z World.putObj_size (λb z=>World.putObj_heap_other λe=>z (by rw [y,e];rfl)) (λt E e=>by cases e) λh=>?_⟩;exact ⟨{r with state:=st,pending:=pd},y,World.putObj_heap_same l,⟨Z,Z,j⟩,C,λt f A=>h _ _ (B t f A)⟩
theorem Re {l lf:Nat} {g:List AV} {b:List (Nat×AV)} {R:AV ->Hp ->Prop} (hL:dr H lf 0=some (.loop L)) (K:L.id=l) (_:L.st= .ready) (J:In L.n L.ps.toList g L.env=some b)
  (h:∀F:Fr,F.pn=gW H ->F.rnd=some l ->Bl P F L.asg (λe s=>e= .normal/\∃o k,dr s.hp lf 0=some (.loop o)/\o.id=l/\o.st= .ready/\BL s.hp lf 0 (.loop o.busy)=some k/\Bl P F L.body (eJ l lf H R) ⟨s.n,s.env,k⟩) ⟨L.n,b,H⟩):Fu P l g H R:=by
 intro F ρ vs h1 h2 A U h4 h5;obtain ⟨r,g1,g2,⟨g3,g4,g5,g6,g7⟩,g8,g9⟩:=U.sim lf 0 _ hL;subst K;obtain ⟨k1,k2,k3⟩:=L1 (ρ:=ρ) (w:=F.w0) (O:=F.O ρ H) (tmps:=r.tmps) (vs:=vs) J h4 h5 g8 g9
 have hz:(r.params.zip vs.toArray).foldl (λtmps (t,a)=>tmps.setIfInBounds t a) r.tmps=(L.ps.toList.zip vs).foldl (λtmps (t,a)=>tmps.setIfInBounds t a) r.tmps:=by
  rw [g5,<-Array.foldl_toList,Array.toList_zip]
 refine ⟨r,g2,?_,?_⟩
 .grind
 rw [hz,g6,g7]
 let V:Fr:={F with rnd:=some L.id}
 have E:SR V ⟨L.n,b,H⟩ ρ {tmps:=(L.ps.toList.zip vs).foldl (λtmps (t,a)=>tmps.setIfInBounds t a) r.tmps,defers:=[]} F.w0:=⟨k2,(by show HE F.lo _ _ _;rw [A.2.2];exact .nil),k3,U.rnd _⟩
 have hw:=h V A.1 Z ρ _ _ E;refine roundIn_of_wpIn trivial (Go.wpIn_mono (F:=Fence.wide.inRound L.id) hw λe a w I=>?_);obtain ⟨s,B,⟨rfl,o,k,q1,Q,q3,Y,X⟩,hs⟩:=I;obtain ⟨r1,S,p2,p3,z⟩:=hs.setLoop q1 (st:= .busy) (pd:=o.pend) Y;rw [Q] at S;refine ⟨_,run_beginRound S (p2.trans q3),?_⟩;rw [Q,<-p3] at z;refine Go.wpIn_mono (F:=Fence.wide.inRound L.id) (X B _ _ z) λe a w I=>?_;obtain ⟨s2,x,⟨j,L2,hpe,nm,u,c,j2,D,j3,j4,j5,j6⟩,G⟩:=I;obtain ⟨W,T,m2,m3,y⟩:=G.setLoop j2 (st:=if j.isNone then .ready else .done) (pd:=j) j3;rw [D] at T y;have hh:BP F u x (w.putObj L.id (.loop {W with state:=if j.isNone then .ready else .done,pending:=j})):=(VV y h2 j4 j5).unrnd
 have f:∃v C,(Instr.endRound L.id j).run P w= .ok v C/\∃M N u i,Ending.returned v= .returned M/\R N u/\AR C (F.O i u) i N M/\BP F u i C:=
  ⟨_,_,run_endRound j T,_,_,u,x,Z,j6,.d (.raw Z),hh⟩
 cases e with
 | normal=>simp only [N8,Option.some.injEq] at c;subst c;exact f
 | ret=>simp only [N8,Option.some.injEq] at c;subst c;exact f
 | exit id=>simp only [N8,Option.some.injEq] at c;subst c;exact f
 | goto t=>simp only [N8,Option.some.injEq] at c;subst c;exact f
 | panic _=>cases c
 | outgrown=>cases c
theorem SR.grow (j:SR F s a c w) (o:Obj):SR F s a c (w.alloc o):=by
 have i:w.heap.size<=(w.alloc o).heap.size:=by rw [World.size_alloc];omega
 have k:∀b,b<w.heap.size ->(w.alloc o).heap[b]? =w.heap[b]?:=λb g=>by
  show (w.heap.push o)[b]? =_
  grind
 exact ⟨j.size,j.defs.mono i (λb g _=>k b g) (λ_ _ h=>h),λt f l=>(j.env t f l).mono i (λb g _=>k b g) (λ_ _ h=>h) (λ_ _ _=>rfl),j.heap.stay ⟨Z,Z,Z,j.heap.drawn⟩ i k⟩
theorem BP.ltO (h:BP F f a w) {b:Nat} (c:F.O a f b):b<w.heap.size:=by
 rcases c with c | c
 .exact hU (F.hOf b c).1 h.size0
 .exact (h.mine b c).1
theorem SR.mark (j:SR F s a c w) (g:F.lo.le F.w0.heap.size):SR F s a {c with defers:=Iw w.heap.size::c.defers} (w.alloc (.deferred (some []))):=by
 obtain ⟨m,f,g⟩:∃m,F.lo= .marks m/\m<=F.w0.heap.size:=by
  cases hl:F.lo with
  | marks m=>rw [hl] at g;exact ⟨m,Z,g⟩
  | exact L=>rw [hl] at g;exact g.elim
 have k:=j.grow (.deferred (some []));have i:=k.defs;have h:=j.defs;rw [f] at i h;obtain ⟨t,y,v,z⟩:=i;obtain ⟨r,x,_,o⟩:=h
 have l:t=r:=by
  grind [List.map_inj_right,Iw]
 subst l;refine ⟨k.size,?_,k.env,k.heap⟩;rw [f];refine ⟨w.heap.size::t,by rw [y];rfl,i5.2 ⟨λf=>ir _ (o _ f).2.1,v⟩,λb f=>?_⟩;rcases fP.1 f with rfl | f
 .exact ⟨fO g j.heap.size0,by rw [World.size_alloc];omega,λu=>ir _ (j.heap.ltO u),by show (w.heap.push _)[w.heap.size]? =_;simp⟩
 grind
theorem UK {P:Program} {F:Fr} {s:AS} {Q:Exit ->AS ->Prop} {γ:Type} {g:Operand} {X:Array Tmp} {assign body:Code} {a:AV} {f:FuncId} {M:List AV} (hF:F.flat) (hfn:Wt a=some (f,M)) (k:Nat) {j u:List (Nat×AV)} (hg:AS.ev ⟨s.n,j,s.hp⟩ g=some a) {U A z:Hp} {hp' CH:Nat ->Hp} {RR:γ ->Prop} {H2 hpf:γ ->Hp} {pd:γ ->Option Code} (D:Nat ->γ ->HP)
  (hE:AX k s.env=some j) (hH:AT k s.hp=some U) (hn:∀l,CP U k (.loop ⟨l,s.n,j,.ready,none,X,assign,body⟩)=some (hp' l))
  (hc:∀l,AJ P f (.d (.raw (Cs l))::M) (CH l) λr H'=>r= .tup []/\∃y,RR y/\H'=(k,[.loop (D l y)])::H2 y)
  (hL2:∀l y,RR y ->(D l y).id=l/\(D l y).st≠ .busy/\(D l y).pend=pd y)
  (I:List Nat) (hfe:∀l,Bp (hp' l) (CH l) I) (hcn:∀l,AP I (CH l)=true) (hr0:∀l,CE I (hp' l)=some A) (hE2:∀l,B8 (B9 (CH l) I) j=some u) (hH2:∀l,Bv (B9 (CH l) I) A=some z)
  (hR:∀l y,RR y ->AP I ((k,[.loop (D l y)])::H2 y)=true/\FJ I ((k,[.loop (D l y)])::H2 y)=true)
  (E:List Nat) (hlf:ed k E=false) {pn:List Nat} (hpn:F.pn=pn) (S:JR pn E=true) (C:∀l y,RR y ->BQ ((k,[.loop (D l y)])::H2 y++z) E=some (hpf y))
  (hK:∀y,RR y ->match pd y with | none=>Q .normal ⟨s.n,u,hpf y⟩ | some c=>Bl P F c Q ⟨s.n,u,hpf y⟩):
  Bl P F (.rangeFunc g X assign body) Q s:=λρ H w hs=>by
 have K:Pq F.rnd=Fence.wide:=by rw [hF.1];rfl
 rw [K];refine wpIn_rangeFunc λfn _=>?_;have hm:=hs.mark hF.2
 let r0:Loop:={state:= .ready,pending:=none,fn:=fn,tmps:=H.tmps,params:=X,assign:=assign,body:=body,defers:=w.heap.size}
 let w1:World:=(w.alloc (.deferred (some []))).alloc (.loop r0)
 have J:(w.alloc (.deferred (some []))).heap.size=w.heap.size+1:=by rw [World.size_alloc]
 have h2:=hm.new k (.loop ⟨w.heap.size+1,s.n,j,.ready,none,X,assign,body⟩) (.pointer (some ⟨w.heap.size+1,0,none⟩)) (.loop r0) hE hH (hn (w.heap.size+1)) (by rw [J];rfl) (λT=>by
  refine ⟨r0,Z,?_,⟨Z,Z,Z,Z,Z⟩,hs.size,λt a ha=>?_⟩
  .rw [<-J];exact World.alloc_heap_new _ _
  .rcases BR hE ha with rfl | ⟨h1,h2⟩
   .exact .top
   .exact T _ _ h2 (hm.env t a h1))
 obtain ⟨vs,R,hl,hvs⟩:=VW (h2.ev (x:=g) (a:=a) (by cases g<;>exact hg)) hfn;have hv':H.eval g= .func (.func f) #[] vs.toArray:=R;obtain ⟨fd,c1,c2,c3⟩:=(hc (w.heap.size+1)).1;have hb':¬fd.body=none:=by intro h;rw [h] at c3;cases c3
 have hn':¬fd.name= "runtime.NumGoroutine" :=by simpa using c2
 refine ⟨w.heap.size+1,[Iw w.heap.size],w1,{target:= .fn (.func f) vs.toArray,args:= #[Cs (w.heap.size+1)]},w1,f,(Cs (w.heap.size+1)::vs).toArray,w1,run_enterLoop_outer _ _ _ _ _,?_,λ_ _=>trivial,?_,(λh=>by cases h),?_⟩
 .have he:H.eval (.const (Cs (w.heap.size+1)))=Cs (w.heap.size+1):=rfl;simp only [resolve]
  simp [hv',Deferred.ofValue,he]
 .simp [invoke,callFunc,c1,hn',hb']
 refine Lg (r:=none) ((El h2 (hc (w.heap.size+1)) (vs:=Cs (w.heap.size+1)::vs) (by simp [hl]) (λi x v hx R=>?_) I (hfe _) (hcn _) (hr0 _) (hE2 _) (hH2 _) (λr H' hh=>?_)).mono λe w3 hh=>?_)
 .cases i with
  | zero=>simp at hx R;subst hx R;exact .d (.raw Z)
  | succ i=>exact hvs i x v (by simpa using hx) (by simpa using R)
 .obtain ⟨rfl,y,O,rfl⟩:=hh;obtain ⟨h4,h5⟩:=hR (w.heap.size+1) y O;exact ⟨h4,h5,Z⟩
 .obtain ⟨v,r,H',N,rfl,⟨rfl,y,hy,rfl⟩,_,O,_⟩:=hh;obtain ⟨l1,l2,l3⟩:=hL2 (w.heap.size+1) y hy;have o:dr ((k,[.loop (D (w.heap.size+1) y)])::H2 y++z) k 0=some (.loop (D (w.heap.size+1) y)):=by simp [dr,eQ,gl,gV]
  obtain ⟨r3,p1,Y,⟨p3,p4,_⟩,_,_⟩:=O.heap.sim k 0 _ o;rw [l1] at p1 Y;have h4:=O.only E hpn S (C _ y hy)
  have hnO:¬F.O N (hpf y) (w.heap.size+1):=λho=>by
   rcases ho with ho | ⟨W,i',o',q1,q2⟩
   .exact O.heap.notOf ⟨k,0,_,o,by rw [p1];rfl⟩ ho
   .obtain ⟨m1,_⟩:=Dh (C (w.heap.size+1) y hy);have B:=q1;simp only [dr] at B
    cases hf:eQ (hpf y) W with
    | none=>rw [hf] at B;cases B
    | some x=>
     have q3:dr ((k,[.loop (D (w.heap.size+1) y)])::H2 y++z) W i'=some o':=by
      simp only [dr];rw [(m1 W x hf).2];rw [hf] at B;exact B
     obtain ⟨e1,_⟩:=O.heap.inj W i' k 0 _ _ _ q3 o q2 (by rw [p1];rfl);have:=Fd.2 (m1 W x hf).1;rw [e1,hlf] at this;cases this
  have h5:=h4.putObj (b:=w.heap.size+1) (o':= .loop {r3 with state:= .exhausted}) (ds:=Iw w.heap.size::H.defers) (fO hs.heap.size0 (Nat.le_succ _)) Y (λc t x e=>by cases e) hnO ?_
  .have V:=run_endLoop (P:=P) Y (by rw [p3];exact l2);have hpe:r3.pending=pd y:=p4.trans l3;refine ⟨pd y,_,V.trans (fL (λp=>Result.ok p (w3.putObj (w.heap.size+1) (.loop {r3 with state:= .exhausted}))) hpe),?_⟩;have hk:=hK y hy
   cases hpd:pd y with
   | none=>rw [hpd] at hk;exact ⟨_,N,hk,h5⟩
   | some c=>rw [hpd] at hk;have:=hk N _ _ h5;rw [K] at this;exact this
  .have G:=h4.defs
   cases hl:F.lo with
   | exact L=>rw [hl] at G;exact G
   | marks m=>
    rw [hl] at G;obtain ⟨bs,d1,d2,d3⟩:=G;refine ⟨bs,d1,d2,λb hb=>?_⟩;obtain ⟨e1,e2,e3,e4⟩:=d3 b hb;refine ⟨e1,by rw [World.putObj_size];exact e2,e3,?_⟩;rw [World.putObj_heap_other λe=>by rw [e,Y] at e4;cases e4];exact e4
def qa (Q:Exit ->AS ->Prop):Exit ->AS ->Prop
 | .goto _,_=>False
 | e,s=>Q e s
theorem XP {c:Code} (h:Bl P F c (qa Q) s):Bl P F (.scope c) Q s:=λG o w I b k y z D B=>by
 have u:(lone (b.atR o (.code (.scope c)::k)) y w).fenced P (Pq F.rnd):=fenced_calm D B rfl;have t:step P (lone (b.atR o (.code (.scope c)::k)) y w)= .next (lone (b.atR o (.code c:: .inScope c::k)) y w):=step_lone_go (by simp [stepG,stepG.exec,Frame.atR]);obtain ⟨e,g,f,r,a⟩:=h G o w I b (.inScope c::k) y z D B;obtain ⟨v,i,r,j⟩:=r
 cases e with
 | normal=>exact ⟨.normal,g,f,⟨v,i,r,j⟩,.head u t (StepsIn.trans a (.one (fenced_calm D B Z) (step_lone_go (by simp [stepG,stepG.exec,Frame.atR]))))⟩
 | exit id=>
  have E:exitTo id (.inScope c::k)=exitTo id k:=by simp [exitTo]
  exact ⟨.exit id,g,f,⟨v,i,r,j⟩,λH C=> .head u t (a.1 H (by rw [E];exact C)),λA C=>let ⟨x,K,J⟩:=a.2 A (by rw [E];exact C);⟨x,K,.head u t J⟩⟩
 | goto l=>exact r.elim
 | ret=>exact ⟨_,g,f,⟨v,i,r,j⟩,.of_steps (.one u t) a⟩
 | panic L=>exact ⟨_,g,f,⟨v,i,r,j⟩,.of_steps (.one u t) a⟩
 | outgrown=>exact ⟨_,g,f,⟨v,i,r,j⟩,.of_steps (.one u t) a⟩
section
variable {α β:Type}
def HT (step:β ->α ->β×Bool):β ->List α ->β
 | b,[]=>b
 | b,x::r=>match step b x with
  | (b',true)=>HT step b' r
  | (b',false)=>b'
def Lk (P:Program) (l:Nat) (enc:α ->List AV) (H:β ->Hp) (step:β ->α ->β×Bool):β ->List α ->Prop
 | _,[]=>True
 | b,x::r=>Fu P l (enc x) (H b) (λv H'=>v= .d (.raw (.bool (step b x).2))/\H'=H (step b x).1)/\((step b x).2=true ->Lk P l enc H step (step b x).1 r)
end
variable {Q:Exit ->AS ->Prop} {a c:Nat ->Nat ->Bool} {f:List (Nat×AV)} {P:Program} {g:AV} {h:Hp} {i:Nat} {F:Fr}
theorem AV.okS_mono (b:∀f i,c f i=true ->a f i=true) (h:g.okS c=true):g.okS a=true:=by
 cases g<;>first | rfl | exact b _ _ h | cases h
theorem NI (j:∀f i,c f i=true ->a f i=true) {as:List AV} (h:YP c as=true):YP a as=true:=by
 induction as with
 | nil=>rfl
 | cons b r g=>
  grind [YP,AV.okS_mono]
theorem AV.ok_mono (j:∀f i,c f i=true ->a f i=true) (h:g.ok c=true):g.ok a=true:=by
 cases g with
 | tup as=>exact NI (as:=as) j h
 | agg as=>exact NI (as:=as) j h
 | fn b as=>exact NI (as:=as) j h
 | d x=>rfl
 | top=>rfl
 | ptr b i o=>exact j b i h
 | own b i n=>exact j b i h
 | rptr b i k e o=>exact j b i h
 | map b i=>exact j b i h
 | ifc T l b i=>exact j b i h
theorem PS (a:Hp):CE (gW a) a=some []:=by
 have c:∀(a:Hp) (b:List Nat),(∀f∈gW a,f∈b) ->CE b a=some []:=by
  intro a
  induction a with
  | nil=>intro b _;rfl
  | cons p r i=>
   intro b h;obtain ⟨g,l⟩:=p;simp only [CE,i b λf j=>h f (gG _ j),Fd.2 (h g fu)]
 grind
theorem EK (a:Hp):AP (gW a) a=true:=by
 have c:∀(a:Hp) (b:List Nat),(∀f∈gW a,f∈b) ->AP b a=true:=by
  intro a
  induction a with
  | nil=>intro b _;rfl
  | cons p r i=>
   intro b h;obtain ⟨g,l⟩:=p;simp only [AP,fV];exact ⟨Fd.2 (h g fu),i b λf j=>h f (gG _ j)⟩
 grind
theorem bY {g:Hp} {b:Bool} {j:Array Oper} {a:List Oper} {l d:Nat} {x:Operand} {v:List Operand} {args:List AV} {s:Array TypeId} {A:TypeId} {k:String} {t:Array Edge}
  (C:Fu P l args h λr u=>r= .d (.raw (.bool b))/\u=g) (w:AS.ev ⟨i,f,h⟩ x=some (.d (.raw (Cs l)))) (c:KH ⟨i,f,h⟩ v=some args)
  (D:gW g=gW h) (G:FJ (gW h) g=true) (I:L4 (λ_ _=>false) f=true) (B:Nat.blt d i=true)
  (E:A8 P F j a Q ⟨i,(d,.d (.raw (.bool b)))::f,g⟩):
  A8 P F j (⟨some d,.call {callee:= .value x,args:=v.toArray,argTypes:=s},A,k,t,none⟩::a) Q ⟨i,f,h⟩:=by
 have o:∀p,B8 p f=some f:=λp=>by
  clear w c E
  induction f with
  | nil=>rfl
  | cons q r H=>
   grind [L4,AV.ok_mono,B8]
 refine S7 w c C (gW h) (Ek λ_ _=>rfl) (EK h) (PS h) (o _) Z (λr u ⟨z,y⟩=>by subst z y;exact ⟨by rw [<-D];exact EK _,G,Z⟩) B λr u ⟨z,y⟩=>?_
 grind
theorem Bp.mem {i:Hp} {f:List Nat} (b:Bp h i f) {g:Nat} (c:g∈f):eQ h g=eQ i g:=by
 induction f with
 | nil=>cases c
 | cons a r j=>
  rcases fP.1 c with rfl | c
  .exact b.1
  .exact j b.2 c
theorem XQ {γ:Type} {t C:List (Nat×AV)} {G:Hp} {j:Operand} {K:Array Tmp} {u z:Code} {o:FuncId} {J:List AV} (hF:F.flat) (v:Nat) (hE:AX v f=some t) (M:AS.ev ⟨i,t,h⟩ j=some g) (hfn:Wt g=some (o,J))
  (hH:AT v h=some G) (hfr:eQ G v=none) (D:List Nat) {CHr E w:Hp} (RR:γ ->Prop) (H2:γ ->Hp) (S:γ ->LoopState) (pd:γ ->Option Code)
  (hfe:Bp G CHr D) (hcn:AP D CHr=true) (Y:ed v D=false) (U:CE (v::D) G=some E) (hE2:∀L:HP,B8 (B9 ((v,[.loop L])::CHr) (v::D)) t=some C) (hH2:∀L:HP,Bv (B9 ((v,[.loop L])::CHr) (v::D)) E=some w)
  (hI:L4 (I7 (v::D)) t=true) (T:∀y,RR y ->S y≠ .busy) (hR:∀y,RR y ->AP (v::D) (H2 y)=true/\FJ (v::D) (H2 y)=true)
  {pn:List Nat} (I:List Nat) (W:F.pn=pn) (N:JR pn I=true) (O:ed v I=false) (hdrop:∀y,RR y ->BQ (H2 y++w) I=some (H2 y++w))
  (hc:∀l (A B:Code),A=u ->B=z ->AJ P o (.d (.raw (Cs l))::J) ((v,[.loop ⟨l,i,t,.ready,none,K,A,B⟩])::CHr) λr H'=>r= .tup []/\∃y,RR y/\H'=(v,[.loop ⟨l,i,t,S y,pd y,K,A,B⟩])::H2 y)
  (hK:∀y,RR y ->match pd y with | none=>Q .normal ⟨i,C,H2 y++w⟩ | some c=>Bl P F c Q ⟨i,C,H2 y++w⟩):
  Bl P F (.rangeFunc j K u z) Q ⟨i,f,h⟩:=by
 have X:∀f',f'∈D ->f'≠v:=λf' b e=>by
  have:=Fd.2 (e▸b);rw [Y] at this;cases this
 have hpc:∀(x:List AI) (V:Hp) (l:List Nat),ed v l=false ->BQ ((v,x)::V) l=BQ V l:=λx V l hl=>by
  induction l with
  | nil=>rfl
  | cons g r ih=>
   grind [ed,HV,BQ,eQ]
 refine UK (s:=⟨i,f,h⟩) (γ:=γ) (RR:=RR) (H2:=H2) (pd:=pd) (hpf:=λy=>H2 y++w) hF hfn v M (λl y=>⟨l,i,t,S y,pd y,K,u,z⟩) (hp':=λl=>(v,[.loop ⟨l,i,t,.ready,none,K,u,z⟩])::G) (CH:=λl=>(v,[.loop ⟨l,i,t,.ready,none,K,u,z⟩])::CHr) hE hH (λl=>by simp only [CP,hfr,S9]) (λl=>hc l _ _ Z Z) (λl y R=>⟨Z,T y R,Z⟩)
  (v::D) (λl=>Ek λj M=>?_) (λl=>?_) (λl=>?_) (λl=>hE2 _) (λl=>hH2 _) (λl y R=>?_) I O W N (λl y R=>?_) hK
 .rcases fP.1 M with rfl | M
  .simp [eQ]
  .simp only [eQ,HV (λe=>X j M e.symm)];exact hfe.mem M
 .simp only [AP,fV];refine ⟨Fd.2 fu,?_⟩
  have key:∀(H:Hp),AP D H=true ->AP (v::D) H=true:=by
   intro H
   induction H with
   | nil=>intro _;rfl
   | cons p r ih=>
    obtain ⟨k,x⟩:=p;simp only [AP,fV]
    exact λ⟨h1,h2⟩=>⟨Fd.2 (gG _ (Fd.1 h1)),ih h2⟩
  grind
 .simp only [CE,U,Fd.2 (fu (a:=v) (l:=D))]
 .obtain ⟨h1,h2⟩:=hR y R;simp only [AP,FJ,Bk,fV,Bool.and_true];exact ⟨⟨Fd.2 fu,h1⟩,hI,h2⟩
 grind
end Go.Proofs.YteifpcnphnhaoaaGreat
