import Derived.Test.YteifpcnphnhaoaaGreatMg7
import Derived.Laws.Cover3
namespace Go.Proofs.YteifpcnphnhaoaaGreat
open Go.RowKit
theorem SR.adoptC {P:Program} {F:Fr} {s:AS} {S:Nat ->Nat ->Value} {J:Act} {w:World} (h:SR F s S J w) (g i v f:Nat) {T E t:TypeId} {K R:Nat} (_S:fB P T E K R) {L z:List AV} {r:List (Nat×AV)} {C y D:Hp}
  (hE:AX f s.env=some r) (V:AT f s.hp=some C) (hh:CP C f (.rowD E K [])=some y) (G:dr y g i=some (.blk t L)) (hc:L[v]? =some (.d (.sl (some true) []))) (M:EE L v [.own f 0 0]=some z) (B:BL y g i (.blk t z)=some D):
  SR F ⟨s.n,r,D⟩ (upd S f 0 (.slice none 0 0)) J w:=by
 obtain ⟨h1,h2⟩:=Gl hh;have A:=h.set f 0 (.rowD E K []) (.slice none 0 0) hE V h1 (λt L e=>by obtain ⟨o,G,_⟩:=(Ak V).2 _ _ _ e;rw [h2] at G;cases G) (λb hb=>by cases hb) Z Z Z (ϖ _) (λ_ _ _=>rfl) (λ_=>⟨[],World.ownsRow_nil w 0 E K,⟨by simp,by simp,λi x hx=>by simp at hx⟩,by simp⟩);refine A.write g i _ (.blk t z) G (Ai B) Z Z Z Z (λ_ _=>rfl) (λ_ _ _=>⟨_,_,Z⟩) (λU=>?_);obtain ⟨b,W,e1,e2,e3,e4,e5⟩:=A.heap.sim g i _ G;obtain ⟨s1,Y,X⟩:=Cu _ _ _ _ M;refine ⟨b,W,e1,e2,by rw [e3,Y],λj c u l hu=>?_,e5⟩;rw [X] at l
 split at l
 .rename_i hj
  have O:j=v:=by simp at hj;omega
  subst O
  simp at l;subst l
  have N:=e4 j _ u hc hu
  cases N with
  | d N=>
   cases N with
   | @sl _ _ a n cap k hn hz H hcc hm hk ha hp=>
    have Q:a=none:=by simpa using hn true rfl
    subst Q;have I:=hz rfl
    simp at H
    subst I H;exact .own Oq (ϖ _)
 grind
section
variable {P:Program} {F:Fr} {Q:Exit ->AS ->Prop} {s:AS} {c:Code} {ops:Array Oper} {l:List Oper}
theorem Cp {z:Nat} {u:List (Nat×AV)} {B:Hp} (g i b f:Nat) {T E t:TypeId} {A y:Nat} (S:fB P T E A y) {x v:List AV} {a:List (Nat×AV)} {o j r:Hp}
  (J:AX f u=some a) (I:AT f B=some o) (G:CP o f (.rowD E A [])=some j) (D:dr j g i=some (.blk t x)) (H:x[b]? =some (.d (.sl (some true) []))) (w:EE x b [.own f 0 0]=some v) (k:BL j g i (.blk t v)=some r) (h:Bl P F c Q ⟨z,a,r⟩):Bl P F c Q ⟨z,u,B⟩:=λ_ _ _ C=>h _ _ _ (C.adoptC g i b f S J I G D H w k)
end
theorem AN.nilSplit {w:World} {O:Nat ->Prop} {n:Option Bool} {g:List D} {v:Value} (h:AN w O (.sl n g) v):(g=[]/\AN w O (.sl (some true) []) v)\/AN w O (.sl (some false) g) v:=by
 cases h with
 | @sl _ _ a m u k x i c r l o s j=>
  cases a with
  | none=>
   have:=i rfl;have t:g=[]:=ij (by omega);subst t;exact .inl ⟨Z,.sl k (λb f=>by injection f with f) i c r l o s j⟩
  | some y=>exact .inr (.sl k (λb f=>by injection f with f) i c r l o s j)
section
variable {P:Program} {F:Fr} {Q:Exit ->AS ->Prop} {n:Nat} {env:List (Nat×AV)} {hp:Hp} {c:Code}
theorem FF {g:Array Oper} {l:List Oper} (t:Nat) {b:Option Bool} {r:List D} (A:get env t=some (.d (.sl b r))) (C:r=[] ->A8 P F g l Q ⟨n,(t,.d (.sl (some true) []))::env,hp⟩) (B:A8 P F g l Q ⟨n,(t,.d (.sl (some false) r))::env,hp⟩):A8 P F g l Q ⟨n,env,hp⟩:=λk f w j=>by
 have o:=j.env t _ A
 have i:∀x:D,AN w (F.O k hp) x (f.tmps.getD t undef) ->SR F ⟨n,(t,.d x)::env,hp⟩ k f w:=λx z=>⟨j.size,j.defs,λy a s=>by
  rcases LR s with ⟨rfl,rfl⟩ | ⟨_,s⟩
  .exact .d z
  .exact j.env y a s,j.heap⟩
 generalize u:f.tmps.getD t undef=v at o
 cases o with
 | d o=>
  rcases o.nilSplit with ⟨E,h⟩ | h
  .exact C E k f w (i _ (by rw [u];exact h))
  .exact B k f w (i _ (by rw [u];exact h))
end
section
variable {P:Program} {F:Fr} {s:AS} {d:Nat} {ty T T' E:TypeId} {pos:String} {aft:Array Edge} {g:Option (Nat×Bool)} {x:Operand}
theorem Dy {b:Bool} {l:List D} (A:P.underlying T=some (.slice E)) (o:s.ev x=some (.d (.sl (some b) l))) (z:Nat.blt d s.n=true):AA P F ⟨some d,.binOp .eql T x (.const (.slice none 0 0)) T',ty,pos,aft,g⟩ s d (.d (.raw (.bool b))):=
 Cd _ z λB c w t=>by
  have f:=t.ev o
  generalize r:c.eval x=v at f
  cases f with
  | d f=>
   cases f with
   | @sl _ _ a m i k u C y j H I J G=>
    have h:=u b rfl;have j:c.eval (.const (.slice none 0 0))= .slice none 0 0:=rfl;subst h;exact ⟨.bool a.isNone,by simp [execOp,r,j,eqGuard,binOp,run_equal_slice_nil w T E a m i A],.d (.raw Z)⟩
end
variable {a:Nat ->Nat ->Value} {c:Nat ->Prop} {f:List AV} {g:AV} {h:FuncId} {w:World} {i:Value}
def Wt:AV ->Option (FuncId×List AV)
 | .fn g caps=>some (g,caps)
 | .d (.raw (.func (.func g) ⟨[]⟩ ⟨[]⟩))=>some (g,[])
 | _=>none
theorem VW (j:AR w c a g i) (k:Wt g=some (h,f)):
  ∃l:List Value,i= .func (.func h) #[] l.toArray/\l.length=f.length/\∀(b:Nat) g i,f[b]? =some g ->l[b]? =some i ->AR w c a g i:=by
 unfold Wt at k
 split at k
 .injection k with k;injection k with h1 h2;subst h1 h2
  cases j with
  | @fn _ _ l o j=>exact ⟨l,Z,o,j⟩
 .injection k with k;injection k with h1 h2;subst h1 h2
  cases j with
  | d j=>cases j with | raw j=>exact ⟨[],rfl,rfl,by simp⟩
 .cases k
def dL:List D ->List AV
 | []=> []
 | d::r=> .d d::dL r
theorem dW {l:List D} {i:Nat} (h:(dL l)[i]? =some g):∃d,l[i]? =some d/\g= .d d:=by
 induction l generalizing i with
 | nil=>simp [dL] at h
 | cons x r b=>
  grind [dL]
theorem I1 (l:List D):(dL l).length=l.length:=by induction l with | nil=>rfl | cons x r ih=>simp [dL,ih]
def Qk:AV ->Option (FuncId×List AV×List AV)
 | .fn g caps=>some (g,[],caps)
 | .d (.fn g fs caps)=>some (g,dL fs,dL caps)
 | .d (.raw (.func (.func g) ⟨[]⟩ ⟨[]⟩))=>some (g,[],[])
 | _=>none
theorem Qj {x:List AV} (j:AR w c a g i) (k:Qk g=some (h,x,f)):
  ∃o l:List Value,i= .func (.func h) o.toArray l.toArray/\o.length=x.length/\l.length=f.length/\(∀(b:Nat) g i,x[b]? =some g ->o[b]? =some i ->AR w c a g i)/\∀(b:Nat) g i,f[b]? =some g ->l[b]? =some i ->AR w c a g i:=by
 unfold Qk at k
 split at k
 .injection k with k;injection k with h1 h2;injection h2 with h2 h3;subst h1 h2 h3
  cases j with
  | @fn _ _ l z j=>exact ⟨[],l,Z,Z,z,by simp,j⟩
 .injection k with k;injection k with h1 h2;injection h2 with h2 h3;subst h1 h2 h3
  cases j with
  | d j=>
   cases j with
   | @fn _ _ _ o l t s B A=>
    refine ⟨o,l,Z,by rw [I1];exact t,by rw [I1];exact s,λb g i u r=>?_,λb g i u r=>?_⟩
    .obtain ⟨d,y,rfl⟩:=dW u;exact .d (B b d i y r)
    .obtain ⟨d,y,rfl⟩:=dW u;exact .d (A b d i y r)
 .injection k with k;injection k with h1 h2;injection h2 with h2 h3;subst h1 h2 h3
  cases j with
  | d j=>cases j with | raw j=>exact ⟨[],[],rfl,rfl,rfl,by simp,by simp⟩
 .cases k
section
variable {P:Program} {F:Fr} {s:AS} {d:Nat} {ty T T':TypeId} {pos:String} {aft:Array Edge} {g:Option (Nat×Bool)} {at_:Array TypeId} {x:Operand}
variable {a:List Operand} {f:FuncId} {c:List AV} {h:List (Nat×AV)} {i:List Operand} {j:List AV} {k:Act} {w:World} {o t u:Hp}
theorem Ka {c:Func} (v:P.funcs[f]? =some c) (b:(c.name== "runtime.NumGoroutine")=false) (o:c.body.isSome=true) {l j:List Value} {i:Option Nat} (u:k.eval x= .func (.func f) l.toArray j.toArray):
  (execOp k.eval ⟨i,.call {callee:= .value x,args:=a.toArray,argTypes:=at_},ty,pos,aft,g⟩).run P w= .ok (.enter f (l++(a.map k.eval++j)).toArray) w:=by
 have t:¬c.body=none:=by intro h;rw [h] at o;cases o
 have r:¬c.name= "runtime.NumGoroutine" :=by simpa using b
 simp [*,execOp,resolve,Deferred.ofValue,invoke,callFunc]
def OQ (s:AS) (x:Operand) (xs:List Operand):Option (FuncId×List AV):=match s.ev x with
 | none=>none
 | some a=>match Qk a with
  | none=>none
  | some (f,fs,caps)=>match KH s xs with
   | none=>none
   | some l=>some (f,fs++(l++caps))
theorem Hx {r:Nat ->Nat ->Value} (u:SR F s r k w) (h:OQ s x a=some (f,c)):
  ∃o j:List Value,k.eval x= .func (.func f) o.toArray j.toArray/\(o++(a.map k.eval++j)).length=c.length/\∀(i:Nat) b v,c[i]? =some b ->(o++(a.map k.eval++j))[i]? =some v ->AR w (F.O r s.hp) r b v:=by
 unfold OQ at h
 split at h
 .cases h
 .rename_i b z
  split at h
  .cases h
  .rename_i C B t y
   split at h
   .cases h
   .rename_i l A
    injection h with h;injection h with h1 h2;subst h1 h2
    obtain ⟨o,j,H,I,G,D,E⟩:=Qj (u.ev z) y
    grind [CJ]
theorem PL {R:AV ->Hp ->Prop} (E:AJ P f c u R) (j:OQ s x a=some (f,c))
  (b:List Nat) (A:Bp s.hp u b) (B:AP b u=true) (z:CE b s.hp=some o) (L:B8 (B9 u b) s.env=some h) (K:Bv (B9 u b) o=some t)
  (J:∀r i,R r i ->AP b i=true/\FJ b i=true/\r.ok (I7 b)=true) (I:Nat.blt d s.n=true):
  O0 P F ⟨some d,.call {callee:= .value x,args:=a.toArray,argTypes:=at_},ty,pos,aft,g⟩ s (λG=>∃r i,R r i/\G=⟨s.n,(d,r)::h,i++t⟩):=λW V w D=>by
 obtain ⟨fn,S,Q,O⟩:=E.1;obtain ⟨us,Y,H,N,M⟩:=Hx D j;unfold Oper.wp;rw [Ka S Q O H,Oper.upon_enter];refine (El D E N M b A B z L K J).mono λe X ⟨v,r,i,k,U,C,l,y,_⟩=>?_;subst U;exact ⟨_,k,⟨Z,r,i,C,Z⟩,y.put (IB I) l⟩
theorem UZ {z:Hp} {A:AV} (N:AJ P f c u λr L=>r=A/\L=z) (j:OQ s x a=some (f,c))
  (b:List Nat) (D:Bp s.hp u b) (E:AP b u=true) (C:CE b s.hp=some o) (U:B8 (B9 u b) s.env=some h) (S:Bv (B9 u b) o=some t)
  (I:AP b z=true) (H:FJ b z=true) (G:A.ok (I7 b)=true) (R:Nat.blt d s.n=true) {y:Hp} (i:some (z++t)=some y):
  AH P F ⟨some d,.call {callee:= .value x,args:=a.toArray,argTypes:=at_},ty,pos,aft,g⟩ s ⟨s.n,(d,A)::h,y⟩ (B9 u b):=by
 injection i with i
 subst i;intro ρ act w M;obtain ⟨fn,Z,Y,X⟩:=N.1;obtain ⟨us,vs,O,W,V⟩:=Hx M j;unfold Oper.wp;rw [Ka Z Y X O,Oper.upon_enter];refine (El M N W V b D E C U S (λr L ⟨K,J⟩=>by subst K J;exact ⟨I,H,G⟩)).mono λe w' ⟨v,r,L,k,K,⟨J,e3⟩,l,B,Q⟩=>?_;subst K J e3;exact ⟨k,B.put (IB R) l,Q⟩
theorem K6 {y:D} (N:AK P f c y) (C:OQ s x a=some (f,c)) (Q:Nat.blt d s.n=true):
  AA P F ⟨some d,.call {callee:= .value x,args:=a.toArray,argTypes:=at_},ty,pos,aft,g⟩ s d (.d y):=by
 refine ⟨Q,Z,λt act w G=>?_⟩;obtain ⟨fn,X,W,V⟩:=N.1;obtain ⟨us,vs,I,U,S⟩:=Hx G C;unfold Oper.wp;rw [Ka X W V I,Oper.upon_enter];have z:∀t b,¬Am t [] b:=λt b ⟨_,_,_,h,_⟩=>by cases h
 let L:Fr:=Fr.mk none (.marks w.heap.size) w (F.O t s.hp) (Am t []) (CS t []) (λb A=>⟨by
  rcases A with A | A
  .exact hU (F.hOf b A).1 G.heap.size0
  .exact (G.heap.mine b A).1,z t b⟩) [] (λ_ _ _ h=>DF h)
 have O:∀u,L.O u []=F.O t s.hp:=λu=>funext λb=>propext ⟨λh=>h.elim id λh=>(z u b h).elim,.inl⟩
 have B:BP L [] t w:=⟨(λf i o J=>by cases J),(λf i f' i' o o' b J=>by cases J),λb A=>(z t b A).elim,Z,Z,Z,ϖ _,λ_ _ _=>rfl,λf i b A=>mL A,ϖ _⟩
 refine (N.2 L t _ Z Z ⟨Z,Z,Z⟩ B U (λi j v R I=>by rw [O];exact S i j v R I)).mono λe M ⟨v,r,H',u,e1,⟨e2,Y⟩,k,l⟩=>?_;subst e1 e2 Y;have H:∀b,b<w.heap.size ->M.heap[b]? =w.heap[b]?:=λb K=>l.keep b K (z t b);have E:w.heap.size<=M.heap.size:=l.size0;refine ⟨v,Z,?_,G.heap.stay ⟨l.os,l.tape,l.output,fO G.heap.drawn l.drawn⟩ E H,E,H⟩
 cases k with
 | d k=>rw [O] at k;exact .d k
theorem qX (h:KH s i=some j) (c:Nat.blt d s.n=true):
  AA P F ⟨some d,.makeFunc (.func f) #[] i.toArray,ty,pos,aft,g⟩ s d (.fn f j):=
 Cd _ c λo a w b=>by
  obtain ⟨l,k⟩:=CJ b h;exact ⟨.func (.func f) #[] (i.map a.eval).toArray,by simp [execOp,Instr.makeFunc],.fn l k⟩
theorem RW {o:List Operand} {H:List AV} {ds es:List D} (L:KH s o=some j) (K:KH s i=some H) (E:j=dL ds) (C:H=dL es) (J:Nat.blt d s.n=true):
  AA P F ⟨some d,.makeFunc (.func f) o.toArray i.toArray,ty,pos,aft,g⟩ s d (.d (.fn f ds es)):=
 Cd _ J λz y w G=>by
  obtain ⟨Q,O⟩:=CJ G L;obtain ⟨N,M⟩:=CJ G K;subst E C
  have u:∀(l:List D) (b:Nat) c (v:Value) (A:List Value),(∀(b:Nat) a v,(dL l)[b]? =some a ->A[b]? =some v ->AR w (F.O z s.hp) z a v) ->l[b]? =some c ->A[b]? =some v ->AN w (F.O z s.hp) c v:=λl b c v A h k t=>by
   have B:(dL l)[b]? =some (.d c):=by
    clear h t
    induction l generalizing b with
    | nil=>simp at k
    | cons x r I=>
     cases b with
     | zero=>simp at k;subst k;rfl
     | succ b=>simpa [dL] using I b (by simpa using k)
   have:=h b _ v B t
   cases this with | d h=>exact h
  exact ⟨.func (.func f) (o.map y.eval).toArray (i.map y.eval).toArray,by simp [execOp,Instr.makeFunc],.d (.fn (by rw [Q,I1]) (by rw [N,I1]) (λb c v k t=>u _ b c v _ O k t) λb c v k t=>u _ b c v _ M k t)⟩
end
theorem AJ.frozen {P:Program} {f:FuncId} {c:List AV} {b n k:Nat} {E:TypeId} {xs:List D} (h:AJ P f c [] λr u=>r= .own b 0 n/\u=[(b,[.rowD E k xs])]) (z:n<=xs.length):AK P f c (.sl none (xs.take n)):=by
 refine ⟨h.1,λF w y I H l G C B=>(h.2 F w y I H l G C B).mono λe x ⟨v,r,u,g,L,⟨K,J⟩,i,A⟩=>?_⟩;subst K J
 have o:SR F ⟨1,[(0,.own b 0 n)],[(b,[.rowD E k xs])]⟩ g {tmps:= #[v],defers:=[]} x:=by
  refine ⟨Z,by rw [l.2.2];exact .nil,λt a s=>?_,A⟩;rcases LR s with ⟨rfl,rfl⟩ | ⟨_,s⟩
  .exact i
  .cases s
 have M:Nat.beq b b=true:=gh b;have j:=o.freeze (E:=E) (kk:=k) (xs:=xs) (ys:=xs.take n) (env':=[(0,.top)]) (hp1:=[(b,[.rowD E k xs])]) (hp':=[]) 0 b Z (by simp [dr,eQ,gl,gV]) z Z (by simp [AX,B8,AV.ok,AV.okS,B2]) (by simp [AT,Bv,Dz,Bu]) (by simp [CA]) (by simp [eQ]);exact ⟨v,_,[],g,L,⟨Z,Z⟩,j.env 0 _ Z,j.heap⟩
end Go.Proofs.YteifpcnphnhaoaaGreat
