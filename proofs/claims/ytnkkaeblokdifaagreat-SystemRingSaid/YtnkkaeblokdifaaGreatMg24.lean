import Derived.Test.YtnkkaeblokdifaaGreatMg23
open Go.Proofs.Tryz
namespace Go.Proofs.YtnkkaeblokdifaaGreat
open Go.RowKit
variable {a:Nat ->Nat ->Value} {c:Act} {w:World} {F:Fr} {f:Hp} {s:AS} {M:MF}
set_option maxRecDepth 100000
def ky (M:MF) (x y:D):Prop:=x=y\/∃h T zs,x=dU h zs.length/\Ax M h T 1 zs/\(∀z∈zs,z.one=true)/\y= .sl none zs
theorem AN.melt (hs:SR F s a c w) {g:Nat} (R:cu s.hp g=some [.multi M]) (O:∀b,F.O a f b ->F.O a s.hp b)
  (N:∀i o b,cr s.hp g i=some o ->B2 (a g i)=some b ->¬F.O a f b) {x y:D} {v:Value} (hm:ky M x y) (H:AN w (F.O a f) x v):AN w (F.O a f) y v:=by
 rcases hm with rfl | ⟨h,T,C,rfl,l,G,rfl⟩
 .exact H
 .match h,l with
  | none,l=>
   have l:C=[]:=l;subst l
   cases H with
   | raw _=>exact .sl 0 (λb r=>by cases r) (λ_=>rfl) Z (κ _) (ϱ _) (λx Y=>by cases Y) (λh=>absurd Z h) (λb o r=>by cases r)
  | some (b,j),l=>
   obtain ⟨hle,r⟩:=l
   cases H with
   | raw _=>
    obtain ⟨E,us,g1,S,g3⟩:=hs.rowN R r;obtain ⟨k,cap,e,X,W,q3,V⟩:=G5 g1;injection e with e1 e2 e3
    subst e1 e3
    have K:∀z∈C,z.cells=[z]:=λz B=>by
     have h1:=G z B;have h2:=S.2.1 z B
     cases z with
     | agg cs=>simp [D.one] at h1
     | _=>rfl
    refine .sl 1 (λb r=>by cases r) (λh=>by cases h) Z X W (λz B=>by rw [K z B];rfl) (λ_=>⟨b,0,Z⟩) (λb' o t i z J=>?_);injection t with t
    injection t with hb1 hb2
    subst hb1 hb2;have hil:i<C.length:=(χ.1 J).1;obtain ⟨b2,cur,A,Q,r3,U⟩:=V (by omega);injection A with A
    injection A with A
    subst A;have I:b<w.heap.size:=(fX.1 Q).1
    have hex:∀(q:Nat) j,z.cells[q]? =some j ->∃u,w.cell? ⟨b,0+i*1+q,none⟩=some u/\AN w (F.O a f) j u:=λq P L=>by
     obtain ⟨u,d1,d2,d3⟩:=S.2.2 i z J q P L;exact ⟨u,by rw [fN];exact DD Q U d1,d3.mono (κ _) (λ_ _ _=>rfl) λb _=>O b⟩
    refine .ptr (λq=>(w.cell? ⟨b,0+i*1+q,none⟩).getD undef) I (N b _ b (by rw [Fn R,r];rfl) (by rw [E];rfl)) (g3 z (ϑ J)) (λq P L=>?_) (λq P L=>?_)
    .grind
    grind
theorem SR.melt (S:SR F s a c w) (g i b:Nat) {T:TypeId} {o B:List D} {v:List (Nat×AV)} {G A:Hp} (V:cu s.hp b=some [.multi M])
  (hE:AT b s.env=some v) (hH:AR b s.hp=some G) (hh:Bn b G=some A) (U:cr A g i=some (.rowD T 1 o)) (l:B.length=o.length)
  (K:∀(j:Nat) x y,o[j]? =some x ->B[j]? =some y ->ky M x y) (I:(∀x∈o,x.one=true)/\∀y∈B,y.one=true) (C:BH A g i (.rowD T 1 B)=some f):SR F ⟨s.n,v,f⟩ a c w:=by
 obtain ⟨W,O,N⟩:=S.forget b hE hH hh (λj t cs e=>by
  rw [Fn V] at e
  cases hm:M j with
  | none=>rw [hm] at e;cases e
  | some m=>rw [hm] at e;injection e with e;exact A7.notBlk e)
 have k:∀z:D,z.one=true ->z.cells=[z]:=λz hz=>by
  cases z with
  | agg cs=>simp [D.one] at hz
  | _=>rfl
 refine W.write g i (.rowD T 1 o) (.rowD T 1 B) U (Ag C) Z Z Z Z (λ_ _=>rfl) (λ_ _ e=>by cases e) λE=>?_;obtain ⟨X,Y,Q,k3⟩:=W.heap.sim g i _ U;refine ⟨X,by rw [l];exact Y,⟨by rw [l];exact Q.1,λy J=>by rw [k y (I.2 y J)];rfl,λj y L q h r=>?_⟩,λy J h r=>by rw [k y (I.2 y J),ξ] at r;rw [r];exact I.2 y J⟩;have H:j<o.length:=by rw [<-l];exact (χ.1 L).1
 have R:o[j]? =some o[j]:=ω H;rw [k y (I.2 y (ϑ L))] at r
 cases q with
 | succ q=>cases r
 | zero=>
  injection r with r
  subst r;obtain ⟨u,d1,d2,d3⟩:=Q.2.2 j _ R 0 _ (by rw [k _ (I.1 _ (θ H))];rfl);refine ⟨u,d1,d2,?_⟩;have h3:=AN.melt S V O N (K j _ _ R L) d3;have P:=E (.d y) u (.d h3)
  cases P with | d P=>exact P
section
variable {P:Program} {F:Fr} {Q:Exit ->AS ->Prop} {c:Code} {n:Nat} {env env':List (Nat×AV)} {hp hp1 hp2 hp':Hp}
theorem c7 (g i f:Nat) {M:MF} {T:TypeId} {l:List D} (k:List D) (z:cu hp f=some [.multi M])
  (B:AT f env=some env') (A:AR f hp=some hp1) (v:Bn f hp1=some hp2) (u:cr hp2 g i=some (.rowD T 1 l)) (b:k.length=l.length)
  (o:∀(j:Nat) x y,l[j]? =some x ->k[j]? =some y ->ky M x y) (C:(∀x∈l,x.one=true)/\∀y∈k,y.one=true) (a:BH hp2 g i (.rowD T 1 k)=some hp') (h:Bf P F c Q ⟨n,env',hp'⟩):Bf P F c Q ⟨n,env,hp⟩:=
 λs r w t=>h s r w (t.melt g i f z B A v u b o C a)
end
theorem SR.weakRow {F:Fr} {s:AS} {I:Nat ->Nat ->Value} {B:Act} {w:World} (L:SR F s I B w) (g i:Nat) {T:TypeId} {f k:List D} {r:Hp} (M:cr s.hp g i=some (.rowD T 1 f)) (b:k.length=f.length)
  (E:∀(j:Nat) x y,f[j]? =some x ->k[j]? =some y ->∀w O v,AN w O x v ->AN w O y v) (A:(∀x∈f,x.one=true)/\∀y∈k,y.one=true) (l:BH s.hp g i (.rowD T 1 k)=some r):SR F ⟨s.n,s.env,r⟩ I B w:=by
 have a:∀z:D,z.one=true ->z.cells=[z]:=λz Q=>by
  cases z with
  | agg S=>simp [D.one] at Q
  | _=>rfl
 refine L.write g i (.rowD T 1 f) (.rowD T 1 k) M (Ag l) Z Z Z Z (λ_ _=>rfl) (λ_ _ e=>by cases e) λo=>?_;obtain ⟨N,P,J,R⟩:=L.heap.sim g i _ M;refine ⟨N,by rw [b];exact P,⟨by rw [b];exact J.1,λy C=>by rw [a y (A.2 y C)];rfl,λj y G q c h=>?_⟩,λy C c h=>by rw [a y (A.2 y C),ξ] at h;rw [h];exact A.2 y C⟩;have t:j<f.length:=by rw [<-b];exact (χ.1 G).1
 have K:f[j]? =some f[j]:=ω t;rw [a y (A.2 y (ϑ G))] at h
 cases q with
 | succ q=>cases h
 | zero=>
  injection h with h
  subst h;obtain ⟨u,d1,d2,d3⟩:=J.2.2 j _ K 0 _ (by rw [a _ (A.1 _ (θ t))];rfl);refine ⟨u,d1,d2,?_⟩;have H:=o (.d y) u (.d (E j _ _ K G _ _ _ d3))
  cases H with | d H=>exact H
section
variable {P:Program} {F:Fr} {Q:Exit ->AS ->Prop} {c:Code} {n:Nat} {env:List (Nat×AV)} {hp hp':Hp}
theorem Pa (g i:Nat) {T:TypeId} {k:List D} (f:List D) (t:cr hp g i=some (.rowD T 1 k)) (b:f.length=k.length)
  (l:∀(j:Nat) x y,k[j]? =some x ->f[j]? =some y ->∀w O v,AN w O x v ->AN w O y v) (u:(∀x∈k,x.one=true)/\∀y∈f,y.one=true) (a:BH hp g i (.rowD T 1 f)=some hp') (h:Bf P F c Q ⟨n,env,hp'⟩):Bf P F c Q ⟨n,env,hp⟩:=
 λr o w s=>h r o w (s.weakRow g i t b l u a)
end
variable {a:Nat ->List Nat} {c:Nat} {g:List (List Nat)} {f:Nat ->Nat} {h:List (List Int)} {i:Nat ->List Nat} {j:List (Nat×Nat)} {k:Nat} {S:TS} {o:Option Nat} {s:Nat} {t:List Nat} {u:Nat} {w:Nat ->Hd} {x:Nat} {y:List (Nat×Nat)} {z K:Nat ->Nat} {A:Nat ->Int} {B:Nat} {C:List (Nat×Nat)} {E:List Nat} {F G:Nat} {M:MF} {H:Nat}
structure L8 (M:MF) (n:Nat) (hs:Nat ->Hd) (ls:Nat ->List Nat):Prop where
 at_:∀j,j<n ->Ax M (hs j) 3 1 ((ls j).map AL)
 inj:∀j k b c c',j<n ->k<n ->hs j=some (b,c) ->hs k=some (b,c') ->j=k
abbrev ed (n:Nat) (hs:Nat ->Hd) (ls:Nat ->List Nat):List D:=(List.range n).map λj=>dU (hs j) (ls j).length
theorem JO (h:G<c):(ed c w i)[G]? =some (dU (w G) (i G).length):=by simp [h]
theorem Et (n:Nat) (b:Nat ->Hd) (a:Nat ->List Nat):(ed n b a).length=n:=by simp
theorem R5 {h:Hd}:(ed c w i).set G (dU h t.length)=ed c (Al w G h) (Al i G t):=by grind [Lb,GN,KI]
theorem L8.zero (n:Nat):L8 (λ_=>none) n (λ_=>none) (λ_=> []):=⟨λ_ _=>rfl,λ_ _ _ _ _ _ _ h=>by cases h⟩
theorem L8.app (h:L8 M c w i) (E:G<c) {b:Nat} (H:BV M (w G) b=none) (F:(t.map AL).length<=B):
  L8 (BM (BV M (w G)) b (.row 3 1 B (t.map AL))) c (Al w G (some (b,B))) (Al i G t):=by
 have v:∀k,k<c ->k≠G ->∀f s,w k=some (f,s) ->f≠b/\BM (BV M (w G)) b (.row 3 1 B (t.map AL)) f=M f:=by
  intro k g x f s e;have a:=h.at_ k g;rw [e] at a;have A:∀o,w G≠some (f,o):=λo u=>x (h.inj k G f s o g E e u);refine ⟨λI=>?_,?_⟩
  .subst I;have:=Io a.2 A
   grind
  .rw [fP H a.2 A,a.2]
 refine ⟨λk g=>?_,λk z L K J g y D u=>?_⟩
 .by_cases e:k=G
  .subst e;rw [KI,KI];exact ⟨F,GM _ _ _⟩
  .rw [GN e,GN e];have a:=h.at_ k g
   match hh:w k,a with
   | none,a=>exact a
   | some (f,s),a=>exact ⟨a.1,by rw [(v k g e f s hh).2];exact a.2⟩
 .by_cases C:k=G<;>by_cases r:z=G
  .rw [C,r]
  .grind [KI,GN]
  .grind [KI,GN]
  .rw [GN C] at D;rw [GN r] at u;exact h.inj k z L K J g y D u
def bR (n:Nat) (ls:Nat ->List Nat):List (List Nat):=(List.range n).map ls
theorem T0 (n:Nat) (a:Nat ->List Nat):(bR n a).length=n:=by simp [bR]
theorem S4 (h:s<c):cx (bR c i) s=i s:=by
 rw [Eo (by rw [T0];exact h)];simp [bR]
theorem L8.melt (h:L8 M c w i):∀(j:Nat) x y,(ed c w i)[j]? =some x ->((bR c i).map dI)[j]? =some y ->ky M x y:=by
 intro j x y b f;have g:j<c:=by have:=(χ.1 b).1;rwa [Et] at this
 rw [JO g] at b;injection b with b
 rw [Xr (by rw [T0];exact g),S4 g] at f;injection f with f
 subst b f;exact .inr ⟨w j,3,(i j).map AL,by rw [ψ],h.at_ j g,λz k=>by obtain ⟨a,_,rfl⟩:=υ.1 k;rfl,Z⟩
theorem JV (n:Nat) (f:Nat ->Hd) (b:Nat ->List Nat):∀x∈ed n f b,x.one=true:=λx c=>by
 obtain ⟨a,_,rfl⟩:=υ.1 c;rfl
theorem Zx (g:List (List Nat)):∀x∈g.map dI,x.one=true:=λx b=>by
 obtain ⟨a,_,rfl⟩:=υ.1 b;rfl
theorem Rz (n:Nat):∀(j:Nat) x y,(List.replicate n (D.sl (some true) []))[j]? =some x ->(ed n (λ_=>none) (λ_=> []))[j]? =some y ->∀w O v,AN w O x v ->AN w O y v:=by
 intro j x y a b w O v g;have f:j<n:=by have:=(χ.1 a).1;rwa [List.length_replicate] at this
 rw [JO f] at b;injection b with b
 have c:x=D.sl (some true) []:=by rw [List.getElem?_replicate,ϖ f] at a;injection a with a;exact a.symm
 subst c b;exact g.nrm1
theorem V5 (n:Nat):∀x∈List.replicate n (D.sl (some true) []),x.one=true:=λx a=>by rw [(List.mem_replicate.1 a).2];rfl
theorem nk (g:List (List Nat)) (K:Nat ->Nat):∃a,Pi g K a/\∀y,¬C6 g a y:=by
 have j:∀(m:Nat) (l:List Nat),Pi g K l ->g.length - l.length<=m ->∃a,Pi g K a/\∀y,¬C6 g a y:=by
  intro m
  induction m with
  | zero=>
   intro l h t;refine ⟨l,h,λy c=>?_⟩;obtain ⟨A,w⟩:=II h;have:=DM (gj.2 ⟨c.2.1,A⟩) (m:=List.range g.length) λx o=>Γ.2 ((di.1 o).elim (λe=>e▸c.1) (w x))
   grind
  | succ m s=>
   intro l h t
   by_cases v:∃y,C6 g l y
   .have f:∀(b:Nat) y,C6 g l y ->K y<=b ->∃x,C6 g l x/\∀z,C6 g l z ->K x<=K z:=by
     intro b
     induction b with
     | zero=>intro y c B;exact ⟨y,c,λz _=>by omega⟩
     | succ b r=>
      grind
    obtain ⟨y,c⟩:=v;obtain ⟨x,o,k⟩:=f (K y) y c (κ _);refine s (l++ [x]) (S3 h o k) ?_
    grind
   grind
 exact j _ [] (λi u=>by simp at u) (κ _)
theorem K3 (g:List (List Nat)) (K:Nat ->Nat):Pi g K (eX g K)/\∀y,¬C6 g (eX g K) y:=Classical.epsilon_spec (p:=λa=>Pi g K a/\∀y,¬C6 g a y) (nk g K)
theorem jD {g:List (List Nat)} {K:Nat ->Nat} (h:k<(eX g K).length):cz (eX g K) k<g.length:=(II (K3 g K).1).2 _ (DK h)
theorem Zw (g:List (List Nat)) (K:Nat ->Nat):(eX g K).length<=g.length:=by
 obtain ⟨c,b⟩:=II (K3 g K).1;have:=DM c (m:=List.range g.length) λx a=>Γ.2 (b x a)
 grind
def gz (of:Nat ->Nat) (n:Nat):Nat ->Nat ->Nat
 | 0=>λ_=>0
 | d+1=>Al (gz of n d) (of (n - 1 - d)) (n - 1 - d)
theorem H9 (a:Nat ->Nat) (n:Nat):∀d,d<=n ->∀c,(∃v,n - d<=v/\v<n/\a v=c) ->a (gz a n d c)=c/\gz a n d c<n/\∀v,n - d<=v ->v<n ->a v=c ->gz a n d c<=v
 | 0,_,c,⟨v,r,i,_⟩=>by omega
 | d+1,t,c,⟨v,r,i,h⟩=>by
  unfold gz
  by_cases e:c=a (n - 1 - d)
  .subst e;rw [KI];exact ⟨Z,by omega,λv o _ _=>by omega⟩
  .rw [GN e];have o:v≠n - 1 - d:=λf=>e (by rw [<-h,f]);obtain ⟨l,k,j⟩:=H9 a n d (by omega) c ⟨v,by omega,i,h⟩;refine ⟨l,k,λu s b g=>j u ?_ b g⟩;have:u≠n - 1 - d:=λf=>e (by rw [<-g,f]);omega
def Ta (of:Nat ->Nat) (n cnt:Nat):List Nat:=(List.range cnt).map (gz of n n)
theorem Lk {cnt:Nat} (h:B<cnt):cz (Ta f c cnt) B=gz f c c B:=by grind [Ta,O1]
theorem jY (a:Nat ->Nat) (n cnt:Nat):(Ta a n cnt).length=cnt:=by simp [Ta]
theorem ZW (n:Nat) (f:Nat ->Nat):rowN n f=((List.range n).map f).map AL:=by rw [dl];rfl
theorem nL {cnt:Nat} (h:e9 c a f cnt):∀g b,g<cnt ->b<cnt ->cz (Ta f c cnt) g=cz (Ta f c cnt) b ->g=b:=by
 intro g b k j e;rw [Lk k,Lk j] at e;obtain ⟨v,l,i⟩:=h.use g k;obtain ⟨u,r,o⟩:=h.use b j;have s:=(H9 f c c (κ _) g ⟨v,by omega,l,i⟩).1
 grind [H9]
def WJ (of:Nat ->Nat) (a:Nat) (l:List Nat):List Nat:=(l.filter λx=>decide (of a≠of x)).map of
def Ls (g:List (List Nat)) (of:Nat ->Nat) (i k c:Nat):List Nat:=((List.range i).flatMap λa=>if of a=c then WJ of a (cx g a) else [])++if of i=c then WJ of i ((cx g i).take k) else []
theorem bd (g:List (List Nat)) (a:Nat ->Nat):Ls g a 0 0=λ_=> []:=by funext c;simp [Ls,WJ]
theorem WG (g:List (List Nat)) (a:Nat ->Nat) (i:Nat):Ls g a i (cx g i).length=Ls g a (i+1) 0:=by grind [Ls,ea,WJ]
theorem Sj {a:Nat} (b:k<t.length):WJ f a (t.take (k+1))=WJ f a (t.take k)++if f a≠f (cz t k) then [f (cz t k)] else []:=by grind [WJ,φ,O1]
theorem be {of:Nat ->Nat} (a:k<(cx g s).length) (h:of s≠of (cz (cx g s) k)):Al (Ls g of s k) (of s) (Ls g of s k (of s)++ [of (cz (cx g s) k)])=Ls g of s (k+1):=by grind [KI,Ls,Sj,GN]
theorem bf {of:Nat ->Nat} (a:k<(cx g s).length) (h:¬of s≠of (cz (cx g s) k)):Ls g of s k=Ls g of s (k+1):=by
 funext c
 unfold Ls;rw [Sj a,η h,en]
def Ig (g:List (List Nat)) (i:Nat):Nat:=((List.range i).map λa=>(cx g a).length).sum
theorem WI (b:Nat ->Nat) (a:Nat) (l:List Nat):(WJ b a l).length<=l.length:=by unfold WJ;rw [ψ];exact fx _ _
theorem WH (g:List (List Nat)) (b:Nat ->Nat) (i k c:Nat):(Ls g b i k c).length<=Ig g i+((cx g i).take k).length:=by
 have f:∀m,((List.range m).flatMap λa=>if b a=c then WJ b a (cx g a) else []).length<=Ig g m:=by
  intro m
  induction m with
  | zero=>exact ϱ _
  | succ m h=>
   unfold Ig at h⊢;rw [ea,List.flatMap_append,Ω,du,gV,List.flatMap_singleton,List.map_singleton,List.sum_singleton]
   grind [WI]
 grind [Ls,WI]
theorem O6 (g:List (List Nat)) {i j:Nat} (h:i<=j):Ig g i<=Ig g j:=by
 induction j with
 | zero=>
  have:i=0:=by omega
  subst this;exact κ _
 | succ j a=>
  grind [Ig,ea]
structure GT (g:List (List Nat)):Prop where
 gb:GB g
 tot:Ig g g.length<=1048576
def Ju (g:List (List Nat)) (of:Nat ->Nat) (cnt:Nat):List (List Nat):=bR cnt (Ls g of g.length 0)
theorem nt {cnt:Nat} (o:GT g) (h:e9 g.length (cx g) f cnt):GB (Ju g f cnt):=by
 have t:=o.gb.n;have s:=h.le;refine ⟨by rw [Ju,T0];omega,λl i=>?_,λl i x b=>?_⟩
 .obtain ⟨c,_,rfl⟩:=υ.1 i;have:=WH g f g.length 0 c;have:=o.tot
  simp at*;omega
 .obtain ⟨c,_,rfl⟩:=υ.1 i;rw [Ju,T0]
  have j:∀a l,a<g.length ->(∀x∈l,x<g.length) ->x∈WJ f a l ->x<cnt:=λa l _ i b=>by
   unfold WJ at b;obtain ⟨y,k,rfl⟩:=υ.1 b;exact h.lt y (i y (Ψ.1 k).1)
  unfold Ls at b;rcases ν.1 b with b | b
  .obtain ⟨a,r,b⟩:=List.mem_flatMap.1 b
   split at b
   .exact j a _ (Γ.1 r) (λy k=>o.gb.suc (Γ.1 r) k) b
   .cases b
  grind [WJ]
def Cw (seq:List Nat):Nat ->Nat ->Nat
 | 0=>λ_=>0
 | k+1=>Al (Cw seq k) (cz seq k) k
theorem Vg (a:List Nat) {cnt:Nat} (b:0<cnt) (f:a.length<=cnt):∀k,k<=a.length ->∀c,Cw a k c<cnt
 | 0,_,c=>b
 | k+1,g,c=>by
  unfold Cw
  by_cases e:c=cz a k
  .subst e;rw [KI];omega
  .rw [GN e];exact Vg a b f k (by omega) c
noncomputable def fK (g:List (List Nat)) (of:Nat ->Nat) (cnt:Nat):List Nat:=eX (Ju g of cnt) (cz (Ta of g.length cnt))
noncomputable def dt (g:List (List Nat)) (of:Nat ->Nat) (cnt:Nat):Nat ->Nat:=Cw (fK g of cnt) (fK g of cnt).length
def FR (no:Nat ->Nat) (i c:Nat):List Nat:=(List.range i).filter λv=>decide (no v=c)
def jM (of no:Nat ->Nat) (i v:Nat):Nat:=if v<i then no v else of v
theorem XM (a:Nat ->Nat) (i:Nat):Al (FR a i) (a i) (FR a i (a i)++ [i])=FR a (i+1):=by grind [KI,FR,ea,GN]
theorem Zt (a:Nat ->Nat) (i c:Nat):(FR a i c).length<=i:=by grind [FR]
theorem aC (b a:Nat ->Nat) (i:Nat):Al (jM b a i) i (a i)=jM b a (i+1):=by grind [KI,jM,GN]
structure CN (n:Nat) (suc:Nat ->List Nat) (no:Nat ->Nat) (cnt:Nat):Prop where
 lt:∀v,v<n ->no v<cnt
 scc:∀i j,i<n ->j<n ->(no i=no j↔Rh suc i j/\Rh suc j i)
 use:∀c,c<cnt ->∃v,v<n/\no v=c
 top:∀u v,u<n ->v<n ->v∈suc u ->no u<=no v
 mn:∀c,c<cnt ->∀i,i<n ->c<=no i ->(∀k,k<n ->c<=no k ->Rh suc k i ->Rh suc i k) ->∃j,j<n/\no j=c/\j<=i
theorem CN.rh {cnt:Nat} (h:CN c a z cnt) (i:∀x,x<c ->∀y∈a x,y<c) (g:H<c) (j:Rh a H x):x<c/\z H<=z x:=by
 induction j with
 | refl=>exact ⟨g,κ _⟩
 | step _ e b=>
  have f:=i _ b.1 _ e;exact ⟨f,dh b.2 (h.top _ _ b.1 f e)⟩
theorem CN.crit {cnt:Nat} (h:CN c a z cnt) (f:∀v,v<c ->∀y∈a v,y<c) (j:s<c) (o:z s=B):∀k,k<c ->B<=z k ->Rh a k s ->Rh a s k:=λk b l g=>by
 have:=(h.rh f b g).2;exact ((h.scc s k j b).1 (by omega)).1
theorem ln (p:Nat ->Prop):∀(m x:Nat),p x ->x<=m ->∃y,p y/\∀z,p z ->y<=z:=by
 intro m
 induction m with
 | zero=>intro x a c;exact ⟨x,a,λz _=>by omega⟩
 | succ m b=>
  grind
theorem N6 {n:Nat} {g:Nat ->List Nat} {t a:Nat ->Nat} {cnt f:Nat} (h:CN n g t cnt) (B:CN n g a f) (E:∀v,v<n ->∀y∈g v,y<n):
  ∀c,c<=cnt ->c<=f ->∀v,v<n ->∀d,d<c ->(t v=d↔a v=d)
 | 0,_,_,v,_,d,O=>by omega
 | c+1,R,Q,v,s,d,O=>by
  have C:=N6 h B E c (by omega) (by omega)
  by_cases e:d<c
  .exact C v s d e
  .have e:d=c:=by omega
   subst e
   have b:∀v,v<n ->(d<=t v↔d<=a v):=λv s=>by
    constructor
    .intro P;rcases Nat.lt_or_ge (a v) d with r | r
     .have:=(C v s _ r).2 rfl;omega
     .exact r
    .intro P;rcases Nat.lt_or_ge (t v) d with r | r
     .have:=(C v s _ r).1 rfl;omega
     .exact r
   obtain ⟨x,M,D⟩:=h.use d (by omega);obtain ⟨i,⟨A,l⟩,H⟩:=ln (λy=>y<n/\t y=d) x x ⟨M,D⟩ (κ _);obtain ⟨j,G,w,N⟩:=B.mn d (by omega) i A ((b i A).1 (by omega)) λk u o F=>h.crit E A l k u ((b k u).2 o) F;obtain ⟨L,J,z,K⟩:=h.mn d (by omega) j G ((b j G).2 (by omega)) λk u o F=>B.crit E G w k u ((b k u).1 o) F;have:=H L ⟨J,z⟩;have I:i=j:=by omega
   subst I;rw [<-l,h.scc v i s A,l,<-w,B.scc v i s A]
theorem kL {f:Nat ->Nat} {cnt b:Nat} (h:CN c a z cnt) (g:CN c a f b) (o:∀v,v<c ->∀y∈a v,y<c):cnt=b/\∀v,v<c ->z v=f v:=by
 have i:∀{z f:Nat ->Nat} {cnt b:Nat},CN c a z cnt ->CN c a f b ->cnt<=b:=by
  intro z f cnt b h g;rcases Nat.lt_or_ge b cnt with k | l
  .obtain ⟨v,j,r⟩:=h.use b k;have s:=g.lt v j;have:=(N6 h g o b (by omega) (κ _) v j (f v) s).2 rfl;omega
  .exact l
 have e:cnt=b:=Nat.le_antisymm (i h g) (i g h);subst e;exact ⟨Z,λv j=>((N6 h g o cnt (κ _) (κ _) v j (f v) (g.lt v j)).2 Z)⟩
theorem Q6 {cnt x:Nat} (o:B<cnt):x∈cx (Ju g f cnt) B↔∃a,a<g.length/\f a=B/\∃y∈cx g a,f a≠f y/\f y=x:=by
 rw [Ju,S4 o];unfold Ls WJ;rw [List.take_zero];simp only [List.filter_nil,List.map_nil,ite_self,en,List.mem_flatMap,Γ]
 constructor
 .rintro ⟨a,l,j⟩
  split at j
  .rename_i e
   obtain ⟨y,i,rfl⟩:=υ.1 j;obtain ⟨h,b⟩:=Ψ.1 i;exact ⟨a,l,e,y,h,fb b,Z⟩
  .cases j
 .rintro ⟨a,l,e,y,i,k,rfl⟩;refine ⟨a,l,?_⟩;rw [ϖ e];exact υ.2 ⟨y,Ψ.2 ⟨i,dm k⟩,Z⟩
theorem Vh {a:List Nat} (b:a.Nodup):∀m,m<=a.length ->∀k,k<m ->Cw a m (cz a k)=k
 | 0,_,k,c=>by omega
 | m+1,g,k,c=>by
  unfold Cw
  by_cases e:k=m
  .subst e;rw [KI]
  .rw [GN,Vh b m (by omega) k (by omega)];rw [O1 (by omega),O1 (by omega)];intro f;exact e ((List.getElem_inj b).1 f)
theorem kF (O:GB g) {cnt:Nat} (h:e9 g.length (cx g) f cnt) {K:Nat ->Nat} {j:List Nat} (r:∀y,¬C6 (Ju g f cnt) j y):∀c,c<cnt ->c∈j:=by
 let Rc:Nat ->Nat ->Prop:=λd c=>∃u v,u<g.length/\v<g.length/\f u=d/\f v=c/\Rh (cx g) u v
 have dec:∀c,DecidablePred λd=>Rc d c:=λc d=>Classical.propDecidable _
 let b:Nat ->Nat:=λc=>((List.range cnt).filter λd=> @decide (Rc d c) (dec c d)).length
 have C:∀k c,k<cnt ->c∈cx (Ju g f cnt) k ->b k<b c:=by
  intro k c G o;obtain ⟨a,s,rfl,y,w,E,rfl⟩:=(Q6 G).1 o;have i:=O.suc s w
  have:=DM (l:=f y::(List.range cnt).filter λd=> @decide (Rc d (f a)) (dec (f a) d)) (m:=(List.range cnt).filter λd=> @decide (Rc d (f y)) (dec (f y) d)) (gj.2 ⟨λr=>by
   obtain ⟨_,J⟩:=Ψ.1 r;obtain ⟨u,v,B,A,M,L,D⟩:= @of_decide_eq_true _ (dec _ _) J;have Q:=(h.scc u y B i).1 M;have I:=(h.scc v a A s).1 L
   exact E ((h.scc a y s i).2 ⟨Rh.one w,Q.2.trans (D.trans I.1)⟩),List.nodup_range.filter _⟩) (λx z=>by
   rcases di.1 z with rfl | z
   .exact Ψ.2 ⟨Γ.2 (h.lt y i), @decide_eq_true _ (dec _ _) ⟨y,y,i,i,Z,Z,.refl y⟩⟩
   .obtain ⟨R,J⟩:=Ψ.1 z;obtain ⟨u,v,B,A,M,L,D⟩:= @of_decide_eq_true _ (dec _ _) J;have I:=(h.scc v a A s).1 L
    exact Ψ.2 ⟨R, @decide_eq_true _ (dec _ _) ⟨u,y,B,i,M,Z,D.trans (I.1.trans (Rh.one w))⟩⟩)
  grind
 have t:∀(m c:Nat),b c<=m ->c<cnt ->c∈j:=by
  intro m
  induction m with
  | zero=>
   intro c P o;refine Classical.byContradiction λF=>r c ⟨by rw [Ju,T0];exact o,F,λk G _ H=>?_⟩
   grind [Ju,T0]
  | succ m S=>
   intro c P o;refine Classical.byContradiction λF=>r c ⟨by rw [Ju,T0];exact o,F,λk G N H=>?_⟩
   grind [Ju,T0]
 exact λc o=>t (b c) c (κ _) o
theorem Ui (hg:GT g) {cnt:Nat} (h:e9 g.length (cx g) f cnt):CN g.length (cx g) (λv=>dt g f cnt (f v)) cnt:=by
 obtain ⟨N,h2⟩:=K3 (Ju g f cnt) (cz (Ta f g.length cnt));have V:eX (Ju g f cnt) (cz (Ta f g.length cnt))=fK g f cnt:=rfl;rw [V] at N h2;have hM:∀c,dt g f cnt c=Cw (fK g f cnt) (fK g f cnt).length c:=λ_=>rfl;have r:=kF hg.gb h (K:=cz (Ta f g.length cnt)) h2;obtain ⟨C,o⟩:=II N;have z:(Ju g f cnt).length=cnt:=by rw [Ju,T0]
 rw [z] at o
 obtain ⟨b,A⟩:∃b,fK g f cnt=b:=⟨_,Z⟩
 rw [A] at N h2 r C o;simp only [A] at hM
 have hlen:b.length=cnt:=Nat.le_antisymm (by have:=DM C (m:=List.range cnt) λx S=>Γ.2 (o x S);rwa [eT] at this)
  (by have:=DM (List.nodup_range (n:=cnt)) (m:=b) λx S=>r x (Γ.1 S);rwa [eT] at this)
 have G:∀k,k<cnt ->dt g f cnt (cz b k)=k:=λk t=>by rw [hM];exact Vh C _ (κ _) k (by omega)
 have l:∀c,c<cnt ->∃k,k<cnt/\cz b k=c/\dt g f cnt c=k:=λc F=>by
  obtain ⟨k,t,rfl⟩:=gK.1 (r c F)
  grind [O1]
 have J:∀c d,c<cnt ->c<=dt g f cnt d ->d<cnt ->d∉b.take c:=λc d F hcd hd hm=>by
  obtain ⟨k,t,e⟩:=gK.1 hm;rw [Θ] at t;rw [List.getElem_take,<-O1 (by omega)] at e
  grind
 refine ⟨λv B=>?_,λi j s hj=>?_,λc F=>?_,λu v U B he=>?_,λc F i s E Y=>?_⟩
 .obtain ⟨k,t,_,e⟩:=l (f v) (h.lt v B);omega
 .rw [<-h.scc i j s hj]
  constructor
  .intro e;obtain ⟨k,_,O,e2⟩:=l (f i) (h.lt i s);obtain ⟨m,_,Q,e4⟩:=l (f j) (h.lt j hj);have e:dt g f cnt (f i)=dt g f cnt (f j):=e;rw [<-O,<-Q,show k=m by omega]
  .intro e;show dt g f cnt (f i)=dt g f cnt (f j);rw [e]
 .obtain ⟨v,B,e⟩:=h.use (cz b c) (o _ (DK (by omega)));exact ⟨v,B,by show dt g f cnt (f v)=c;rw [e];exact G c F⟩
 .show dt g f cnt (f u)<=dt g f cnt (f v)
  by_cases e:f u=f v
  .rw [e];exact κ _
  .obtain ⟨p,hp,O,e2⟩:=l (f v) (h.lt v B);have w:=(N p (by omega)).1;rw [O] at w;have D:f u∈b.take p:=Classical.byContradiction λhn=>w.2.2 (f u) (by rw [z];exact h.lt u U) hn ((Q6 (h.lt u U)).2 ⟨u,U,Z,v,he,e,Z⟩);obtain ⟨k,t,Q⟩:=gK.1 D;rw [Θ] at t;rw [List.getElem_take,<-O1 (by omega)] at Q;rw [<-Q,G k (by omega),e2];omega
 .have E:c<=dt g f cnt (f i):=E
  have w:C6 (Ju g f cnt) (b.take c) (f i):=by
   refine ⟨by rw [z];exact h.lt i s,J c _ F E (h.lt i s),λk t X D=>?_⟩;rw [z] at t;obtain ⟨a,P,rfl,y,hy,W,I⟩:=(Q6 t).1 D;have R:=hg.gb.suc P hy
   have hca:c<=dt g f cnt (f a):=by
    rcases Nat.lt_or_ge (dt g f cnt (f a)) c with hl | hl
    .obtain ⟨m,hm,O,e2⟩:=l (f a) (h.lt a P);exact (X (gK.2 ⟨m,by rw [Θ];omega,by rw [List.getElem_take,<-O1 (by omega)];exact O⟩)).elim
    .exact hl
   have H:=(h.scc y i R s).1 I;have M:Rh (cx g) a i:=(Rh.one hy).trans H.1;have:=(h.scc a i P s).2 ⟨M,Y a P hca M⟩;exact W (by rw [this,I])
  have hK:=(N c (by omega)).2 _ w;have L:cz b c<cnt:=o _ (DK (by omega));rw [Lk L,Lk (h.lt i s)] at hK;obtain ⟨v,B,T⟩:=h.use _ L;obtain ⟨q1,q2,_⟩:=H9 f g.length g.length (κ _) (cz b c) ⟨v,by omega,B,T⟩;obtain ⟨_,_,q3⟩:=H9 f g.length g.length (κ _) (f i) ⟨i,by omega,s,Z⟩;exact ⟨_,q2,by show dt g f cnt (f _)=c;rw [q1];exact G c F,dh hK (q3 i (by omega) s Z)⟩
abbrev Vx (l:List Int):D:= .sl none (l.map AF)
abbrev ll (g:List (List Int)):D:= .sl none (g.map Vx)
def KM (g:List (List Int)) (i:Nat):Nat:=((g.take i).map List.length).sum
def YL (n:Nat) (l:List Int):Prop:=∃x∈l,¬(0<=x/\x<(n:Int))
instance (n:Nat) (l:List Int):Decidable (YL n l):=inferInstanceAs (Decidable (∃x∈l,¬(0<=x/\x<(n:Int))))
def TK (g:List (List Int)):Int:=if 65536<g.length\/1048576<KM g g.length then 8 else if ∃l∈g,YL g.length l then 2 else 0
theorem KL (a:s<h.length):KM h (s+1)=KM h s+h[s].length:=by
 unfold KM;rw [φ a,du,gV];simp
theorem Uy {g:List (List Int)} (h:∀l∈g,l.length<=2000000):∀i,i<=g.length ->KM g i<=i*2000000
 | 0,_=>by simp [KM]
 | i+1,a=>by
  have:=Uy h i (by omega);have:=h g[i] (θ (by omega));rw [KL (by omega)];omega
theorem sJ {l:List Int} (h:k<l.length):(l.map AF)[k]? =some (AF l[k]):=Aq h
theorem lm (a:s<h.length):(h.map Vx)[s]? =some (Vx h[s]):=Aq a
theorem qu (a:65536<h.length\/1048576<KM h h.length):(8:Int)=TK h:=by unfold TK;rw [ϖ a]
theorem qv (c:¬65536<h.length) (b:¬1048576<KM h h.length) (a:∃l∈h,YL h.length l):(2:Int)=TK h:=by grind [TK]
theorem qw (c:¬65536<h.length) (b:¬1048576<KM h h.length) (a:¬∃l∈h,YL h.length l):(0:Int)=TK h:=by grind [TK]
theorem cN (g:List (List Int)) (Q:g.length<=1000000) (w:∀l∈g,l.length<=2000000):AM prog 151 [.d (ll g)] (AF (TK g)):=by
 refine Av func151 Z Z ntmps151 Z Z Z λF U=>(AC (AE (AB Z Z (AD (AC (AE (AB Z Z (AD ?_))))))));refine AC (AC (AE (cl Z Z (J (JB Z (ψ ..) No Z) (cl Z Z (AD (A2 (Hq (α:=Nat) (λk=>⟨50,[(0,.d (ll g)),(3,(.d (AL (KM g k)))),(10,(.d (ll g))),(11,(.d (AL g.length))),(12,(.d (AL k)))],[]⟩) (λk=>k<=g.length) (λk=>g.length - k) (0) (ϱ _) (hG ⟨Z,Z,Z,Z,Z,trivial⟩) ?_))))))));intro k R;refine AC (AE (J (BW Z Z Z) (AD (AC (Ah Z (λs=>?_) (λs=>?_))))))
 .refine AZ (AC (A2 (AC ?_)));have c:k<g.length:=Bi s;have P:=Uy w k (by omega);have B:=w _ (θ c);have O:=KL c;refine AE (J (Bq (k) Z Z (Z) (lm c) No Z Ca Z) (J (EJ Z Z BI Z) (AB Z Z (AD (AE (cl Z Z (cl Z Z ?_)))))));refine J (JB Z (ψ ..) E0 Z) (J (Aw Z Z (Ξ _ (by omega)) Z) (OJ 19 (.d (AL (KM g (k+1)))) Z (eqv (dc AF (by omega))) (AB Z Z (AD (AE (J (Aw Z Z (Ξ _ (by omega)) Z) (cl Z Z (AD ?_))))))));exact ⟨k+1,by omega,by omega,⟨Z,Z,λ_ _=>Td.get (l:=[(0,_),(3,_),(10,_),(11,_),(12,_)]) ⟨Z,Z,Z,Z,Z,trivial⟩⟩⟩
 .refine BL (AC (AC ?_));have E:k=g.length:=by have:=s;omega
  subst E;refine AE (cl Z Z (J (JB Z (ψ ..) No Z) (J (Pf Z Z Z) (cl Z Z (Id 24 Z (λM=>?_) (λM=>?_))))))
  .refine A8 Z Z Z Z ?_;refine A8 Z Z Z Z (J (FL Z Z Z Z) (AD (Dt Z Z (AC (AE (AB Z Z (AD (A6 ?_))))))));exact ⟨_,[],[],A4 Z,Z,Z,eqv (dc AF (qu (by omega))),Z⟩
  .refine Aa Z Z Z (cl Z Z (Aa Z Z Z (J (Pf Z Z Z) (J (DT Z Z Z Z) (AD (Ah Z (λL=>?_) (λL=>?_)))))))
   .refine AC (AE (AB Z Z (AD (A6 ?_))));exact ⟨_,[],[],A4 Z,Z,Z,eqv (dc AF (qu (by omega))),Z⟩
   .refine AZ (AC (AC ?_));have h:¬65536<g.length:=by omega
    have f:¬1048576<KM g g.length:=by omega
    refine AE (cl Z Z (J (JB Z (ψ ..) No Z) (cl Z Z (AD (A2 (Hq (α:=Nat) (λi=>⟨50,[(0,.d (ll g)),(28,(.d (ll g))),(29,(.d (AL g.length))),(30,(.d (AL i)))],[]⟩) (λi=>i<=g.length/\∀l∈g.take i,¬YL g.length l) (λi=>g.length - i) (0) (⟨ϱ _,λl w=>by simp at w⟩) (hG ⟨Z,Z,Z,Z,trivial⟩) ?_))))));rintro i ⟨T,N⟩;refine AC (AE (J (BW Z Z Z) (AD (AC (Ah Z (λr=>?_) (λr=>?_))))))
    .refine AZ (AC (A2 (AC ?_)));have a:i<g.length:=Bi r;have B:=w _ (θ a);refine AE (J (Bq (i) Z Z (Z) (lm a) No Z Ca Z) (J (EJ Z Z BI Z) (AB Z Z ?_)));refine AD (AC (AE (cl Z Z (J (JB Z (ψ ..) E0 Z) (cl Z Z (AD (A2 (Hq (α:=Nat) (λj=>⟨50,[(0,.d (ll g)),(28,(.d (ll g))),(29,(.d (AL g.length))),(30,(.d (AL i))),(34,(.d (Vx g[i]))),(35,(.d (AL g[i].length))),(36,(.d (AL j)))],[]⟩) (λj=>j<=g[i].length/\∀x∈g[i].take j,0<=x/\x<(g.length:Int)) (λj=>g[i].length - j) (0) (⟨ϱ _,λx y=>by simp at y⟩) (hG ⟨Z,Z,Z,Z,Z,Z,Z,trivial⟩) ?_))))))));rintro j ⟨S,y⟩;refine AC (AE (J (BW Z Z Z) (AD (AC (Ah Z (λo=>?_) (λo=>?_))))))
     .refine AZ (AC (A2 (AC ?_)));have b:j<g[i].length:=Bi o;refine AE (J (Bq (j) Z Z (Z) (sJ b) E0 Z B4 Z) ?_);refine J (EJ Z Z BE Z) (AB Z Z (AD (AC (AE (cl Z Z (J (BW Z Z Z) (cl Z Z (Id 42 Z (λK=>?_) (λK=>?_)))))))))
      .refine A8 Z Z Z Z (A8 Z Z Z Z (A8 Z Z Z Z ?_));refine A8 Z Z Z Z (J (FL Z Z Z Z) (AD (Dt Z Z (AC (AE (AB Z Z (AD (A6 ?_))))))));exact ⟨_,[],[],A4 Z,Z,Z,eqv (dc AF (qv h f ⟨g[i],θ a,g[i][j],θ b,by omega⟩)),Z⟩
      .refine Aa Z Z Z (cl Z Z ?_);refine Aa Z Z Z (cl Z Z (Aa Z Z Z (J (JB Z (ψ ..) No Z) (Aa Z Z Z (J (D2 Z Z Z) (J (DT Z Z Z Z) (AD (Ah Z (λI=>?_) (λI=>?_)))))))))
       .refine AC (AE (AB Z Z (AD (A6 ?_))));exact ⟨_,[],[],A4 Z,Z,Z,eqv (dc AF (qv h f ⟨g[i],θ a,g[i][j],θ b,by omega⟩)),Z⟩
       .refine AZ (AE (J (Aw Z Z (Ξ _ (by omega)) Z) (cl Z Z (AD ?_))));exact ⟨j+1,⟨by omega,λx t=>by rw [φ b] at t;exact (ν.1 t).elim (y x) λe=>by rw [ξ.1 e];exact ⟨by omega,by omega⟩⟩,by omega,⟨Z,Z,λ_ _=>Td.get (l:=[(0,_),(28,_),(29,_),(30,_),(34,_),(35,_),(36,_)]) ⟨Z,Z,Z,Z,Z,Z,Z,trivial⟩⟩⟩
     .refine BL ?_;have G:j=g[i].length:=by have:=o;omega
      have u:¬YL g.length g[i]:=λ⟨x,A,z⟩=>z (y x (by rw [G,eo];exact A));refine AE (J (Aw Z Z (Ξ _ (by omega)) Z) (cl Z Z (AD ?_)));exact ⟨i+1,⟨by omega,λl v=>by rw [φ a] at v;exact (ν.1 v).elim (N l) λe=>by rw [ξ.1 e];exact u⟩,by omega,⟨Z,Z,λ_ _=>Td.get (l:=[(0,_),(28,_),(29,_),(30,_)]) ⟨Z,Z,Z,Z,trivial⟩⟩⟩
    .refine BL (AC (AE (AB Z Z (AD (A6 ?_)))));have H:i=g.length:=by have:=r;omega
     exact ⟨_,[],[],A4 Z,Z,Z,eqv (dc AF (qw h f (λ⟨l,D,C⟩=>N l (by rw [H,eo];exact D) C))),Z⟩
theorem VC (h:TB c a u S j x k) (s:k=(a x).length) (t:S.low x≠S.idx x):
  ∃f b g,j=f++ [(b,g)]/\TH c a u {S with low:=Al S.low b (min (S.low b) (S.low x)),cs:=j} none:=by
 subst s;have i:=Tl h;have o:=(h.ti.lw x i.2.1).1;obtain ⟨f,b,g,e,l⟩:=iM h.ti h.hcs (by omega);exact ⟨f,b,g,e,l,h.k1,h.old,.inl h.rt⟩
theorem VB {da dZ:List Nat} (h:TB c a u S j x k) (t:k=(a x).length) (s:S.low x=S.idx x) (l:S.st=da++x::dZ):
  TH c a u {S with of:=λb=>if b∈x::dZ then (S.cnt:Int) else S.of b,st:=da,cs:=j,cnt:=S.cnt+1} none/\∀g f i,j=g++ [(f,i)] ->Al S.low f (min (S.low f) (S.low x))=S.low:=by
 subst t;obtain ⟨y,w⟩:=iL h.ti h.hcs s l;refine ⟨⟨w,h.k1,h.old,.inl h.rt⟩,λg f i e=>funext λb=>?_⟩
 by_cases o:b=f
 .subst o;have:=y (b,i) (by rw [e];exact fz _ (ξ.2 Z));rw [KI]
  grind
 .rw [GN o]
theorem mR {b:Nat} (h:TB c a u S (y++ [(H,b)]) x k):H<c/\x≠H:=by
 have g:(H,b)∈S.cs:=by rw [h.hcs];exact gH _ (fz _ (ξ.2 Z))
 refine ⟨h.ti.lt H ((h.ti.st H).1 (h.ti.csm _ g)).1,λe=>?_⟩;have f:=h.ti.css;rw [h.hcs] at f
 grind
theorem Yk {da dZ:List Nat} (h:TI c a S o) (b:S.st=da++x::dZ):x∉dZ:=by
 have f:=h.srt;rw [b,List.pairwise_append] at f;intro g;exact gc _ ((ga.1 f.2.1).1 x g)
theorem qk {m j:List (Nat×Nat)} {x:Nat×Nat} (h:k=C.length):((C++ [x]++m++j).map Xt)[k]? =some (Xt x):=by
 subst h;simp
theorem sI {a c j:List Nat} (h:k=(a++c).length):((a++(c++ [F])++j).map AL)[k]? =some (AL F):=by grind
theorem qR:(HC c (λx=>if x∈E then (B:Int) else A x)).set F (AL B)=HC c (λx=>if x∈F::E then (B:Int) else A x):=by grind [Lb]
theorem Zj {a dZ:List Nat} (h:a++ [F]++E=x::dZ) (b:F≠x):a++F::E=x::dZ/\a≠ []:=by grind
theorem ir {b dZ:List Nat} (h:b++ [F]++E=x::dZ) (f:F=x) (g:x∉dZ):b=[]/\E=dZ:=by
 subst f
 cases b with
 | nil=>simp at h;exact ⟨Z,h⟩
 | cons a c=>
  grind
theorem P3 {c:Type} {l:List c} (h:l≠ []):∃a b,l=a++ [b]:=by
 rcases List.eq_nil_or_concat l with e | ⟨a,b,e⟩
 .grind
 grind
theorem iQ {g:List Nat} (h:TH c a u S o) (l:S.cs=j++ [(x,k)]/\o=none) (i:∃f,g=S.st++f):
  ∃b:TS,mu c a b=mu c a S/\TB c a u b j x k/\S.idx=b.idx/\S.low=b.low/\S.of=b.of/\S.st.length=b.st.length/\S.cnt=b.cnt/\S.clk=b.clk/\∃f,g=b.st++f:=by grind [mS]
theorem ZB (h:TI c a S o):S.st.length<=c:=by
 have:=h.num;have:=(RG h).1;omega
theorem Rr {f:Nat ->Nat} (h:∀v,v<s ->f v≠0) (a:f s≠0):∀v,v<s+1 ->f v≠0:=by grind
theorem iP (h:TI c a S none) (g:S.cs=[]) (j:s<c) (l:S.idx s=0) (b:∀v,v<s ->S.idx v≠0):TH c a s S (some s):=
 ⟨iK h g j l,λf k=>(by rw [g] at k;cases k),b,.inr Z⟩
theorem qn (h:TI c a S o) (e:S.cs++pend o=C):C.length<=c+1:=by
 have f:=(RG h).2;have b:=ZB h;rw [<-e,Ω];have:(pend o).length<=1:=by cases o<;>simp [pend]
 omega
theorem Yi (h:TH c a u S o) (b:S.cs++pend o=[]):TI c a S none/\S.cs=[]/\S.idx u≠0:=by
 cases o with
 | some v=>simp [pend] at b
 | none=>exact ⟨h.ti,by simpa [pend] using b,h.rt.resolve_right λe=>by cases e⟩
structure PF (n:Nat) (suc:Nat ->List Nat) (r:Nat) (S:TS) (cs0:List (Nat×Nat)) (v:Nat) (low:Nat ->Nat):Prop where
 a:low v=S.low v
 b:low v≠S.idx v ->TH n suc r {S with low:=low,cs:=cs0} none
 c:∀da dZ,low v=S.idx v ->S.st=da++v::dZ ->TH n suc r {S with low:=low,of:=λx=>if x∈v::dZ then (S.cnt:Int) else S.of x,st:=da,cs:=cs0,cnt:=S.cnt+1} none
theorem iz {j:Nat} (h:TB c a u S (y++ [(H,j)]) x k) (l:k=(a x).length) (f:x≠H):
  ∃b,Al S.low H (min (S.low H) (S.low x))=b/\PF c a u S (y++ [(H,j)]) x b:=by
 refine ⟨_,Z,⟨GN f,λi=>?_,λda dZ i g=>?_⟩⟩
 .grind [GN,VC,List.append_inj_right']
 .rw [GN f] at i;obtain ⟨s,o⟩:=VB h l i g
  grind
theorem jA (h:TB c a u S j x k) (i:k=(a x).length) (w:j=[]):
  ∃b,S.low=b/\PF c a u S j x b:=by
 refine ⟨_,Z,⟨Z,λg=>?_,λda dZ g f=>(VB h i g f).1⟩⟩;obtain ⟨o,s,l,e,t⟩:=VC h i g
 simp_all
theorem mM (a:∀v,v<k ->A v= -1):∀v,v<k+1 ->Al A k (-1) v= -1:=by grind [KI,GN]
set_option maxHeartbeats 1000000 in
theorem Sx (g:List (List Nat)) (hg:GB g):AK prog 186 [.d (LM g)] [] λr H'=>∃of cnt,e9 g.length (cx g) of cnt/\r= .tup [.own 2 0 g.length,.d (AL cnt)]/\H'=[(2,[.rowD 3 1 (rowN g.length of)])]:=by
 have hn:=hg.n;refine Av func186 Z Z ntmps186 Z Z Z λF P=>(AC (AE (AB Z Z (AB Z Z (AD (AC (AE (cl Z Z ?_))))))));refine J (JB Z (ψ ..) No Z) (AB Z Z (AD (AC (Dr [[],[0],[],[2],[],[4],[0,1],[0,1,2,3,6],rg 8] mixed Z (E6 (At 4 Z Z (IU [21] [0] [(22,_)] Z Z (λ_=>IV (EX 0 BX Z Z Z (by omega) mJ Z Z Z Z)) (.inr ⟨22,_,Z,Z,Z,Z,Z⟩) Z Z Z Z Z (At 4 Z Z ?_))))))));refine IU [23] [1] [(24,_)] Z Z (λ_=>IV (EX 1 BX Z Z Z (by omega) mJ Z Z Z Z)) (.inr ⟨24,_,Z,Z,Z,Z,Z⟩) Z Z Z Z Z (At 4 Z Z (IU [25] [2] [(26,_)] Z Z (λ_=>IV (EX 2 BX Z Z Z (by omega) mJ Z Z Z Z)) (.inr ⟨26,_,Z,Z,Z,Z,Z⟩) Z Z Z Z Z (AX [22] Z (Hy Z Z) (AX [24] Z (Hy Z Z) (Dh 8 Z Z Z (An 9 Z Z (AB Z Z (AD ⟨Z,?_⟩))))))));refine Dg (AC (AC ?_));rw [rl];refine AE (cl Z Z (J (Qs Z E0 Z) (cl Z Z (AD (A2 (Bb (α:=Nat×(Nat ->Int)) (λq=>⟨214,[(0,.d (LM g)),(5,(.own 0 0 g.length)),(6,(.own 1 0 g.length)),(7,(.own 2 0 g.length)),(28,(.d (AL g.length))),(29,(.d (AL q.1)))],[(0,[.rowD 3 1 (HC g.length λ_=>0)]),(1,[.rowD 3 1 (HC g.length λ_=>0)]),(2,[.rowD 3 1 (HC g.length q.2)])]⟩) (λq=>q.1<=g.length/\∀v,v<q.1 ->q.2 v= -1) (λq=>g.length - q.1) ((0,λ_=>0)) (⟨ϱ _,λv h=>absurd h (Nat.not_lt_zero _)⟩) (A0 P [0,1,2] Z Z ⟨Z,Z,Z,Z,Z,Z,trivial⟩) ?_))))));rintro ⟨k,f⟩ ⟨hk,hf⟩;dsimp only at hk hf⊢;refine AC (AE (J (BW Z Z Z) (AD (AC (Ah Z (λh30=>?_) (λh30=>?_))))))
 .refine AZ (AC (A2 (AC ?_)));have A:k<g.length:=Bi h30;refine AE (cl Z Z (AB Z Z (AD (AE ?_))));refine cl Z Z (cl Z Z (J (C7 (k) Z Z (Z) (A) Z E0 B4 Z) (V (W1 Z Z Z Z Z (by rw [R4];exact A) ZX Z B4) (AD (AE (J (Aw Z Z (Ξ _ (by omega)) Z) (cl Z Z (AD ?_))))))));exact ⟨(k+1,Al f k (-1)),⟨A,mM hf⟩,by show g.length - (k+1)<g.length - k;omega,A0 P [0,1,2] Z (Z) ⟨Z,Z,Z,Z,Z,Z,trivial⟩⟩
 .refine BL (AC ?_);have hke:k=g.length:=by have:=h30;omega
  subst hke;have hfe:HC g.length f=HC g.length (λ_=> -1):=eE λv hv=>by rw [hf v (Γ.1 hv)]
  rw [hfe];refine AE (AB Z Z ?_);skip;refine AD (AC (AE (AB Z Z (AB Z Z (AD (AC ?_))))));refine AC (AE (cl Z Z (J (JB Z (ψ ..) No Z) (cl Z Z (AD (A2 (O0 9 3 BX Z Z Z Z (Bb (α:=Nat×TS×List Nat) (λq=>⟨214,[(0,.d (LM g)),(5,(.own 0 0 g.length)),(6,(.own 1 0 g.length)),(7,(.own 2 0 g.length)),(9,(.own 3 0 q.2.1.st.length)),(10,(.d (AL q.2.1.cnt))),(11,(.d (AL q.2.1.clk))),(37,(.d (AL g.length))),(38,(.d (AL q.1)))],[(0,[.rowD 3 1 (rowN g.length q.2.1.idx)]),(1,[.rowD 3 1 (rowN g.length q.2.1.low)]),(2,[.rowD 3 1 (HC g.length q.2.1.of)]),(3,[.rowD 3 1 (q.2.2.map AL)])]⟩) (λq=>q.1<=g.length/\TI g.length (cx g) q.2.1 none/\q.2.1.cs=[]/\(∀v,v<q.1 ->q.2.1.idx v≠0)/\∃U,q.2.2=q.2.1.st++U) (λq=>g.length - q.1) ((0,⟨λ_=>0,λ_=>0,λ_=> -1,[],[],0,0⟩,[])) (⟨ϱ _,iJ _ _,Z,λv h=>absurd h (Nat.not_lt_zero _),[],Z⟩) (A0 P [0,1,2,3] Z Z ⟨Z,Z,Z,Z,Z,Z,Z,Z,Z,trivial⟩) ?_))))))));rintro ⟨i,S,E⟩ ⟨hi,hti,hcs,I,C⟩;dsimp only at hi hti hcs I C⊢;refine AC (AE (J (BW Z Z Z) (AD (AC (Ah Z (λh39=>?_) (λh39=>?_))))))
  .refine AZ (AC (A2 (AC ?_)));have hil:i<g.length:=Bi h39;refine AE (cl Z Z (AB Z Z (AD (AC ?_))));refine AC (AE (cl Z Z (cl Z Z (J (C7 (i) Z Z (Z) (hil) Z E0 B4 Z) (J (DX Z Z (Lz hil) Z BE Z) (J (EO Z Z Z) (AD (Ah Z (λh45=>?_) (λh45=>?_)))))))))
   .refine BL ?_
    first | have hE:=Yi y (hfr▸List.length_eq_zero_iff.1 (by omega)) | skip
    refine AE (J (Aw Z Z (Ξ _ (by omega)) Z) (cl Z Z (AD ?_)));exact ⟨(i+1,S,E),⟨hil,hti,hcs,Rr I (λe2=>h45 (dc Int.ofNat e2)),C⟩,by show g.length - (i+1)<g.length - i;omega,A0 P [0,1,2,3] Z (Z) ⟨Z,Z,Z,Z,Z,Z,Z,Z,Z,trivial⟩⟩
   .refine AZ (AC ?_);have h0:S.idx i=0:=Int.ofNat.inj (Classical.not_not.1 h45);refine AE (cl Z Z (J (FU lE l0 Z Z Z) (V (EH 4 ZJ Z Z Z Z Z Z Z Z) (AB Z Z (AD (A2 (Bb (α:=TS×Option Nat×List (Nat×Nat)×List Nat×List (Nat×Nat)) (λq=>⟨214,[(0,.d (LM g)),(5,(.own 0 0 g.length)),(6,(.own 1 0 g.length)),(7,(.own 2 0 g.length)),(9,(.own 3 0 q.1.st.length)),(10,(.d (AL q.1.cnt))),(11,(.d (AL q.1.clk))),(13,(.own 4 0 q.2.2.1.length)),(37,(.d (AL g.length))),(38,(.d (AL i)))],[(0,[.rowD 3 1 (rowN g.length q.1.idx)]),(1,[.rowD 3 1 (rowN g.length q.1.low)]),(2,[.rowD 3 1 (HC g.length q.1.of)]),(3,[.rowD 3 1 (q.2.2.2.1.map AL)]),(4,[.rowD 321 2 (q.2.2.2.2.map Xt)])]⟩) (λq=>TH g.length (cx g) i q.1 q.2.1/\q.2.2.1=q.1.cs++pend q.2.1/\(∃U,q.2.2.2.1=q.1.st++U)/\∃T,q.2.2.2.2=q.2.2.1++T) (λq=>mu g.length (cx g) q.1) ((S,some i,[(i,0)],E,[(i,0)])) (⟨iP hti hcs hil h0 I,by rw [hcs];rfl,C,[],Z⟩) (A0 P [0,1,2,3,4] Z Z ⟨Z,Z,Z,Z,Z,Z,Z,Z,Z,Z,trivial⟩) ?_)))))));rintro ⟨S,p,fr,E,r4⟩ ⟨y,hfr,C,T,hr4⟩;dsimp only at y hfr C hr4⊢;have hclk:=RG y.ti;refine AC (AC (AE (cl Z Z (J (Qs Z cA Z) (J (Pf Z Z Z) (AD (Ah Z (λh51=>?_) (λh51=>?_))))))))
    .refine AZ (A2 (AC ?_));have hne:S.cs++pend p≠ []:=λe=>by rw [hfr,e] at h51;exact absurd h51 (by decide)
     obtain ⟨o,v,k,hcs2,s,hk0,hk1⟩:=iO y hne;have hfrl:=qn y.ti hcs2;have hfr2:=hfr.trans hcs2;subst hfr2;have hlen1:(((o++ [(v,k)]).length:Nat):Int) - 1=(o.length:Int):=by simp
     have hlen2:o.length<(o++ [(v,k)]).length:=by simp
     subst hr4;refine AE (cl Z Z (cl Z Z (J (Qs Z cA Z) (J (Pg Z Z (Ξ _ (by omega)) Z) (J (C7 (o.length) Z Z (hlen1) (hlen2) Z cA Ym Z) (AB Z Z (AD (AC ?_))))))));refine AC (AE (cl Z Z (J (YR Z Z) (J (WZ Z Jg Z Z Z) (J (DX Z Z (Ki Z) Z BE Z) (J (MB Z Z Z) (AD (Ah Z (λh61=>?_) (λh61=>?_)))))))));refine AC ?_;obtain ⟨hcs3,hp3⟩:=hk0 (Int.ofNat.inj h61);have hcl:=hclk.1;refine AE (cl Z Z (J (Aw Z Z (Ξ _ (by omega)) Z) (OJ 63 (.d (AL (S.clk+1))) Z (eqv (dc AF (by omega))) (AB Z Z (AD (AC (Dr [[],[],[1],[1,2],[1,2,3],[],[],[6],[6,7],[6,7,8],[],[],[0,1,2,3,4,6,7,8,9,10],[0,1,2,3,4,6,7,8,9,10,12],rg 14,rg 15] mixed Z (E6 ?_))))))));refine At 5 Z Z (At 14 Z Z (AX [65] Z (YR Z Z) (AX [66] Z (WZ Z E4 Z Z Z) (BQ [67] Z Z (λ_=>A9 (DX Z Z (Ki Z) Z BE Z)) (At 6 Z Z (At 14 Z Z (AX [70] Z (YR Z Z) (AX [71] Z (WZ Z E4 Z Z Z) ?_))))))));refine BQ [72] Z Z (λ_=>A9 (DX Z Z (Ki Z) Z BE Z)) (At 11 Z Z (At 11 Z Z (BQ [64,68] Z Z (λ_=>A9 (C7 (v) Z Z (Z) (s) Z E0 B4 Z)) (IU [76,74] [0] [] Z Z (λ_=>IV (W1 Z Z Z Z Z (by rw [DF];exact s) DE Z B4)) (.inl ⟨Z,Z⟩) Z Z Z Z Z (Dh 14 Z Z Z (An 15 Z Z (J (C7 (v) Z Z (Z) (s) Z E0 B4 Z) (AD ⟨Z,?_⟩))))))));refine An 16 Z Z (V (W1 Z Z Z Z Z (by rw [DF];exact s) DE Z B4) (AD ⟨Z,?_⟩));refine Dg ?_;obtain ⟨U,M⟩:=C;subst M;have hstl:=ZB y.ti;refine AE (cl Z Z (cl Z Z (J (YR Z Z) (J (WZ Z E4 Z Z Z) (J (DX Z Z (Ki Z) Z BE Z) (V (EH 21 BX Z Z Z Z Z Z Z Z) (V (GY Z Z Z (by simp) Z Z (by simp) BX (by omega) Z Z (lJ S.st U) Z Z) (AB Z Z ?_))))))));subst hp3;have W:=Yj y;have hmu0:mu g.length (cx g) _=mu g.length (cx g) S:=aW (S:=S) (l:=Al S.low v (S.clk+1)) (st:=S.st++ [v]) (c:=S.clk+1) s (y.ti.pnd v Z).2.1
     obtain ⟨a,D⟩:∃a:TS,a=⟨Al S.idx v (S.clk+1),Al S.low v (S.clk+1),S.of,S.st++ [v],S.cs++ [(v,0)],S.cnt,S.clk+1⟩:=⟨_,Z⟩
     have e1:Al S.idx v (S.clk+1)=a.idx:=by rw [D]
     have e2:Al S.low v (S.clk+1)=a.low:=by rw [D]
     have e3:S.of=a.of:=by rw [D]
     have e4:S.st.length+1=a.st.length:=by rw [D];simp
     have e5:S.cnt=a.cnt:=by rw [D]
     have e6:S.clk+1=a.clk:=by rw [D]
     have z:∃U,S.st++ [v]=a.st++U:=⟨[],by rw [D,en]⟩
     obtain ⟨E,hr3e⟩:∃E,S.st++ [v]=E:=⟨_,Z⟩
     rw [<-D] at W hmu0;rw [e1,e2,e3,e4,e5,e6,hr3e];rw [hr3e] at z;have N:=hmu0;have b:TB g.length (cx g) i a o v k:=by rw [hcs3,<-Int.ofNat.inj h61] at W;exact W
     refine AD ?_
     rotate_left
     obtain ⟨a,N,b,e1,e2,e3,e4,e5,e6,z⟩:=iQ y (hk1 λe=>h61 (dc Int.ofNat e)) C;rw [e1,e2,e3,e4,e5,e6];refine AZ ?_
     all_goals
      refine AC (AC ?_);refine Dr [[],[0],[0,1],[0,1,2],[],[],[5],[5,6],[5,6,7],[4,5,6,7,8],[4,5,6,7,8,9],[4,5,6,7,8,9,10],rg 12] mixed Z (E6 (At 14 Z Z (AX [85] Z (YR Z Z) (AX [86] Z (WZ Z Jg Z Z Z) (BQ [87] Z Z (λ_=>A9 (DX Z Z (Ki Z) Z BE Z)) (At 0 Z Z (At 14 Z Z (AX [90] Z (YR Z Z) ?_))))))));refine AX [91] Z (WZ Z E4 Z Z Z) (BQ [92] Z Z (λ_=>A9 (DX Z Z (Ki Z) Z BE Z)) (AX [89,93] Z (Bq (v) Z Z (Z) (Xr s) No Z Ca Z) (AX [94] Z (EJ Z Z BI Z) (AX [95] Z (JB Z (ψ ..) E0 Z) (Dh 12 Z Z Z (An 13 Z Z (J (BW Z Z Z) (AD ⟨Z,?_⟩))))))));refine Dg (Ah Z (λh97=>?_) (λh97=>?_))
      .refine AC ?_;have A:k<(cx g v).length:=Bi h97;have B:cz (cx g v) k<g.length:=hg.suc s (DK A);have hgn:=NE A;have hjk:(cx g v)[k]? =some (cz (cx g v) k):=aJ A
       obtain ⟨j,hje⟩:∃j,cz (cx g v) k=j:=⟨_,Z⟩
       rw [hje] at B hgn hjk;have hsl:=hg.len s;refine Dr [[],[],[1],[1,2],[1,2,3],rg 5,rg 6,[],[7],[7,8],[7,8,9],rg 11,rg 12,rg 13] mixed Z (E6 (At 0 Z Z (At 14 Z Z (AX [99] Z (YR Z Z) (AX [100] Z (WZ Z E4 Z Z Z) (BQ [101] Z Z (λ_=>A9 (DX Z Z (Ki Z) Z BE Z)) (AX [98,102] Z (Bq (v) Z Z (Z) (Xr s) No Z Ca Z) ?_)))))));refine AX [103] Z (EJ Z Z BI Z) (At 14 Z Z (AX [105] Z (YR Z Z) (AX [106] Z (WZ Z Jg Z Z Z) (BQ [107] Z Z (λ_=>A9 (DX Z Z (Ki Z) Z BE Z)) (Dh 11 Z Z Z (An 12 Z Z (J (Bq (k) Z Z (Z) (hgn) E0 Z B4 Z) (AD ⟨Z,?_⟩))))))));refine An 13 Z Z (J (EJ Z Z BE Z) (AD ⟨Z,?_⟩));refine An 14 Z Z (AB Z Z (AD ⟨Z,?_⟩));refine Dg (AC (AE (cl Z Z (J (YR Z Z) (J (WZ Z Jg Z Z Z) ?_)))));refine J (DX Z Z (Ki Z) Z BE Z) (J (Aw Z Z (Ξ _ (by omega)) Z) (OJ 115 (.d (AL (k+1))) Z (eqv (dc AF (by omega))) (J (YR Z Z) (J (WZ Z Jg Z Z Z) (V (Ob (z':=Xt (v,k+1)) Z Z Z Z (Ki Z) Z (κ 2) (r9 Z) Z Z B4) (AD (AC (AC ?_))))))));rw [show (o++ [(v,k)]).length=(o++ [(v,k+1)]).length by simp] at hfrl⊢;refine AE (cl Z Z (cl Z Z (J (C7 (j) Z Z (Z) (B) Z E0 B4 Z) (J (DX Z Z (Lz B) Z BE Z) (J (MB Z Z Z) (AD (Ah Z (λL=>?_) (λL=>?_))))))))
       .refine AE ?_;refine cl Z Z (cl Z Z (J (FU lE l0 Z Z Z) (V (EH 22 ZJ Z Z Z Z Z Z Z Z) (V (GY Z Z Z (by simp) Z Z (by simp) ZJ (by omega) Z Z (pM (x:=(j,0)) (o++ [(v,k+1)]) T) Z Z) (OJ 127 (.own 4 0 (o++ [(v,k+1)]++ [(j,0)]).length) Z (by simp) (AB Z Z (AD (BL ?_))))))));exact ⟨(⟨a.idx,a.low,a.of,a.st,o++ [(v,k+1)],a.cnt,a.clk⟩,some j,o++ [(v,k+1)]++ [(j,0)],E,o++ [(v,k+1)]++ [(j,0)]),⟨mT b hjk B (Int.ofNat.inj L),Z,z,[],(en _).symm⟩,by rw [<-N];exact UU b.hcs A,A0 P [0,1,2,3,4] Z (Z) ⟨Z,Z,Z,Z,Z,Z,Z,Z,Z,Z,trivial⟩⟩
       .refine AC (AE (cl Z Z (cl Z Z (J (C7 (j) Z Z (Z) (B) Z E0 B4 Z) (J (DX Z Z (ZY B) Z BE Z) (J (BW Z Z Z) (AD (Ah Z (λh132=>?_) (λh132=>?_)))))))))
        .refine Dr [[],[],[1],[1,2],[1,2,3],[],[],[6],[6,7],[6,7,8],[5,6,7,8,9],[5,6,7,8,9,10],[],[],[12,13],[12,13,14],[5,6,7,8,9,10,11,12,13,14,15],rg 17,rg 18] mixed Z (E6 (At 6 Z Z (At 14 Z Z (AX [134] Z (YR Z Z) ?_))));refine AX [135] Z (WZ Z E4 Z Z Z) (BQ [136] Z Z (λ_=>A9 (DX Z Z (Ki Z) Z BE Z)) (At 6 Z Z (At 14 Z Z (AX [139] Z (YR Z Z) (AX [140] Z (WZ Z E4 Z Z Z) (BQ [141] Z Z (λ_=>A9 (DX Z Z (Ki Z) Z BE Z)) (BQ [138,142] Z Z (λ_=>A9 (C7 (v) Z Z (Z) (s) Z E0 B4 Z)) (BQ [143] Z Z (λ_=>A9 (DX Z Z (Lz s) Z BE Z)) ?_))))))));refine At 5 Z Z (At 15 Z Z (BQ [145,146] Z Z (λ_=>A9 (C7 (j) Z Z (Z) (B) Z E0 B4 Z)) (BQ [147] Z Z (λ_=>A9 (DX Z Z (Lz B) Z BE Z)) (AX [144,148] Z (Pp Z Z (nH _ _) Z) (Dh 17 Z Z Z (An 18 Z Z (J (C7 (v) Z Z (Z) (s) Z E0 B4 Z) (AD ⟨Z,?_⟩))))))));refine An 19 Z Z (V (W1 Z Z Z Z Z (by rw [DF];exact s) DE Z B4) (AD ⟨Z,?_⟩));refine Dg (BL ?_);exact ⟨(⟨a.idx,Al a.low v (min (a.low v) (a.idx j)),a.of,a.st,o++ [(v,k+1)],a.cnt,a.clk⟩,none,o++ [(v,k+1)],E,o++ [(v,k+1)]++T),⟨mU b hjk B (λe=>L (dc Int.ofNat e)) h132,(en _).symm,z,T,Z⟩,by rw [<-N];exact UU b.hcs A,A0 P [0,1,2,3,4] Z (Z) ⟨Z,Z,Z,Z,Z,Z,Z,Z,Z,Z,trivial⟩⟩
        .refine AZ (BL ?_);exact ⟨(⟨a.idx,a.low,a.of,a.st,o++ [(v,k+1)],a.cnt,a.clk⟩,none,o++ [(v,k+1)],E,o++ [(v,k+1)]++T),⟨iR b hjk B (λe=>L (dc Int.ofNat e)) h132,(en _).symm,z,T,Z⟩,by rw [<-N];exact UU b.hcs A,A0 P [0,1,2,3,4] Z (Z) ⟨Z,Z,Z,Z,Z,Z,Z,Z,Z,Z,trivial⟩⟩
      .refine AZ (AC ?_);have hke:k=(cx g v).length:=by have:=(Tl b).2.2.2;have:=h97;omega
       refine AE (cl Z Z (J (YR Z Z) (J (WZ Z E4 Z Z Z) (J (DX Z Z (Ki Z) Z BE Z) (AB Z Z ?_)))));refine AD (AC (AE (cl Z Z (cl Z Z (J (Qs Z cA Z) (J (Pg Z Z (Ξ _ (by omega)) Z) (J (Hw o.length Z Z hlen1 (by simp) Z cA Ym Z) (AB Z Z ?_))))))));refine AD (AC (AC (AE (cl Z Z (J (Qs Z cA Z) (J (Pf Z Z Z) (AD (Ah Z (λh162=>?_) (λh162=>?_)))))))));refine AC ?_;obtain ⟨Q,⟨u,ku⟩,hcu⟩:=P3 (l:=o) (λe=>by rw [e] at h162;exact absurd h162 (by decide));subst hcu;obtain ⟨hun,hvu⟩:=mR b;have hlen3:(((Q++ [(u,ku)]).length:Nat):Int) - 1=(Q.length:Int):=by simp
       have hlen4:Q.length<(Q++ [(u,ku)]).length:=by simp
       refine AE (cl Z Z (cl Z Z (J (Qs Z cA Z) (J (Pg Z Z (Ξ _ (by omega)) Z) (J (C7 (Q.length) Z Z (hlen3) (hlen4) Z cA Ym Z) (J (WZ Z E4 Z Z Z) (J (DX Z Z (qk Z) Z BE Z) (AB Z Z ?_))))))));refine AD (Dr [[],[],[],[],[2,3],[2,3,4],[],[],[6,7],[6,7,8],[2,3,4,5,6,7,8,9],rg 11,rg 12] mixed Z (E6 (At 6 Z Z (At 17 Z Z (At 6 Z Z (At 17 Z Z (BQ [172,173] Z Z (λ_=>A9 (C7 (u) Z Z (Z) (hun) Z E0 B4 Z)) (BQ [174] Z Z (λ_=>A9 (DX Z Z (Lz hun) Z BE Z)) ?_))))))));refine At 6 Z Z (At 16 Z Z (BQ [176,177] Z Z (λ_=>A9 (C7 (v) Z Z (Z) (s) Z E0 B4 Z)) (BQ [178] Z Z (λ_=>A9 (DX Z Z (Lz s) Z BE Z)) (AX [175,179] Z (Pp Z Z (nH _ _) Z) (Dh 11 Z Z Z (An 12 Z Z (J (C7 (u) Z Z (Z) (hun) Z E0 B4 Z) (AD ⟨Z,?_⟩))))))));refine An 13 Z Z (V (W1 Z Z Z Z Z (by rw [DF];exact hun) DE Z B4) (AD ⟨Z,?_⟩));refine Dg ?_
       rotate_left
       refine AZ ?_
       all_goals
        refine AC (AC ?_)
        first | (obtain ⟨H,G,hPX⟩:=iz b hke hvu;rw [G];obtain ⟨t,hcX⟩:∃l,Q++ [(u,ku)]=l:=⟨_,Z⟩;rw [hcX] at b hPX⊢) | (obtain ⟨H,G,hPX⟩:=jA b hke (List.length_eq_zero_iff.1 (by omega));rw [G];obtain ⟨t,hcX⟩:∃l,o=l:=⟨_,Z⟩;rw [hcX] at b hPX⊢)
        refine Dr [[],[],[0,1],[0,1,2],[],[],[4,5],[4,5,6],rg 8] mixed Z (E6 (At 6 Z Z (At 16 Z Z (BQ [182,183] Z Z (λ_=>A9 (C7 (v) Z Z (Z) (s) Z E0 B4 Z)) ?_))));refine BQ [184] Z Z (λ_=>A9 (DX Z Z (Lz s) Z BE Z)) (At 5 Z Z (At 16 Z Z (BQ [186,187] Z Z (λ_=>A9 (C7 (v) Z Z (Z) (s) Z E0 B4 Z)) (BQ [188] Z Z (λ_=>A9 (DX Z Z (Lz s) Z BE Z)) (Dh 8 Z Z Z (An 9 Z Z (J (EO Z Z Z) (AD ⟨Z,?_⟩))))))));refine Dg (Ah Z (λh190=>?_) (λh190=>?_))
        .refine BL ?_;exact ⟨(⟨a.idx,H,a.of,a.st,t,a.cnt,a.clk⟩,none,t,E,t++ [(v,k)]++T),⟨hPX.b (λe=>h190 (dc Int.ofNat e)),(en _).symm,z,[(v,k)]++T,gn _ _ _⟩,by rw [<-N];exact aX b.hcs,A0 P [0,1,2,3,4] Z (Z) ⟨Z,Z,Z,Z,Z,Z,Z,Z,Z,Z,trivial⟩⟩
        .refine AZ (AC (A2 ?_));obtain ⟨da,dZ,Y⟩:=List.append_of_mem (Tl b).2.1;obtain ⟨U,M⟩:=z;have hndp:=Yk b.ti Y;have hof:HC g.length a.of=HC g.length (λx=>if x∈([]:List Nat) then (a.cnt:Int) else a.of x):=(by simp);rw [hof,show a.st.length=(da++(v::dZ)).length by rw [Y]];have X:=ZB b.ti;have hstv:∀x∈da++v::dZ,x<g.length:=(λx hx=>b.ti.lt x ((b.ti.st x).1 (by rw [Y];exact hx)).1);rw [Y] at M X;refine Bb (α:=List Nat×List Nat) (λq=>⟨214,[(0,.d (LM g)),(5,(.own 0 0 g.length)),(6,(.own 1 0 g.length)),(7,(.own 2 0 g.length)),(9,(.own 3 0 (da++q.1).length)),(10,(.d (AL a.cnt))),(11,(.d (AL a.clk))),(13,(.own 4 0 t.length)),(16,(.d (AL v))),(37,(.d (AL g.length))),(38,(.d (AL i)))],[(0,[.rowD 3 1 (rowN g.length a.idx)]),(1,[.rowD 3 1 (rowN g.length H)]),(2,[.rowD 3 1 (HC g.length (λx=>if x∈q.2 then (a.cnt:Int) else a.of x))]),(3,[.rowD 3 1 (E.map AL)]),(4,[.rowD 321 2 ((t++ [(v,k)]++T).map Xt)])]⟩) (λq=>q.1++q.2=v::dZ/\q.1≠ []) (λq=>q.1.length) ((v::dZ,[])) (⟨en _,λe=>by cases e⟩) (A0 P [0,1,2,3,4] Z Z ⟨Z,Z,Z,Z,Z,Z,Z,Z,Z,Z,Z,trivial⟩) ?_;rintro ⟨c,dn⟩ ⟨O,hcne⟩;dsimp only at O hcne⊢;refine A2 (AC ?_);obtain ⟨R,w,hcw⟩:=P3 hcne;subst hcw;have hws:da++v::dZ++U=da++(R++ [w])++(dn++U):=by rw [<-O];simp
         have hwn:w<g.length:=hstv w (by rw [<-O];simp);have hl6:(da++(R++ [w])).length<=g.length:=by rw [<-O] at X;simp at X⊢;omega
         have hl7:(((da++(R++ [w])).length:Nat):Int) - 1=((da++R).length:Int):=by simp<;>omega
         have hl8:(da++R).length<(da++(R++ [w])).length:=by simp
         have hl9:(da++R).length<=(E.map AL).length:=by rw [M,hws];simp<;>omega
         have hgw:(E.map AL)[(da++R).length]? =some (AL w):=by rw [M,hws];exact sI rfl
         refine AE (cl Z Z (cl Z Z (J (Qs Z E0 Z) (J (Pg Z Z (Ξ _ (by omega)) Z) (J (C7 ((da++R).length) Z Z (hl7) (hl8) Z E0 B4 Z) (J (DX Z Z (hgw) Z BE Z) (AB Z Z ?_)))))));refine AD (AC (AE (cl Z Z (cl Z Z (J (Qs Z E0 Z) (J (Pg Z Z (Ξ _ (by omega)) Z) (J (Hw (da++R).length Z Z hl7 hl9 Z E0 B4 Z) (AB Z Z ?_))))))));skip;refine AD (AC (AE (cl Z Z (cl Z Z (cl Z Z (J (C7 (w) Z Z (Z) (hwn) Z E0 B4 Z) ?_))))));refine V (W1 Z Z Z Z Z (by rw [R4];exact hwn) qR Z B4) (AD (AC (AE (cl Z Z (cl Z Z (J (MB Z Z Z) (AD (Ah Z (λK=>?_) (λK=>?_)))))))))
         .refine BL ?_;obtain ⟨hc0,hdn⟩:=ir O (Int.ofNat.inj K) hndp;subst hc0;rw [en,hdn,Int.ofNat.inj K];have hcl3:=b.ti.num;have hcl4:=(RG b.ti).1;refine AE (cl Z Z (J (Aw Z Z (Ξ _ (by omega)) Z) (OJ 210 (.d (AL (a.cnt+1))) Z (eqv (dc AF (by omega))) (AB Z Z (AD ?_)))));exact ⟨(⟨a.idx,H,λx=>if x∈v::dZ then (a.cnt:Int) else a.of x,da,t,a.cnt+1,a.clk⟩,none,t,E,t++ [(v,k)]++T),⟨hPX.c da dZ (Int.ofNat.inj (Classical.not_not.1 h190)) Y,(en _).symm,⟨v::dZ++U,by rw [M];simp⟩,[(v,k)]++T,gn _ _ _⟩,by rw [<-N];exact aX b.hcs,A0 P [0,1,2,3,4] Z (Z) ⟨Z,Z,Z,Z,Z,Z,Z,Z,Z,Z,trivial⟩⟩
         .refine AZ ?_;exact ⟨(R,w::dn),Zj O (λe=>K (dc Int.ofNat e)),by show R.length<(R++ [w]).length;simp,A0 P [0,1,2,3,4] Z (Z) ⟨Z,Z,Z,Z,Z,Z,Z,Z,Z,Z,Z,trivial⟩⟩
    .refine BL ?_
     first | have hE:=Yi y (hfr▸List.length_eq_zero_iff.1 (by omega)) | skip
     refine AE (J (Aw Z Z (Ξ _ (by omega)) Z) (cl Z Z (AD ?_)));exact ⟨(i+1,S,E),⟨hil,hE.1,hE.2.1,Rr y.old hE.2.2,C⟩,by show g.length - (i+1)<g.length - i;omega,A0 P [0,1,2,3] Z (Z) ⟨Z,Z,Z,Z,Z,Z,Z,Z,Z,trivial⟩⟩
  .refine BL (AC ?_);have hin:i=g.length:=by have:=h39;omega
   subst hin;obtain ⟨hof,hofe⟩:=Yh hti hcs I;have hre:HC g.length S.of=rowN g.length (λv=>(S.of v).toNat):=eE λv hv=>dc AF (hofe v (Γ.1 hv));rw [hre];refine AE (cl Z Z (cl Z Z (AB Z Z (AB Z Z (AD (A6 ?_))))));exact ⟨_,[2],_,A4 Z,Z,Z,_,_,hof,Z,Z⟩
abbrev HL (lst:List Nat):Hp:=[(5,[.blk 33 [.own 6 0 lst.length]]),(6,[.rowD 3 1 (lst.map AL)])]
theorem jZ (c:List Nat) (a b:Nat) (g:a<c.length) (f:b<c.length):AK prog 188 [.d (AL a),.d (AL b),.ptr 5 0 0] (HL c) λr h=>r= .d (Ac (decide (cz c a<cz c b)))/\h=HL c:=by
 refine Av func188 Z Z ntmps188 Z Z Z λF i=>(AC ?_);refine AE (AB Z Z (AD (AC (Dr [[],[],[0,1],[0,1,2],[],[],[4,5],[4,5,6],rg 8,rg 9] mixed Z (E6 (BQ [2] Z Z (λ_=>A9 (A5 Z Z Z BI Z)) (At 0 Z Z (BQ [6,7] Z Z (λ_=>A9 (C7 (a) Z Z (Z) (g) Z E0 B4 Z)) ?_))))))));refine BQ [8] Z Z (λ_=>A9 (DX Z Z (NE g) Z BE Z)) (BQ [2] Z Z (λ_=>A9 (A5 Z Z Z BI Z)) (At 1 Z Z (BQ [10,11] Z Z (λ_=>A9 (C7 (b) Z Z (Z) (f) Z E0 B4 Z)) (BQ [12] Z Z (λ_=>A9 (DX Z Z (NE f) Z BE Z)) (Dh 8 Z Z Z (An 9 Z Z (J (BW Z Z Z) (AD ⟨Z,?_⟩))))))));refine An 10 Z Z (AB Z Z (AD ⟨Z,?_⟩));refine Dg (A6 ?_);exact ⟨_,[5,6],_,A4 Z,Z,Z,sM Int.ofNat_lt,Z⟩
abbrev LW (lst:List Nat) (l j:List Nat):Hp:=[(1,[.blk 326 [.own 2 0 l.length,.fn 188 [.ptr 5 0 0]]]),(2,[.rowD 3 1 ((l++j).map AL)]),(5,[.blk 33 [.own 6 0 lst.length]]),(6,[.rowD 3 1 (lst.map AL)])]
theorem S5 {j:List Nat} (h:s<t.length):((t++j).map AL)[s]? =some (AL (cz t s)):=by
 rw [NE (by rw [Ω];omega),Vi h]
theorem UZ (a:List Nat) (l j:List Nat):AK prog 222 [.ptr 1 0 0] (LW a l j) λr b=>r= .d (AL l.length)/\b=LW a l j:=by
 refine Av func222 Z Z ntmps222 Z Z Z λF c=>(AC (AE (AB Z Z (AD (AC ?_)))));refine AE (cl Z Z (J (KE Z Z) (J (A1 Z W2 Z Z Z) (J (A5 Z Z Z BI Z) (J (Qs Z E0 Z) (AB Z Z (AD (A6 ?_))))))));exact ⟨_,[1,2,5,6],_,A4 Z,Z,Z,Z,Z⟩
theorem QN (c:List Nat) (l j:List Nat) (i:∀x∈l,x<c.length) (a b:Nat) (h:a<l.length) (g:b<l.length):AK prog 268 [.ptr 1 0 0,.d (AL a),.d (AL b)] (LW c l j) λr k=>r= .d (Ac (decide (cz c (cz l a)<cz c (cz l b))))/\k=LW c l j:=by
 have f:=jZ c (cz l a) (cz l b) (i _ (DK h)) (i _ (DK g));refine Av func268 Z Z ntmps268 Z Z Z λF o=>(AC (AE ?_));refine AB Z Z (AD (AC (Dr [[],[0],[0,1],[0,1,2],[],[4],[4,5],[4,5,6],[],[4,5,6,7,8],[4,5,6,7,8,9],[],[11],[11,12],[11,12,13],[],[11,12,13,14,15],[11,12,13,14,15,16],rg 18,rg 19] mixed Z (E6 (At 0 Z Z (AX [7] Z (KE Z Z) (AX [8] Z (A1 Z jk Z Z Z) (BQ [9] Z Z (λ_=>A9 (A5 Z Z Z qO Z)) ?_))))))));refine At 0 Z Z (AX [11] Z (KE Z Z) (AX [12] Z (A1 Z W2 Z Z Z) (BQ [13] Z Z (λ_=>A9 (A5 Z Z Z BI Z)) (At 1 Z Z (BQ [14,15] Z Z (λ_=>A9 (C7 (a) Z Z (Z) (h) Z E0 B4 Z)) (BQ [16] Z Z (λ_=>A9 (DX Z Z (S5 h) Z BE Z)) (At 0 Z Z (AX [18] Z (KE Z Z) ?_))))))));refine AX [19] Z (A1 Z W2 Z Z Z) (BQ [20] Z Z (λ_=>A9 (A5 Z Z Z BI Z)) (At 2 Z Z (BQ [21,22] Z Z (λ_=>A9 (C7 (b) Z Z (Z) (g) Z E0 B4 Z)) (BQ [23] Z Z (λ_=>A9 (DX Z Z (S5 g) Z BE Z)) (Dh 18 Z Z Z (An 19 Z Z (V (Y0 f Z [5,6] ⟨Z,Z,trivial⟩ Z Z Z Z Z Z Z Z Z) (AD ⟨Z,?_⟩))))))));refine An 20 Z Z (AB Z Z (AD ⟨Z,?_⟩));refine Dg (A6 ?_);exact ⟨_,[1,2,5,6],_,A4 Z,Z,Z,Z,Z⟩
theorem Pm (c:List Nat) (l j:List Nat) (a b:Nat) (g:a<l.length) (f:b<l.length):AK prog 271 [.ptr 1 0 0,.d (AL a),.d (AL b)] (LW c l j) λr k=>r= .tup []/\k=LW c (Kz l a b) j:=by
 have i:a<(l++j).length:=by rw [Ω];omega
 have h:b<((l++j).set a (cz l b)).length:=by rw [eU,Ω];omega
 refine Av func271 Z Z ntmps271 Z Z Z λF o=>(Dr [[],[0],[0,1],[0,1,2],[],[],[5],[5,6],[5,6,7],[],[],[10],[10,11],[10,11,12],[],[10,11,12,13,14],[10,11,12,13,14,15],[],[17],[17,18],[17,18,19],[],[17,18,19,20,21],[17,18,19,20,21,22],[0,1,2,3,4,5,6,7,8,10,11,12,13,14,15,16,17,18,19,20,21,22,23],[0,1,2,3,4,5,6,7,8,10,11,12,13,14,15,16,17,18,19,20,21,22,23,24],rg 26,rg 27] mixed Z (E6 (At 0 Z Z (AX [6] Z (KE Z Z) (AX [7] Z (A1 Z W2 Z Z Z) ?_)))));refine BQ [8] Z Z (λ_=>A9 (A5 Z Z Z BI Z)) (At 1 Z Z (At 0 Z Z (AX [11] Z (KE Z Z) (AX [12] Z (A1 Z W2 Z Z Z) (BQ [13] Z Z (λ_=>A9 (A5 Z Z Z BI Z)) (At 2 Z Z (At 0 Z Z (AX [16] Z (KE Z Z) ?_))))))));refine AX [17] Z (A1 Z W2 Z Z Z) (BQ [18] Z Z (λ_=>A9 (A5 Z Z Z BI Z)) (At 2 Z Z (BQ [19,20] Z Z (λ_=>A9 (C7 (b) Z Z (Z) (f) Z E0 B4 Z)) (BQ [21] Z Z (λ_=>A9 (DX Z Z (S5 f) Z BE Z)) (At 0 Z Z (AX [23] Z (KE Z Z) (AX [24] Z (A1 Z W2 Z Z Z) (BQ [25] Z Z (λ_=>A9 (A5 Z Z Z BI Z)) ?_))))))));refine At 1 Z Z (BQ [26,27] Z Z (λ_=>A9 (C7 (a) Z Z (Z) (g) Z E0 B4 Z)) (BQ [28] Z Z (λ_=>A9 (DX Z Z (S5 g) Z BE Z)) (BQ [9,10] Z Z (λ_=>A9 (C7 (a) Z Z (Z) (g) Z E0 B4 Z)) (IU [30,22] [2] [] Z Z (λ_=>IV (Fq (emb:=AL) (l++j) (cz l b) Z Z Z Z Z Z i Z B4)) (.inl ⟨Z,Z⟩) Z Z Z Z Z (Dh 26 Z Z Z (An 27 Z Z (J (C7 (b) Z Z (Z) (f) Z E0 B4 Z) (AD ⟨Z,?_⟩))))))));refine An 28 Z Z (V (Fq (emb:=AL) ((l++j).set a (cz l b)) (cz l a) Z Z Z Z Z Z h Z B4) (AD ⟨Z,?_⟩));refine Dg ?_;exact ⟨_,[1,2,5,6],_,A4 Z,Z,Z,Z,by rw [LW,L7,<-rY g f]⟩
theorem a7 (a:List Nat) (l j:List Nat) (x:Nat) (c:l.length<=1000000):AK prog 270 [.ptr 1 0 0,.d (.raw (.iface 3 (.int .i64 (x:Int))))] (LW a l j) λr b=>r= .tup []/\b=LW a (l++ [x]) []:=by
 refine Av func270 Z Z ntmps270 Z Z Z λF f=>(Dr [[],[],[1],[1,2],[1,2,3],[],[5],[5,6],[1,2,3,4,5,6,7],rg 9,rg 10,rg 11] mixed Z (E6 (At 0 Z Z (At 0 Z Z (AX [5] Z (KE Z Z) (AX [6] Z (A1 Z W2 Z Z Z) ?_))))));refine BQ [7] Z Z (λ_=>A9 (A5 Z Z Z BI Z)) (At 1 Z Z (AX [9] Z (MS Z py Z Z) (IU [10] [20] [(11,_)] Z Z (λ_=>IV (EH 20 BX Z Z Z Z Z Z Z Z)) (.inr ⟨11,_,Z,Z,Z,Z,Z⟩) Z Z Z Z Z (IU [8,11] [1,2,5,6,20] [(12,_)] Z Z (λ_=>IV (GY Z Z Z (by simp) Z Z (by simp) BX (by omega) Z Z (lJ l j) Z Z)) (.inr ⟨12,_,Z,Z,Z,Z,Z⟩) Z Z Z Z Z (Dh 9 Z Z Z (An 10 Z Z (J (KE Z Z) (AD ⟨Z,?_⟩))))))));refine An 11 Z Z (J (A1 Z W2 Z Z Z) (AD ⟨Z,?_⟩));refine An 12 Z Z (V (Bk Z Z Z Z Z Z Z Ca) (AD ⟨Z,?_⟩));refine Dg ?_;exact ⟨_,[1,2,5,6],_,A4 Z,Z,Z,Z,by rw [LW];simp⟩
theorem jS (a:List Nat) (l j:List Nat) (g:l≠ []) (f:l.length<=1000000):AK prog 269 [.ptr 1 0 0] (LW a l j) λr i=>r= .d (.raw (.iface 3 (.int .i64 (cz l (l.length - 1):Int))))/\i=LW a (l.take (l.length - 1)) ([cz l (l.length - 1)]++j):=by
 have h:0<l.length:=gO.2 g;have b:((l.length:Int) - 1)=((l.length - 1:Nat):Int):=by omega
 have c:l.length - 1<=((l++j).map AL).length:=by rw [ψ,Ω];omega
 refine Av func269 Z Z ntmps269 Z Z Z λF k=>(AC (AE (AB Z Z ?_)));refine AD (AC (Dr [[],[0],[0,1],[0,1,2],[],[4],[4,5],[4,5,6],[4,5,6,7],[4,5,6,7,8],rg 10,rg 11,rg 12] mixed Z (E6 (At 0 Z Z (AX [4] Z (KE Z Z) (AX [5] Z (A1 Z W2 Z Z Z) (BQ [6] Z Z (λ_=>A9 (A5 Z Z Z BI Z)) (At 0 Z Z ?_))))))));refine AX [8] Z (KE Z Z) (AX [9] Z (A1 Z W2 Z Z Z) (BQ [10] Z Z (λ_=>A9 (A5 Z Z Z BI Z)) (AX [11] Z (Qs Z E0 Z) (AX [12] Z (Pg Z Z (Ξ _ (by omega)) Z) (Dh 10 Z Z Z (An 11 Z Z (J (C7 (l.length - 1) Z Z (b) (by omega) Z E0 B4 Z) (AD ⟨Z,?_⟩))))))));refine An 12 Z Z (J (DX Z Z (S5 (by omega)) Z BE Z) (AD ⟨Z,?_⟩));refine An 13 Z Z (AB Z Z (AD ⟨Z,?_⟩));refine Dg (AC ?_);refine Dr [[],[],[1],[1,2],[1,2,3],[],[5],[5,6],[5,6,7],[5,6,7,8],[5,6,7,8,9],[1,2,3,4,5,6,7,8,9,10],rg 12,rg 13,rg 14] mixed Z (E6 (At 0 Z Z (At 0 Z Z (AX [17] Z (KE Z Z) (AX [18] Z (A1 Z W2 Z Z Z) (BQ [19] Z Z (λ_=>A9 (A5 Z Z Z BI Z)) (At 0 Z Z (AX [21] Z (KE Z Z) ?_))))))));refine AX [22] Z (A1 Z W2 Z Z Z) (BQ [23] Z Z (λ_=>A9 (A5 Z Z Z BI Z)) (AX [24] Z (Qs Z E0 Z) (AX [25] Z (Pg Z Z (Ξ _ (by omega)) Z) (BQ [20,26] Z Z (λ_=>A9 (Hw (l.length - 1) Z Z b c Z E0 B4 Z)) (Dh 12 Z Z Z (An 13 Z Z (J (KE Z Z) (AD ⟨Z,?_⟩))))))));refine An 14 Z Z (J (A1 Z W2 Z Z Z) (AD ⟨Z,?_⟩));refine An 15 Z Z (V (Bk Z Z Z Z Z Z Z Ca) (AD ⟨Z,?_⟩));refine Dg (AC (AE (cl Z Z (J (Fd py Z Z) (AB Z Z (AD (A6 ?_)))))));exact ⟨_,[1,2,5,6],_,A4 Z,Z,Z,Z,by rw [LW,rx h,Θ,Nat.min_eq_left (by omega)]⟩
theorem pw (i:Nat) (h:i<=1000000):IntKind.i64.wrap (Int.tdiv ((i:Int) - 1) 2)=(((i - 1) / 2:Nat):Int):=by
 rw [ru];exact Ξ _ (by omega)
theorem pK (a:List Nat) (l j:List Nat) (k:Nat) (C:k<l.length) (w:l.length<=1000000) (B:∀x∈l,x<a.length):AK prog 243 [.ifc 324 none 1 0,.d (AL k)] (LW a l j) λr E=>r= .tup []/\E=LW a (RD (cz a) k l k) j:=by
 refine Av func243 Z Z ntmps243 Z Z Z λF z=>(A2 (Bb (α:=Nat×List Nat×Nat) (λq=>⟨23,[(0,.ifc 324 none 1 0),(1,(.d (AL q.2.2)))],LW a q.2.1 j⟩) (λq=>q.2.2<=q.1/\q.2.2<q.2.1.length/\q.2.1.length<=1000000/\RD (cz a) q.1 q.2.1 q.2.2=RD (cz a) k l k/\∀x∈q.2.1,x<a.length) (λq=>q.2.2) ((k,l,k)) (⟨κ _,C,w,Z,B⟩) (A0 z [1,2,5,6] Z Z ⟨Z,Z,trivial⟩) ?_));rintro ⟨f,m,i⟩ ⟨v,c,s,b,o⟩;dsimp only at v c s b⊢;have g:(i - 1) / 2<m.length:=by omega
 refine A2 (AC (AE (cl Z Z (J (Pg Z Z (Ξ _ (by omega)) Z) (J (mZ Z Z (by omega) (pw i (by omega)) Z) (AB Z Z ?_))))));refine AD (AC (AC (AE (cl Z Z (cl Z Z (J (MB Z Z Z) (cl Z Z (Id 11 Z (λu=>?_) (λu=>?_)))))))))
 .refine A8 Z Z Z Z (A8 Z Z Z Z (A8 Z Z Z Z (A8 Z Z Z Z (A8 Z Z Z Z (J (FL Z Z Z Z) (AD (Dt Z Z (BL ?_))))))));have D:i=0:=by omega
  exact ⟨_,[1,2,5,6],_,A4 Z,Z,Z,Z,by rw [<-b,D,Y9]⟩
 .refine Aa Z Z Z (cl Z Z (Aa Z Z Z (cl Z Z ?_)));refine Aa Z Z Z (cl Z Z (Aa Z Z Z (V (Dn ae (QN a m j o i ((i - 1) / 2) c g) Z [1,2,5,6] ⟨Z,Z,Z,Z,trivial⟩ Z Z Z Z Z Z Z Z Z) (Aa Z Z Z (J (O2 Z Z) (J (DT Z Z Z Z) (AD (Ah Z (λh=>?_) (λh=>?_)))))))))
  .refine BL ?_;exact ⟨_,[1,2,5,6],_,A4 Z,Z,Z,Z,by rw [<-b,Ya (by simpa using h)]⟩
  .refine AZ (AC ?_);have y:i≠0:=λe=>by subst e;exact u rfl
   have t:(cz a) (cz m i)<(cz a) (cz m ((i - 1) / 2)):=Classical.not_not.1 h;refine AE ?_;refine cl Z Z (cl Z Z (cl Z Z (V (Dn ac (Pm a m j ((i - 1) / 2) i g c) Z [1,2,5,6] ⟨Z,Z,Z,Z,trivial⟩ Z Z Z Z Z Z Z Z Z) (AD (AE (cl Z Z (AB Z Z (AD ?_))))))));exact ⟨(f - 1,Kz m ((i - 1) / 2) i,(i - 1) / 2),⟨by show (i - 1) / 2<=f - 1;omega,by show _<(Kz _ _ _).length;rw [L7];exact g,by show (Kz _ _ _).length<=_;rw [L7];exact s,by show RD _ (f - 1) _ _=_;rw [<-b,<-mN y t,show f - 1+1=f by omega],λx A=>o x ((El g c).mem_iff.1 A)⟩,by show (i - 1) / 2<i;omega,A0 z [1,2,5,6] Z (Z) ⟨Z,Z,trivial⟩⟩
theorem nw (b:2*s+2<c) (a:K (cz t (2*s+2))<K (cz t (2*s+1))):Qr K c t s=2*s+2:=ϖ ⟨b,a⟩
theorem bm (h:¬(2*s+2<c/\K (cz t (2*s+2))<K (cz t (2*s+1)))):Qr K c t s=2*s+1:=η h
theorem jv (a:List Nat) (l j:List Nat) (k n:Nat) (L:k<l.length) (H:n<=l.length) (B:l.length<=1000000) (I:∀x∈l,x<a.length):AK prog 244 [.ifc 324 none 1 0,.d (AL k),.d (AL n)] (LW a l j) λr N=>(∃b:Bool,r= .d (Ac b))/\N=LW a (NX (cz a) n (n - k) l k) j:=by
 refine Av func244 Z Z ntmps244 Z Z Z λF E=>(AC (AE (AB Z Z ?_)));refine AD (AC (AE (cl Z Z (AB Z Z (AD (AC (A2 (Bb (α:=Nat×List Nat×Nat) (λq=>⟨48,[(0,.ifc 324 none 1 0),(1,.d (AL k)),(2,.d (AL n)),(7,(.d (AL q.2.2)))],LW a q.2.1 j⟩) (λq=>n<=q.1+q.2.2/\q.2.2<q.2.1.length/\q.2.1.length<=1000000/\n<=q.2.1.length/\NX (cz a) n q.1 q.2.1 q.2.2=NX (cz a) n (n - k) l k/\∀x∈q.2.1,x<a.length) (λq=>n - q.2.2) ((n - k,l,k)) (⟨by show n<=n - k+k;omega,L,B,H,Z,I⟩) (A0 E [1,2,5,6] Z Z ⟨Z,Z,Z,Z,trivial⟩) ?_))))))));rintro ⟨f,m,i⟩ ⟨A,g,v,u,c,s⟩;dsimp only at A g v u c⊢;refine A2 (AC (AE (cl Z Z (J (Yy Z Z (Ξ _ (by omega)) Z) (J (Aw Z Z (Ξ _ (by omega)) Z) (AB Z Z (AD ?_)))))));refine AC (AC (ca 8 (.d (AL (2*i+1))) Z (eqv (dc AF (by omega))) (AE (cl Z Z (cl Z Z (J (D2 Z Z Z) (cl Z Z (Id 18 Z (λz=>?_) (λz=>?_)))))))))
 .refine A8 Z Z Z Z (A8 Z Z Z Z (J (FL Z Z Z Z) (AD (Dt Z Z ?_))));refine BL (AC (AE (cl Z Z (cl Z Z (J (Pf Z Z Z) (AB Z Z (AD (A6 ?_))))))));exact ⟨_,[1,2,5,6],_,A4 Z,Z,Z,⟨_,Z⟩,by rw [<-c,jw (by omega)]⟩
 .refine Aa Z Z Z (cl Z Z (Aa Z Z Z (J (BW Z Z Z) (J (DT Z Z Z Z) (AD (EV Z (dw (by omega)) (AZ (AC ?_))))))));have w:¬n<=2*i+1:=by have:=z;omega
  have M:=nv (K:=(cz a)) (l:=m) w;have o:Qr (cz a) n m i<m.length:=by omega
  refine AE ?_;refine cl Z Z (AB Z Z (AD (AC (AC (AE (cl Z Z (J (Aw Z Z (Ξ _ (by omega)) Z) (AB Z Z ?_))))))));refine AD (AC (ca 10 (.d (AL (2*i+2))) Z (eqv (dc AF (by omega))) (AE (cl Z Z (cl Z Z (J (BW Z Z Z) (cl Z Z (Id 28 Z (λD=>?_) (λD=>?_)))))))));refine Aa Z Z Z (cl Z Z ?_);refine Aa Z Z Z (cl Z Z (Aa Z Z Z (cl Z Z (Aa Z Z Z (V (Dn ae (QN a m j s (2*i+2) (2*i+1) (by omega) (by omega)) Z [1,2,5,6] ⟨Z,Z,Z,Z,trivial⟩ Z Z Z Z Z Z Z Z Z) (J (FL Z Z Z Z) (AD (Ah Z (λC=>?_) (λC=>?_)))))))));refine AE (cl Z Z (AB Z Z (AD ?_)))
  rotate_left
  refine AZ ?_
  rotate_left
  refine A8 Z Z Z Z (A8 Z Z Z Z (A8 Z Z Z Z (A8 Z Z Z Z (J (DT Z Z Z Z) (AD (EV Z Z (AZ ?_)))))))
  all_goals
   refine AC (AC ?_);refine ca 9 (.d (AL (Qr (cz a) n m i))) Z (eqv (dc AL (by first | exact (nw (by omega) (by assumption)).symm | exact (bm (λh=>by omega)).symm | exact (bm (λh=>absurd h.2 (by assumption))).symm))) (AE (cl Z Z (cl Z Z (cl Z Z (V (Dn ae (QN a m j s (Qr (cz a) n m i) i o g) Z [1,2,5,6] ⟨Z,Z,Z,Z,trivial⟩ Z Z Z Z Z Z Z Z Z) (J (O2 Z Z) (AD (Ah Z (λt=>?_) (λt=>?_)))))))))
   .refine BL (AC (AE (cl Z Z (cl Z Z (J (Pf Z Z Z) (AB Z Z (AD (A6 ?_))))))));exact ⟨_,[1,2,5,6],_,A4 Z,Z,Z,⟨_,Z⟩,by rw [<-c,bo t]⟩
   .refine AZ (AC ?_);have y:(cz a) (cz m (Qr (cz a) n m i))<(cz a) (cz m i):=Classical.not_not.1 t;refine AE ?_;refine cl Z Z (cl Z Z (cl Z Z (V (Dn ac (Pm a m j i (Qr (cz a) n m i) g o) Z [1,2,5,6] ⟨Z,Z,Z,Z,trivial⟩ Z Z Z Z Z Z Z Z Z) (AD (AE (cl Z Z (AB Z Z (AD ?_))))))));exact ⟨(f - 1,Kz m i (Qr (cz a) n m i),Qr (cz a) n m i),⟨by show n<=f - 1+Qr _ n m i;omega,by show _<(Kz _ _ _).length;rw [L7];exact o,by show (Kz _ _ _).length<=_;rw [L7];exact v,by show _<=(Kz _ _ _).length;rw [L7];exact u,by show NX _ n (f - 1) _ _=_;rw [<-c,<-ny w y,show f - 1+1=f by omega],λx G=>s x ((El g o).mem_iff.1 G)⟩,by show n - Qr _ n m i<n - i;omega,A0 E [1,2,5,6] Z (Z) ⟨Z,Z,Z,Z,trivial⟩⟩
theorem SU (a:List Nat) (l j:List Nat) (x:Nat) (h:l.length<=999999) (i:∀x∈l,x<a.length)  (g:x<a.length):AK prog 221 [.ifc 324 none 1 0,.d (.raw (.iface 3 (.int .i64 (x:Int))))] (LW a l j) λr k=>r= .tup []/\k=LW a (LL (cz a) l x) []:=by
 have c:(l++ [x]).length=l.length+1:=by simp
 have b:((l.length+1:Nat):Int) - 1=((l.length:Nat):Int):=by omega
 refine Av func221 Z Z ntmps221 Z Z Z λF o=>(AC (AE (cl Z Z (cl Z Z (V (Dn qW (a7 a l j x (by omega)) Z [1,2,5,6] ⟨Z,Z,Z,Z,trivial⟩ Z Z Z Z Z Z Z Z Z) ?_)))));refine AD (AE (cl Z Z (cl Z Z (V (Dn qX (UZ a (l++ [x]) []) Z [1,2,5,6] ⟨Z,Z,Z,Z,trivial⟩ Z Z Z Z Z Z Z Z Z) (J (Pg Z Z (Ξ _ (by omega)) Z) (OJ 10 (.d (AL l.length)) Z (eqv (dc AF (by rw [c];exact b))) (V (Eh (pK a (l++ [x]) [] l.length (by omega) (by omega) (λy f=>(ν.1 f).elim (i y) λe=>ξ.1 e▸g)) Z [1,2,5,6] ⟨Z,Z,Z,Z,trivial⟩ Z Z Z Z Z Z Z Z Z) (AD ?_))))))));exact ⟨_,[1,2,5,6],_,A4 Z,Z,Z,Z,Z⟩
theorem jd (a:List Nat) (l j:List Nat) (f:l≠ []) (s:l.length<=999999) (t:∀x∈l,x<a.length):AK prog 223 [.ifc 324 none 1 0] (LW a l j) λr u=>r= .d (.raw (.iface 3 (.int .i64 (cz l 0:Int))))/\u=LW a (OQ (cz a) l) ([cz l 0]++j):=by
 have i:0<l.length:=gO.2 f;have o:=L7 l 0 (l.length - 1);have c:=Gd (cz a) f;have g:Jc (cz a) l≠ []:=λe=>by rw [e] at c;simp at c;omega
 have b:cz (Jc (cz a) l) ((Jc (cz a) l).length - 1)=cz l 0:=by rw [c];exact NA (cz a) f
 have h:=(jv a (Kz l 0 (l.length - 1)) j 0 (l.length - 1) (by omega) (by omega) (by omega) (λy k=>t y ((El i (by omega)).mem_iff.1 k))).top;refine Av func223 Z Z ntmps223 Z Z Z λF v=>(AC (AE (AB Z Z (AD ?_))));refine AC (AE (cl Z Z (V (Dn qX (UZ a l j) Z [1,2,5,6] ⟨Z,Z,Z,Z,trivial⟩ Z Z Z Z Z Z Z Z Z) (J (Pg Z Z (Ξ _ (by omega)) Z) (AB Z Z (AD (AC (ca 3 (.d (AL (l.length - 1))) Z (eqv (dc AF (by omega))) ?_))))))));refine AE (cl Z Z (cl Z Z (V (Dn ac (Pm a l j 0 (l.length - 1) i (by omega)) Z [1,2,5,6] ⟨Z,Z,Z,Z,trivial⟩ Z Z Z Z Z Z Z Z Z) (AD (AC (AE (cl Z Z (cl Z Z ?_))))))));refine V (Eh h Z [1,2,5,6] ⟨Z,Z,Z,Z,trivial⟩ Z Z Z Z Z Z Z Z Z) (AD (AC (AE (cl Z Z (V (Dn sB (jS a (Jc (cz a) l) j g (by omega)) Z [1,2,5,6] ⟨Z,Z,Z,Z,trivial⟩ Z Z Z Z Z Z Z Z Z) (AB Z Z (AD (A6 ?_))))))));exact ⟨_,[1,2,5,6],_,A4 Z,Z,Z,by rw [b],by rw [b,c];rfl⟩
theorem Zu (c:List Nat) (g:List (List Nat)) (K:GB g) (hK:∀a b,a<g.length ->b<g.length ->(cz c) a=(cz c) b ->a=b) (u:g.length=c.length):AK prog 187 [.d (LM g),.fn 188 [.ptr 5 0 0]] (HL c) λr H'=>r= .d (.tup [dI (eX g (cz c)),Ac (decide ((eX g (cz c)).length=g.length))])/\H'=(HL c):=by
 have hn:=K.n;refine Av func187 Z Z ntmps187 Z Z Z λF v=>(AC (AE (AB Z Z (AB Z Z (AD ?_)))));refine AC (AE (cl Z Z (J (JB Z (ψ ..) No Z) (V (EX 0 BX Z Z Z (by omega) mJ Z Z Z Z) (AB Z Z (AD (AC (AC ?_))))))));rw [pq];refine AE (cl Z Z (J (JB Z (ψ ..) No Z) (cl Z Z (AD (A2 (Bb (α:=Nat×List Nat) (λq=>⟨102,[(0,.d (LM g)),(1,.fn 188 [.ptr 5 0 0]),(6,(.own 0 0 g.length)),(21,(.d (LM g))),(22,(.d (AL g.length))),(23,(.d (AL q.1)))],[(0,[.rowD 3 1 (q.2.map AL)])]++HL c⟩) (λq=>q.1<=g.length/\CW g q.1 0 q.2) (λq=>g.length - q.1) ((0,List.replicate g.length 0)) (⟨ϱ _,kA g⟩) (A0 v [0,5,6] Z Z ⟨Z,Z,Z,Z,Z,Z,trivial⟩) ?_))))));rintro ⟨i,w⟩ ⟨hi,D⟩;dsimp only at hi D⊢;refine AC (AE (J (BW Z Z Z) (AD (AC (Ah Z (λR=>?_) (λR=>?_))))))
 .refine AZ (AC (A2 (AC ?_)));have h:i<g.length:=Bi R;have hsl:=K.len h;refine AE (J (Bq (i) Z Z (Z) (Xr h) No Z Ca Z) (J (EJ Z Z BI Z) (AB Z Z ?_)));refine AD (AC (AE (cl Z Z (J (JB Z (ψ ..) E0 Z) (cl Z Z (AD (A2 (Bb (α:=Nat×List Nat) (λq=>⟨102,[(0,.d (LM g)),(1,.fn 188 [.ptr 5 0 0]),(6,(.own 0 0 g.length)),(21,(.d (LM g))),(22,(.d (AL g.length))),(23,(.d (AL i))),(27,(.d (dI (cx g i)))),(28,(.d (AL (cx g i).length))),(29,(.d (AL q.1)))],[(0,[.rowD 3 1 (q.2.map AL)])]++HL c⟩) (λq=>q.1<=(cx g i).length/\CW g i q.1 q.2) (λq=>(cx g i).length - q.1) ((0,w)) (⟨ϱ _,D⟩) (A0 v [0,5,6] Z Z ⟨Z,Z,Z,Z,Z,Z,Z,Z,Z,trivial⟩) ?_))))))));rintro ⟨k,w⟩ ⟨hk,D⟩;dsimp only at hk D⊢;refine AC (AE (J (BW Z Z Z) (AD (AC (Ah Z (λQ=>?_) (λQ=>?_))))))
  .refine AZ (AC (A2 (AC ?_)));have s:k<(cx g i).length:=Bi Q;have B:=kB K D h s;have u:cz (cx g i) k<g.length:=by rw [<-D.len];exact B.1
   refine AE ?_;refine J (Bq (k) Z Z (Z) (NE s) E0 Z B4 Z) (J (EJ Z Z BE Z) (AB Z Z (AD (AE (cl Z Z (cl Z Z (J (C7 (cz (cx g i) k) Z Z (Z) (u) Z E0 B4 Z) (J (DX Z Z (NE B.1) Z BE Z) ?_))))))));refine J (Aw Z Z (Ξ _ (by omega)) Z) (OJ 37 (.d (AL (cz w (cz (cx g i) k)+1))) Z (eqv (dc AF (by omega))) (J (C7 (cz (cx g i) k) Z Z (Z) (u) Z E0 B4 Z) (V (Fq (emb:=AL) w (cz w (cz (cx g i) k)+1) Z Z Z Z Z Z B.1 Z B4) (AD (AE (J (Aw Z Z (Ξ _ (by omega)) Z) (cl Z Z (AD ?_))))))));exact ⟨(k+1,w.set (cz (cx g i) k) (cz w (cz (cx g i) k)+1)),⟨s,B.2.2⟩,by show (cx g i).length - (k+1)<(cx g i).length - k;omega,A0 v [0,5,6] Z (Z) ⟨Z,Z,Z,Z,Z,Z,Z,Z,Z,trivial⟩⟩
  .refine BL ?_;have hke:k=(cx g i).length:=by have:=Q;omega
   subst hke;refine AE (J (Aw Z Z (Ξ _ (by omega)) Z) (cl Z Z (AD ?_)));exact ⟨(i+1,w),⟨h,oH D⟩,by show g.length - (i+1)<g.length - i;omega,A0 v [0,5,6] Z (Z) ⟨Z,Z,Z,Z,Z,Z,trivial⟩⟩
 .refine BL (AC ?_);have I:i=g.length:=by have:=R;omega
  subst I;obtain ⟨X,hwd⟩:=oI D;refine AE (cl Z Z (J (FU oz qB Z Z Z) (V (i3 1 Z Z Z Z Z Z Z) (AB Z Z (AD (AC ?_))))));refine AC (GL 1 0 0 2 BX Z Z Z Z Z Z Z (AE (cl Z Z (J (Qs Z E0 Z) (cl Z Z (AD (A2 (Bb (α:=Nat×List Nat×List Nat) (λq=>⟨102,[(0,.d (LM g)),(1,.fn 188 [.ptr 5 0 0]),(6,(.own 0 0 g.length)),(11,(.ptr 1 0 0)),(44,(.own 0 0 g.length)),(45,(.d (AL g.length))),(46,(.d (AL q.1)))],LW c q.2.1 q.2.2++ [(0,[.rowD 3 1 (w.map AL)])]⟩) (λq=>q.1<=g.length/\FI (cz c) w q.1 q.2.1) (λq=>g.length - q.1) ((0,[],[])) (⟨ϱ _,jh _ w⟩) (A0 v [1,2,5,6,0] Z Z ⟨Z,Z,Z,Z,Z,Z,Z,trivial⟩) ?_))))))));rintro ⟨i,l,j⟩ ⟨hi,E⟩;dsimp only at hi E⊢;have hfl:=E.le;refine AC (AE (J (BW Z Z Z) (AD (AC (Ah Z (λP=>?_) (λP=>?_))))))
  .refine AZ (AC (A2 (AC ?_)));have h:i<g.length:=Bi P;refine AE (cl Z Z (J (C7 (i) Z Z (Z) (h) Z E0 B4 Z) (J (DX Z Z (NE (by rw [X];exact h)) Z BE Z) ?_)));refine AB Z Z (AB Z Z (AD (AC (AE (cl Z Z (J (MB Z Z Z) (AD (Ah Z (λO=>?_) (λO=>?_)))))))))
   .refine AE (cl Z Z ?_);refine J (GU Zf Z Z) (cl Z Z (J (Fd py Z Z) (V (Eh (SU c l j i (by omega) (λx H=>by rw [<-u];have:=((E.mem x).1 H).1;omega) (by rw [<-u];exact h)) Z [1,2,5,6] ⟨Z,Z,Z,Z,trivial⟩ Z Z Z Z Z Z Z Z Z) (AD (AE (J (Aw Z Z (Ξ _ (by omega)) Z) (cl Z Z (AD ?_))))))));exact ⟨(i+1,LL (cz c) l i,[]),⟨h,jj E (Int.ofNat.inj O)⟩,by show g.length - (i+1)<g.length - i;omega,A0 v [1,2,5,6,0] Z (Z) ⟨Z,Z,Z,Z,Z,Z,Z,trivial⟩⟩
   .refine AZ (AE (J (Aw Z Z (Ξ _ (by omega)) Z) (cl Z Z (AD ?_))));exact ⟨(i+1,l,j),⟨h,ji E (λe=>O (dc Int.ofNat e))⟩,by show g.length - (i+1)<g.length - i;omega,A0 v [1,2,5,6,0] Z (Z) ⟨Z,Z,Z,Z,Z,Z,Z,trivial⟩⟩
  .refine BL (AC ?_);have I:i=g.length:=by have:=P;omega
   subst I;have hoi:=jL X hwd E.nd E.mem E.hp;refine AE (AB Z Z (AD (AC (A2 (O0 14 7 BX Z Z Z Z (Bb (α:=List Nat×List Nat×List Nat×List Nat) (λq=>⟨102,[(0,.d (LM g)),(1,.fn 188 [.ptr 5 0 0]),(6,(.own 0 0 g.length)),(11,(.ptr 1 0 0)),(14,(.own 7 0 q.2.2.2.length))],LW c q.2.1 q.2.2.1++ [(0,[.rowD 3 1 (q.1.map AL)]),(7,[.rowD 3 1 (q.2.2.2.map AL)])]⟩) (λq=>OI g (cz c) q.1 q.2.1 q.2.2.2 []) (λq=>g.length - q.2.2.2.length) ((w,l,j,[])) (hoi) (A0 v [1,2,5,6,0,7] Z Z ⟨Z,Z,Z,Z,Z,trivial⟩) ?_))))));rintro ⟨w,l,j,f⟩ S;dsimp only at S⊢;have hol:=l9 S;refine AC (AC (AE (cl Z Z (V (Eh (UZ c l j) Z [1,2,5,6] ⟨Z,Z,Z,Z,trivial⟩ Z Z Z Z Z Z Z Z Z) (J (Pf Z Z Z) (AD (Ah Z (λN=>?_) (λN=>?_))))))))
   .refine AZ (A2 (AC ?_));have C:l≠ []:=λe=>by subst e;exact absurd N (by decide)
    have ho1:=my S C;have H:cz l 0<g.length:=S.lt _ (ν.2 (.inr (DK (gO.2 C))));have hol1:f.length+1<=g.length:=by have:=gO.2 C;omega
    refine AE (cl Z Z (J (GU Zf Z Z) (V (Eh (jd c l j C (by omega) (λz hz=>by rw [<-u];exact S.lt z (ν.2 (.inr hz)))) Z [1,2,5,6] ⟨Z,Z,Z,Z,trivial⟩ Z Z Z Z Z Z Z Z Z) (J (MS Z py Z Z) (AB Z Z (AD (AC ?_)))))))
    obtain ⟨x,hxe⟩:∃x,cz l 0=x:=⟨_,Z⟩
    rw [hxe] at ho1 H⊢;refine AE (cl Z Z (cl Z Z (V (EH 21 BX Z Z Z Z Z Z Z Z) (V (Ic (emb:=AL) f [x] Z Z Z Z Z Z Z Z BX (by show (f.length+1)*8<=_;omega) Z Z Z Z) (AB Z Z (AD (AC (AE ?_))))))));refine cl Z Z (cl Z Z (J (Bq (x) Z Z (Z) (Xr H) No Z Ca Z) (J (EJ Z Z BI Z) (J (JB Z (ψ ..) E0 Z) (cl Z Z (AD (A2 (Bb (α:=Nat×List Nat×List Nat×List Nat) (λq=>⟨102,[(0,.d (LM g)),(1,.fn 188 [.ptr 5 0 0]),(6,(.own 0 0 g.length)),(11,(.ptr 1 0 0)),(14,(.own 7 0 (f++ [x]).length)),(73,(.d (dI (cx g x)))),(74,(.d (AL (cx g x).length))),(75,(.d (AL q.1)))],LW c q.2.2.1 q.2.2.2++ [(0,[.rowD 3 1 (q.2.1.map AL)]),(7,[.rowD 3 1 ((f++ [x]).map AL)])]⟩) (λq=>q.1<=(cx g x).length/\OI g (cz c) q.2.1 q.2.2.1 (f++ [x]) ((cx g x).drop q.1)) (λq=>(cx g x).length - q.1) ((0,w,OQ (cz c) l,[x]++j)) (⟨ϱ _,ho1⟩) (A0 v [1,2,5,6,0,7] Z Z ⟨Z,Z,Z,Z,Z,Z,Z,Z,trivial⟩) ?_))))))));rintro ⟨k,w,l,j⟩ ⟨hk,o⟩;dsimp only at hk o⊢;refine AC (AE (J (BW Z Z Z) (AD (AC (Ah Z (λM=>?_) (λM=>?_))))))
    .refine AZ (AC (A2 (AC ?_)));have s:k<(cx g x).length:=Bi M;have hsl2:=K.len H;have t:cz (cx g x) k<g.length:=K.suc H (DK s);rw [bk s] at o;obtain ⟨hw1,U,T⟩:=nA o t;have Y:=l9 o;have W:=o.len;have hgn:=NE s
     obtain ⟨y,hye⟩:∃y,cz (cx g x) k=y:=⟨_,Z⟩
     rw [hye] at t hw1 U T hgn o;have G:y<w.length:=by rw [W];exact t
     have hwb:cz w y<=100000000000:=by have:=mw K o t (by rw [List.length_drop];have:=K.len H;omega);omega
     refine AE (J (Bq (k) Z Z (Z) (hgn) E0 Z B4 Z) (J (EJ Z Z BE Z) (AB Z Z (AD (AC (AE ?_))))));refine cl Z Z (cl Z Z (J (C7 (y) Z Z (Z) (t) Z E0 B4 Z) (J (DX Z Z (NE G) Z BE Z) (J (Pg Z Z (Ξ _ (by omega)) Z) (OJ 83 (.d (AL (cz w y - 1))) Z (eqv (dc AF (by omega))) (J (C7 (y) Z Z (Z) (t) Z E0 B4 Z) (V (Fq (emb:=AL) w (cz w y - 1) Z Z Z Z Z Z G Z B4) (AD ?_))))))));refine AC (AE (cl Z Z (cl Z Z (J (C7 (y) Z Z (Z) (t) Z E0 B4 Z) (J (DX Z Z (np G) Z BE Z) (J (MB Z Z Z) (AD (Ah Z (λL=>?_) (λL=>?_)))))))))
     .have A:cz w y - 1=0:=Int.ofNat.inj L;refine AE (cl Z Z ?_);refine J (GU Zf Z Z) (cl Z Z (J (Fd py Z Z) (V (Eh (SU c l j y (by rw [Ω,Φ] at Y;omega) (λz hz=>by rw [<-u];exact o.lt z (ν.2 (.inr hz))) (by rw [<-u];exact t)) Z [1,2,5,6] ⟨Z,Z,Z,Z,trivial⟩ Z Z Z Z Z Z Z Z Z) (AD (AE (J (Aw Z Z (Ξ _ (by omega)) Z) (cl Z Z (AD ?_))))))));exact ⟨(k+1,w.set y (cz w y - 1),LL (cz c) l y,[]),⟨s,U A⟩,by show (cx g x).length - (k+1)<(cx g x).length - k;omega,A0 v [1,2,5,6,0,7] Z (Z) ⟨Z,Z,Z,Z,Z,Z,Z,Z,trivial⟩⟩
     .have A:cz w y - 1≠0:=λe=>L (dc Int.ofNat e);refine AZ (AE (J (Aw Z Z (Ξ _ (by omega)) Z) (cl Z Z (AD ?_))));exact ⟨(k+1,w.set y (cz w y - 1),l,j),⟨s,T A⟩,by show (cx g x).length - (k+1)<(cx g x).length - k;omega,A0 v [1,2,5,6,0,7] Z (Z) ⟨Z,Z,Z,Z,Z,Z,Z,Z,trivial⟩⟩
    .refine BL ?_;exact ⟨(w,l,j,f++ [x]),mx o (show k=(cx g x).length by have:=M;omega),by show g.length - (f++ [x]).length<g.length - f.length;rw [Ω,Φ];omega,A0 v [1,2,5,6,0,7] Z (Z) ⟨Z,Z,Z,Z,Z,trivial⟩⟩
   .refine BL (AC ?_);have hl0:l=[]:=List.length_eq_zero_iff.1 (by have:=N;omega);have hE:=mz (hl0▸S);have hoe:=jE hK hE.1 hE.2;refine L6 (emb:=AL) 14 7 f Z Z Z Z Z Z Z (AE (cl Z Z ?_));refine cl Z Z (J (CV Z E0 Z) (cl Z Z (J (CV Z No Z) (J (MB Z Z Z) (AB Z Z (AB Z Z (AD (A6 ?_))))))));exact ⟨_,[5,6],_,A4 Z,Z,Z,by rw [hoe];exact dc (λb=>AV.d (.tup [dI f,Ac b])) (decide_eq_decide.2 Int.ofNat_inj),Z⟩
end Go.Proofs.YtnkkaeblokdifaaGreat
