import Derived.Test.YteifpcnphnhaoaaGreatMg26
open Go.Proofs.Tryz
namespace Go.Proofs.YteifpcnphnhaoaaGreat
open Go.RowKit Go.Shelf
open Go.Sort (putRow Holds PermIn SortedIn SWO mapBlock onCells putCells)
variable {P:Program}
section
variable {ρr:Ren} {τ:Type}
theorem bf (L:SlLaysF.n6 P ρr) {E:TypeId} {g g6:FuncId} {fn:Func} (hfn:P.funcs[g]? =some fn) (hnm:(fn.name== "runtime.NumGoroutine")=false) {c:Code} (hbody:fn.body=some c)
  {t:τ ->D} (hag:∀x,(t x).cells=[t x]) (cf:τ ->τ ->Int) (hO:SWO (ltOf cf)) (l U:List τ) (K:List D) (hsz:l.length<4611686018427387904) (hc:∀x∈l,∀y∈l,AM P g [.d (t x),.d (t y)] (.raw (.int .i64 (cf x y))))
  (hu:∀ys:List τ,ys.Perm l ->ys.Pairwise (λa b=>¬cf b a<0) ->ys=U)
  {F:Fr} {s:AS} {d:Nat} {x y:Operand} {ty:TypeId} {pos:String} {aft:Array Edge} {gd:Option (Nat×Bool)} {at_:Array TypeId} {f n:Nat} {fa:AV} {row:List D} {hp':Hp}
  (hg:ρr.f 6=g6) (hx:s.ev x=some (.own f 0 n)) (hy:s.ev y=some fa) (hfa:∀w O Q v,A9 w O Q fa v ->v= .func (.func g) #[] #[]) (ho:hget s.hp f 0=some (.rowD E 1 row)) (hrow:row=l.map t++K) (hn:n=l.length) (hh:B7 s.hp f 0 (.rowD E 1 (U.map t++K))=some hp') (hd:Nat.blt d s.n=true):
  AG P F ⟨some d,.call {callee:= .value (.func g6),args:= #[x,y],argTypes:=at_},ty,pos,aft,gd⟩ s ⟨s.n,(d,.d (.tup []))::s.env,hp'⟩ (λ_ _=>true):=by
 subst hg hrow hn;intro Q act w hs
 obtain ⟨fn6,hf1,hf2,hf3⟩:∃fn,P.funcs[ρr.f 6]? =some fn/\(fn.name== "runtime.NumGoroutine")=false/\fn.body.isSome=true:=by
  obtain ⟨nm,hn,hf⟩:=L.f6;exact ⟨_,hf,hn,Z⟩
 unfold Oper.wp;rw [show (#[x,y]:Array Operand)=[x,y].toArray from rfl,DJ hf1 hf2 hf3,Oper.upon_enter]
 suffices key:Calls P (ρr.f 6) ([x,y].map act.eval).toArray w λe w'=>e= .returned (.tuple #[])/\SR F ⟨s.n,s.env,hp'⟩ Q act w' by
  refine key.mono λe w' ⟨S,hsr⟩=>?_;subst S;exact ⟨Q,hsr.put (IS hd) (.d (.tup Z λi c v hc=>nomatch hc)),λ_ _ _=>rfl⟩
 have r0:=hs.ev hx;have r1:=hfa _ _ _ _ (hs.ev hy);have hg0:=ho;have h3:=hs.heap;have R:=BB hh;obtain ⟨Y,q1,q2,q3⟩:=h3.sim f 0 _ hg0;show Calls P (ρr.f 6) #[act.eval x,act.eval y] w _;rw [r1]
 generalize act.eval x=V0 at r0
 cases r0 with
 | own hρ hle=>
  rename_i N J a
  by_cases hx:l=[]
  .subst hx;refine (AnyF.slices_SortFunc_none {L with} a J _ w).mono λe w' ⟨S,e2⟩=>?_;subst S e2;refine ⟨Z,hs.writeG f 0 _ _ ho R Z Z Z (Γ _) (Γ _) (λ_ _ _=>rfl) (λ_ _ e=>nomatch e) λhrep=>?_⟩;rw [<-hu [] (List.Perm.refl _) List.Pairwise.nil]
   have hO2:∀r,F.O Q hp' r ->F.O Q s.hp r:=λr h=>h.imp id λ⟨g,i,o,I,X⟩=>by
    rw [R] at I
    split at I
    .rename_i e;obtain ⟨rfl,rfl⟩:=e;exact ⟨g,0,_,hg0,X⟩
    .exact ⟨g,i,o,I,X⟩
   exact ⟨Y,q1,⟨q2.1,q2.2.1,λi x hx j c hc=>by
    obtain ⟨u,I,X,h4⟩:=q2.2.2 i x hx j c hc
    exact ⟨u,I,X,h4.mono (Γ _) (λ_ _ _=>rfl) λr _=>hO2 r⟩⟩,q3⟩
  .have hn:0<l.length:=χa.2 hx;have hul:Y.length=l.length+K.length:=by have:=q2.1;rwa [Δ,χ,χs] at this
   have hblkeq:∃b A,a=some ⟨b,0,none⟩/\w.heap[b]? =some (.cells A E (0,0))/\A.size=J/\l.length+K.length<=J/\J<=maxLen/\A.toList.take (l.length+K.length)=Y/\N=l.length+K.length:=by
    rcases q1.2 with ⟨_,h⟩ | ⟨b,cap',A,S,_,e2,e3,e4,e5,e6⟩
    .rw [Δ,χ] at h;omega
    .rw [hρ] at S;injection S with S e7 e8
     subst S e8;rw [Δ,χ] at e3 e6 e7;exact ⟨b,A,Z,e2,by omega,e3,e4,by rwa [χs] at e6,e7⟩
   obtain ⟨b,A,rfl,p1,p2,p3,p3',p4,rfl⟩:=hblkeq;have hb:Bu (Q f 0)=some b:=by rw [hρ];rfl
   have hOb:F.O Q s.hp b:= .inr ⟨f,0,_,hg0,hb⟩;have hlt:b<w.heap.size:=(ωn.1 p1).1;have hOl:∀r,F.O Q s.hp r ->r<w.heap.size:=λr h=>h3.ltO h
   have hus:∀i,i<l.length+K.length ->Y[i]? =A[i]?:=λi H=>by
    have h:=ωm (·[i]?) p4
    change (A.toList.take (l.length+K.length))[i]? =Y[i]? at h
    rw [ψn H,ψd] at h;exact h.symm
   let x0:τ:=l[0]
   let V:Nat ->Nat:=λi=>if i<l.length then i else 0
   have W:∀i,V i<l.length:=λi=>by show (if _ then _ else _)<_;split<;>omega
   let el:Nat ->τ:=λi=>(l[V i]?).getD x0
   have hel:∀i,el i∈l:=λi=>by
    show (l[V i]?).getD x0∈l;rw [ω (W i)];exact ϑ (W i)
   have heli:∀i (H:i<l.length),el i=l[i]:=λi H=>by
    show (l[V i]?).getD x0=_;rw [show V i=i from ς H,ω H];rfl
   let p:Nat ->Value:=λi=>(Y[V i]?).getD undef
   have henc:∀i,Y[V i]? =some (p i):=λi=>by
    have h:V i<Y.length:=by have:=W i;omega
    show Y[V i]? =some ((Y[V i]?).getD undef);rw [ω h];rfl
   let cf':Nat ->Nat ->Int:=λi j=>cf (el i) (el j)
   have hO':SWO (ltOf cf'):=⟨λx=>hO.irrefl (el x),λx y z=>hO.trans (el x) (el y) (el z),λx y z=>hO.ntrans (el x) (el y) (el z)⟩
   have hrow:∀i,((l.map t++K)[V i]?)=some (t (el i)):=λi=>by
    rw [φb (by rw [χ];exact W i),ν,ω (W i)];show some (t _)=some (t ((l[V i]?).getD x0));rw [ω (W i)];rfl
   have G:∀i,(p i).oneCell'=true/\A1 w (F.O Q s.hp) (t (el i)) (p i):=λi=>by
    obtain ⟨u,I,X,h4⟩:=q2.2.2 _ _ (hrow i) 0 (t (el i)) (by rw [hag];rfl);rw [χs,ψx,henc] at I;injection I with I;subst I
    exact ⟨X,h4⟩
   have henc1:OneCell p:=λi=>(G i).1;have hd0:∀i,i<l.length ->(Array.range l.length)[i]! =i:=λi H=>by rw [getElem!_pos _ i (by simpa using H)];simp
   have hcu:∀i,i<l.length ->A[i]? =some (p i):=λi H=>by
    rw [<-hus i (by omega)];have:=henc i
    rwa [show V i=i from ς H] at this
   have hH:Holds p w b 0 (Array.range l.length):=by
    intro j hj;simp only [χu] at hj;rw [hd0 _ hj];refine ⟨?_,?_⟩
    .simp only [World.cell?,p1,ψu];rw [hcu j hj];rfl
    .simp only [World.frozen?,p1]
     simp
   have hcmp:CmpLays1 P g #[] p cf' b 0 (Array.range l.length).size w:=by
    intro m os dk _ x y;have M:w.heap.size<=(sortWorld p w b 0 m dk os).heap.size:=H5;have hW:∀r,r<w.heap.size ->¬F.O Q s.hp r ->(sortWorld p w b 0 m dk os).heap[r]? =w.heap[r]?:=λr hl hno=>Zcn (λe=>hno (e▸hOb)) hl;have ra:=(G x).2.mono M hW (λ_ _ h=>h);have rb:=(G y).2.mono M hW (λ_ _ h=>h)
    refine (Rn (hc (el x) (hel x) (el y) (hel y)) (w:=sortWorld p w b 0 m dk os) (λr h=>ψf (hOl r h) M) (vs:=[p x,p y]) Z (λi a v ha hv=>?_)).mono λe w' ⟨v,S,e2,e3,e4,e5⟩=>⟨?_,PO e3 e4 e5⟩
    .match i,ha,hv with
     | 0,ha,hv=>injection ha with ha;injection hv with hv;subst ha hv;exact .d ra
     | 1,ha,hv=>injection ha with ha;injection hv with hv;subst ha hv;exact .d rb
    .cases e2 with
     | raw _=>exact S
   have eg:∀args w,(callFunc g args).run P w= .ok (.enter g args) w:=enters_of hfn hnm hbody;have key:=Any.slices_SortFunc L p henc1 cf' hO' g #[] b 0 J (Array.range l.length) w eg hcmp hH hlt (by simpa using hsz);rw [χu] at key;refine key.mono λe w' ⟨S,T,n,os,hp,hsort,hw⟩=>?_;subst S hw;obtain ⟨s1,_,s3⟩:=hp;rw [χu] at s1
   have hperm:T.toList.Perm (List.range l.length):=by
    have S:T.extract 0 l.length=T:=by rw [<-s1];exact Array.extract_size
    have e2:(Array.range l.length).extract 0 l.length=Array.range l.length:=by
     conv=>lhs;arg 3;rw [<-χu (n:=l.length)]
     exact Array.extract_size
    rw [S,e2] at s3
    simpa using s3
   refine ⟨Z,?_⟩
   have hys:T.toList.map el=U:=by
    apply hu
    .refine (hperm.map el).trans (List.Perm.of_eq ?_)
     apply ψk (by simp)
     intro i h5 h6;simp only [ωp,φc];exact heli i h6
    .rw [ωk];intro i j H hj hij;simp only [χ,χb] at H hj;have:=hsort i j (ζ _) hij (by omega);rw [getElem!_pos _ j hj,getElem!_pos _ i H] at this;simp only [ltOf,decide_eq_false_iff_not] at this
     simpa using this
   have hlen':U.length=l.length:=by rw [<-hys];simp [s1]
   have M:w.heap.size<=(sortWorld p w b 0 n T os).heap.size:=H5;have hW:∀r,r<w.heap.size ->¬F.O Q s.hp r ->(sortWorld p w b 0 n T os).heap[r]? =w.heap[r]?:=λr hl hno=>Zcn (λe=>hno (e▸hOb)) hl
   have hheap:(sortWorld p w b 0 n T os).heap[b]? =some (.cells (putCells p 0 T A) E (0,0)):=by
    unfold sortWorld;rw [Go.Sort.heap_grow_old _ _ (by rw [Go.Sort.size_putRow];exact hlt)];show (w.heap.modify b _)[b]? =_;rw [ψy,ς Z,p1];rfl
   have hcs:(putCells p 0 T A).size=J:=by simp only [putCells,Array.size_mapIdx];omega
   have hO2:∀r,F.O Q hp' r ->F.O Q s.hp r:=λr h=>h.imp id λ⟨g,i,o,I,X⟩=>by
    rw [R] at I
    split at I
    .rename_i e;obtain ⟨rfl,rfl⟩:=e;exact ⟨g,0,_,hg0,X⟩
    .exact ⟨g,i,o,I,X⟩
   have hget:∀i,i<l.length+K.length ->(putCells p 0 T A).toList[i]? =if h:i<l.length then some (p (T[i]'(by omega))) else Y[i]?:=λi H=>by
    rw [ψd,ωg (by omega)];simp only [putCells,Array.getElem_mapIdx]
    by_cases h:i<l.length
    .rw [ς ⟨ζ _,by omega⟩,dif_pos h];simp only [Nat.sub_zero];rw [getElem!_pos _ i (by omega)]
    .rw [η (λX=>h (by omega)),dif_neg h,hus i H,ωg (by omega)]
   refine hs.writeG f 0 _ _ ho R Z Z Z M (Nat.le_add_right _ _) (λr hl hno=>Zcn (λe=>hno (by rw [e];exact hb)) hl) (λ_ _ e=>nomatch e) λhrep=>?_;have hlr:(U.map t++K).length=l.length+K.length:=by rw [Δ,χ,hlen']
   have hlu:((putCells p 0 T A).toList.take (l.length+K.length)).length=(U.map t++K).length*1:=by
    have e2:(putCells p 0 T A).toList.length=J:=hcs;rw [hlr,χs,ϱ,e2];exact Nat.min_eq_left p3
   refine ⟨(putCells p 0 T A).toList.take (l.length+K.length),⟨hlu,.inr ⟨b,J,_,by rw [hρ,hlr],ζ _,hheap,by rw [hlr];exact p3,p3',by omega,by rw [hlr,χs]⟩⟩,⟨hlu,λx B=>?_,λi x B j c C=>?_⟩,λx B c C=>?_⟩
   .rcases ϖ.1 B with h | h
    .obtain ⟨y,_,rfl⟩:=Ξ.1 h;rw [hag];rfl
    .exact q2.2.1 _ (ϖ.2 (.inr h))
   .have H:i<l.length+K.length:=by rw [<-hlr];exact (φ.1 B).1
    by_cases h:i<l.length
    .rw [φb (by rw [χ];omega),ν,<-hys,ν,ψd,ωg (by omega)] at B;injection B with B;subst B
     rw [hag] at C
     match j,C with
     | 0,C=>
      injection C with C;subst C
      exact ⟨_,by rw [χs,ψx,ψn H,hget i H,dif_pos h],(G _).1,(G _).2.mono M hW λr _=>hO2 r⟩
    .rw [List.getElem?_append_right (by rw [χ];omega),χ,hlen'] at B;obtain ⟨u,I,X,h4⟩:=q2.2.2 i x (by rw [List.getElem?_append_right (by rw [χ];omega),χ];exact B) j c C
     have hj:j=0:=by
      have I:x.cells.length=1:=q2.2.1 x (ϖ.2 (.inr (ξ B)));have:=(φ.1 C).1;omega
     subst hj;rw [χs,ψx] at I;exact ⟨u,by rw [χs,ψx,ψn H,hget i H,dif_neg h];exact I,X,h4.mono M hW λr _=>hO2 r⟩
   .rcases ϖ.1 B with h | h
    .obtain ⟨y,_,rfl⟩:=Ξ.1 h;rw [hag] at C
     obtain ⟨k,hk⟩:∃k,el k=y\/y∉l:=by
      by_cases hy:y∈l
      .obtain ⟨k,hk,e⟩:=ψb.1 hy;exact ⟨k,.inl ((heli k hk).trans e)⟩
      .exact ⟨0,.inr hy⟩
     have hyx:y∈l:=by
      rename_i hy
      rw [<-hys] at hy;obtain ⟨q,_,rfl⟩:=Ξ.1 hy;exact hel q
     exact q3 (t y) (ϖ.2 (.inl (Ξ.2 ⟨y,hyx,Z⟩))) c (by rw [hag];exact C)
    .exact q3 x (ϖ.2 (.inr h)) c C
end
end Go.Proofs.YteifpcnphnhaoaaGreat
namespace Go.Proofs.YteifpcnphnhaoaaGreat
open Go.RowKit
variable {a:List (List Nat)} {k:Nat}
set_option maxRecDepth 100000
def Hv (l:List Nat):Bool:=decide (l.length<2)
theorem Y4 (l:List Nat) (a:l.length<=100000):AM prog 82 [.d (natsD l)] (Am (Hv l)):=by
 refine Ax func82 Z Z ntmps82 Z Z Z λF b=>(AD (AE (AB Z Z ?_)));refine AC (AD (AE (goMv Z Z (J (BU Z underlying28 Z) (J (Az Z Z Z) (AB Z Z (AC (AZ ?_))))))));exact ⟨_,[],_,AY Z,Z,Z,O6 (by omega),Z⟩
def hdi (l:List Nat):Int:=((l.getD 0 0:Nat):Int)
theorem circ3_p (a b:List Nat) (g:0<a.length) (f:0<b.length) (e:a.getD 0 0<=100000) (c:b.getD 0 0<=100000):AM prog 84 [.d (natsD a),.d (natsD b)] (AF (hdi a - hdi b)):=by
 have i:a.getD 0 0=a[0]:=by rw [Φ,ω g];rfl
 have h:b.getD 0 0=b[0]:=by rw [Φ,ω f];rfl
 unfold hdi;rw [i] at e⊢;rw [h] at c⊢;refine Ax func84 Z Z ntmps84 Z Z Z λF j=>(AD (AE (AB Z Z (AC (AD (CD [[],[0],[0,1],[],[3],[3,4],rg 6,rg 7] mixed Z (Bt (Ak 0 Z Z ?_))))))));refine AP [5] Z (BC (0) Z Z (Z) (A3 g) underlying28 Z BD Z) (AP [6] Z (CF Z Z Ai Z) (Ak 1 Z Z (AP [8] Z (BC (0) Z Z (Z) (A3 f) underlying28 Z BD Z) (AP [9] Z (CF Z Z Ai Z) (Bk 6 Z Z Z (Ab 7 Z Z (J (KL Z Z (Θ _ (by omega)) Z) (AC ⟨Z,?_⟩))))))));refine Ab 8 Z Z (AB Z Z (AC ⟨Z,?_⟩));refine Bx (AZ ?_);exact ⟨_,[],[],AY Z,Z,Z,Z,Z⟩
theorem idxC_p (l:List (List Nat)) (m:l.length<=100000) (f:∀c∈l,c.length<=100000):AM prog 135 [.d (.sl none (l.map natsD)),.d (.fn 82 [] [])] (AF (LE Hv l)):=by
 refine Ax func135 Z Z ntmps135 Z Z Z λF n=>(AD (AE (AB Z Z (AC ?_))));refine AD (AD (AE (goMv Z Z (J (BU Z underlying29 Z) (goMv Z Z (AC (A2 (Gh (α:=Nat) (λk=>⟨19,[(0,.d (.sl none (l.map natsD))),(1,.d (.fn 82 [] [])),(7,(.d (AF (l.length:Int)))),(8,(.d (AF (k:Int))))],[]⟩) (λk=>k<=l.length/\∀x∈l.take k,Hv x=false) (λk=>l.length - k) (0) (⟨ζ _,by simp⟩) (al ⟨Z,Z,Z,Z,trivial⟩) ?_))))))));rintro k ⟨j,g⟩;refine AD (AE (J (Az Z Z Z) (AC (AD (A7 Z (λi=>?_) (λi=>?_))))))
 .have a:k<l.length:=BR i;refine AX (AD (A2 (AD (AE (goMv Z Z (AB Z Z (AC (AD ?_))))))));refine AE (goMv Z Z (goMv Z Z (goMv Z Z (J (BC (k) Z Z (Z) (A3 a) underlying29 Z Cv Z) (J (CF Z Z BF Z) (J (Lr (Y4 l[k] (f _ (ϑ a))) Z Z) (AC (A7 Z (λe=>?_) (λe=>?_)))))))))
  .refine AD (AE (goMv Z Z (AB Z Z (AC (AZ ?_)))));exact ⟨_,[],[],AY Z,Z,Z,A0 (by unfold LE;rw [G0 a g (by unfold Hv;simpa using e)]),Z⟩
  .refine AX (AE (J (Ah Z Z (AK (k+1) (by omega)) Z) (goMv Z Z (AC ?_))));exact ⟨k+1,⟨by show k+1<=_;omega,by rw [ψ a];intro x b;rcases ϖ.1 b with b | b;exact g x b;rw [κ.1 b];unfold Hv;simpa using e⟩,by show l.length - (k+1)<l.length - k;omega,⟨Z,Z,λ_ _=>Sr.get (l:=[(0,_),(1,_),(7,_),(8,_)]) ⟨Z,Z,Z,Z,trivial⟩⟩⟩
 .refine Ar (AD (AE (AB Z Z (AC (AZ ?_)))));exact ⟨_,[],[],AY Z,Z,Z,A0 (by unfold LE;rw [Hr (λx b=>g x (by rw [θ (by have h:=i;omega)];exact b))]),Z⟩
def lgs (l:List (List Nat)):List (List Nat):=l.filter λx=>!Hv x
theorem YD (h:∀x∈a,Hv x=false):lgs a=a:=List.filter_eq_self.2 λx b=>by rw [h x b];rfl
theorem lgs_in (b:k<a.length) (h:Hv a[k]=false):lgs (a.take (k+1))=lgs (a.take k)++ [a[k]]:=by
 unfold lgs;rw [Er b,ς (by rw [h];rfl)]
theorem YC (b:k<a.length) (h:Hv a[k]=true):lgs (a.take (k+1))=lgs (a.take k):=by grind [lgs,Er]
theorem dc (l:List (List Nat)):(lgs l).length<=l.length:=ωj _ _
def eO:Option (List Nat) ->D
 | some l=>natsD l
 | none=> .raw (.slice none 0 0)
theorem fA (l:List (List Nat)):l.map natsD=(l.map some).map eO:=by rw [ωt];rfl
theorem delC_c (l:List (List Nat)) (N:l.length<=100000) (u:∀c∈l,c.length<=100000):AT prog 81 [.own 10 0 l.length,.d (.fn 82 [] [])] [(10,[.rowD 28 1 (l.map natsD)])] λr O=>r= .own 10 0 (lgs l).length/\O=[(10,[.rowD 28 1 ((lgs l).map natsD++(List.replicate (l.length - (lgs l).length) none).map eO)])]:=by
 have e:=idxC_p l N u
 cases hfi:l.findIdx? Hv with
 | none=>
  have B:∀x∈l,Hv x=false:=λx D=>by have:=List.findIdx?_eq_none_iff.1 hfi x D;simpa using this
  have b:LE Hv l= -1:=by unfold LE;rw [hfi]
  rw [b] at e;have v:=YD B;refine Ax func81 Z Z ntmps81 Z Z Z λF C=>(AD (AE (AB Z Z (AC (AD (AE ?_))))));refine goMv Z Z (goMv Z Z (J (EN [10] e (by exact ⟨.inr ⟨_,_,Z,.own Z Z (by simp) (θ (by simp)),Z⟩,.inl Z,trivial⟩) Z Z) (AB Z Z (AC (AD (AD (AE (goMv Z Z ?_))))))));refine J (FC Z Z Z) (AC (Bz Z (Z) (AD (AE (goMv Z Z (AB Z Z (AC (AZ ?_))))))));exact ⟨_,[10],_,AY Z,Z,Z,by rw [v],by rw [v];simp⟩
 | some g=>
  obtain ⟨G,w,y⟩:=List.findIdx?_eq_some_iff_getElem.1 hfi;have b:LE Hv l=(g:Int):=by unfold LE;rw [hfi]
  rw [b] at e
  have t:∀x∈l.take g,Hv x=false:=λx D=>by
   obtain ⟨j,Q,rfl⟩:=ψg.1 D;have:=y j (by omega)
   simpa using this
  rw [fA l] at e⊢;have E:lgs (l.take (g+1))=l.take g:=by rw [YC G w,YD t]
  refine Ax func81 Z Z ntmps81 Z Z Z λF C=>(AD ?_);refine AE (AB Z Z (AC (AD (AE (goMv Z Z (goMv Z Z (J (EN [10] e (by exact ⟨.inr ⟨_,_,Z,.own Z Z (by simp) (θ (by simp)),Z⟩,.inl Z,trivial⟩) Z Z) (AB Z Z ?_))))))));refine AC (AD (AD (AE (goMv Z Z (J (FC Z Z Z) (AC (Cu Z ((ωh (by omega))) (AX ?_))))))));refine AD (AD (AE (goMv Z Z (J (Ah Z Z (AK (g+1) (by omega)) Z) (AB Z Z (AC (A2 (BO (α:=Nat×Nat×List (Option (List Nat))) (λq=>⟨42,[(0,(.own 10 0 l.length)),(1,(.d (.fn 82 [] []))),(5,(.d (AF (q.1:Int)))),(6,(.d (AF (q.2.1:Int))))],[(10,[.rowD 28 1 (q.2.2.map eO)])]⟩) (λq=>q.2.1<=l.length/\q.1<q.2.1/\q.2.2.length=l.length/\q.2.2.take q.1=(lgs (l.take q.2.1)).map some/\q.2.2.drop q.2.1=(l.drop q.2.1).map some) (λq=>l.length - q.2.1) ((g,g+1,l.map some)) (⟨by show g+1<=_;omega,ψp _,by show (l.map some).length=_;simp,by show (l.map some).take g=_;rw [E,List.map_take],by show (l.map some).drop (g+1)=_;rw [List.map_drop]⟩) (AU C [10] Z Z ⟨Z,Z,Z,Z,trivial⟩) ?_))))))));rintro ⟨i,j,c⟩ ⟨I,K,f,k,m⟩;dsimp only at I K f k m⊢;refine AD (AD (AE (goMv Z Z (goMv Z Z (J (Lc Z underlying29 Z) (J (Az Z Z Z) (AC (A7 Z (λs=>?_) (λs=>?_)))))))))
  .have a:j<l.length:=BR s;refine AX (AD (A2 (AD (AE ?_))));have z:j<c.length:=by omega
   have L:c[j]=some l[j]:=by have M:(c.drop j)[0]? =((l.drop j).map some)[0]?:=by {rw [m]};rw [χh,ν,χh,ψx,ω z,ω a] at M;injection M
   refine goMv Z Z (goMv Z Z (J (CM (j) Z Z (Z) (a) Z underlying29 Cv Z) (J (CY Z Z ((show (c.map eO)[j]? =some (natsD l[j]) from by rw [ν,ω z,L];rfl)) Z BF Z) ?_)));refine AB Z Z ?_;refine AC (AD (AE (goMv Z Z (goMv Z Z (J (Lr (Y4 l[j] (u _ (ϑ a))) Z Z) (J (Je Z Z) (AC (A7 Z (λp=>?_) (λp=>?_)))))))))
   .have o:Hv l[j]=false:=by unfold Hv;simpa using p
    refine AD (AE (goMv Z Z (goMv Z Z (goMv Z Z (J (CM (i) Z Z (Z) ((by omega)) Z underlying29 Cv Z) (V (FW (c) (some l[j]) Z Z Z Z Z Z (by omega) Z Cv) (AC (AE ?_))))))));refine goMv Z Z (J (Ah Z Z (AK (i+1) (by omega)) Z) (AB Z Z (AC (AE (goMv Z Z (J (Ah Z Z (AK (j+1) (by omega)) Z) (AB Z Z (AC ?_))))))));exact ⟨(i+1,j+1,_),⟨by show j+1<=_;omega,by show i+1<j+1;omega,by show (c.set i (some l[j])).length=_;rw [ωr];exact f,by show (c.set i (some l[j])).take (i+1)=(lgs (l.take (j+1))).map some;rw [lgs_in a o,Ω,<-k,ψ (by rw [ωr];omega),List.getElem_set_self,List.take_set_of_le (Γ i)];rfl,by show (c.set i (some l[j])).drop (j+1)=(l.drop (j+1)).map some;rw [List.drop_set_of_lt (by omega),<-List.tail_drop,<-List.tail_drop,m,List.map_tail]⟩,by show l.length - (j+1)<l.length - j;omega,AU C [10] Z (Z) ⟨Z,Z,Z,Z,trivial⟩⟩
   .have o:Hv l[j]=true:=by unfold Hv;simpa using p
    refine AX (AE (goMv Z Z (J (Ah Z Z (AK (j+1) (by omega)) Z) (AB Z Z (AC ?_)))));exact ⟨(i,j+1,c),⟨by show j+1<=_;omega,by show i<j+1;omega,f,by show c.take i=(lgs (l.take (j+1))).map some;rw [YC a o,k],by show c.drop (j+1)=(l.drop (j+1)).map some;rw [<-List.tail_drop,<-List.tail_drop,m,List.map_tail]⟩,by show l.length - (j+1)<l.length - j;omega,AU C [10] Z (Z) ⟨Z,Z,Z,Z,trivial⟩⟩
  .refine Ar (AD ?_);have H:j=l.length:=by have h:=s;omega
   have n:c.take i=(lgs l).map some:=by rw [k,H,ωl]
   have A:i=(lgs l).length:=by have h:=ωm List.length n;rw [ϱ,χ] at h;omega
   refine AE (goMv Z Z (goMv Z Z (NC (emb:=eO) (zd:=none) c i Z Z Z Z f.symm Z (by omega) underlying29 Cv zeroValue28 Z Z Z Z Z Z ?_)));refine AC (AD (AE (goMv Z Z (goMv Z Z (J (ZcK (i) Z Z Z (by simp only [χ,Δ,ϱ,List.length_replicate];omega) Z underlying29 Cv Z) (AB Z Z (AC (AZ ?_))))))));exact ⟨_,[10],_,AY Z,Z,Z,by rw [<-A],by rw [n,f,A,Ω,<-fA]⟩
end Go.Proofs.YteifpcnphnhaoaaGreat
namespace Go.Proofs.YteifpcnphnhaoaaGreat
end Go.Proofs.YteifpcnphnhaoaaGreat
namespace Go.Proofs.YteifpcnphnhaoaaGreat
open Go.RowKit
variable {a:Nat ->Nat ->Value} {c:Act} {w:World} {s:AS} {M:MF} {d:Hp} {F:Fr}
def Melt (M:MF) (x y:D):Prop:=x=y\/∃h T zs,x=hdr h zs.length/\B2 M h T 1 zs/\(∀z∈zs,z.one=true)/\y= .sl none zs
theorem A1.melt (W:SR F s a c w) {f:Nat} (N:hfam s.hp f=some [.multi M]) (J:∀b,F.O a d b ->F.O a s.hp b)
  (I:∀i o b,hget s.hp f i=some o ->Bu (a f i)=some b ->¬F.O a d b) {x y:D} {v:Value} (X:Melt M x y) (B:A1 w (F.O a d) x v):A1 w (F.O a d) y v:=by
 rcases X with rfl | ⟨h,T,r,rfl,k,A,rfl⟩
 .exact B
 .match h,k with
  | none,k=>
   have k:r=[]:=k;subst k
   cases B with
   | raw _=>exact .sl 0 (λb l=>nomatch l) (λ_=>rfl) Z (Γ _) (ζ _) (λx V=>nomatch V) (λh=>absurd Z h) (λb o l=>nomatch l)
  | some (b,g),k=>
   obtain ⟨Y,l⟩:=k
   cases B with
   | raw _=>
    obtain ⟨t,us,g1,O,g3⟩:=W.rowN N l;obtain ⟨j,cap,e,U,S,q3,R⟩:=Hb g1;injection e with e1 e2 e3
    subst e1 e3
    have G:∀z∈r,z.cells=[z]:=λz p=>by
     have h1:=A z p;have h2:=O.2.1 z p
     cases z with
     | agg cs=>simp [D.one] at h1
     | _=>rfl
    refine .sl 1 (λb l=>nomatch l) (λh=>nomatch h) Z U S (λz p=>by rw [G z p];rfl) (λ_=>⟨b,0,Z⟩) (λb' o m i z E=>?_);injection m with m
    injection m with hb1 hb2
    subst hb1 hb2;have hil:i<r.length:=(φ.1 E).1;obtain ⟨b2,cur,n,L,r3,Q⟩:=R (by omega);injection n with n
    injection n with n
    subst n;have C:b<w.heap.size:=(ωn.1 L).1
    have hex:∀(q:Nat) g,z.cells[q]? =some g ->∃u,w.cell? ⟨b,0+i*1+q,none⟩=some u/\A1 w (F.O a d) g u:=λq K H=>by
     obtain ⟨u,d1,d2,d3⟩:=O.2.2 i z E q K H;exact ⟨u,by rw [ψu];exact Do L Q d1,d3.mono (Γ _) (λ_ _ _=>rfl) λb _=>J b⟩
    refine .ptr (λq=>(w.cell? ⟨b,0+i*1+q,none⟩).getD undef) C (I b _ b (by rw [Gj N,l];rfl) (by rw [t];rfl)) (g3 z (ξ E)) (λq K H=>?_) (λq K H=>?_)
    .grind
    grind
theorem SR.melt {F:Fr} {s:AS} {N:Nat ->Nat ->Value} {E:Act} {w:World} (R:SR F s N E w) (g i f:Nat) {M:MF} {T:TypeId} {h o:List D} {l:List (Nat×AV)} {v n A:Hp} (U:hfam s.hp f=some [.multi M])
  (hE:Ac f s.env=some l) (hH:Aa f s.hp=some v) (hh:C6 f v=some n) (S:hget n g i=some (.rowD T 1 h)) (b:o.length=h.length)
  (H:∀(j:Nat) x y,h[j]? =some x ->o[j]? =some y ->Melt M x y) (C:(∀x∈h,x.one=true)/\∀y∈o,y.one=true) (p:B7 n g i (.rowD T 1 o)=some A):SR F ⟨s.n,l,A⟩ N E w:=by
 obtain ⟨V,K,J⟩:=R.forget f hE hH hh (λj t cs e=>by
  rw [Gj U] at e
  cases hm:M j with
  | none=>rw [hm] at e;cases e
  | some m=>rw [hm] at e;injection e with e;exact Ap.notBlk e)
 have a:∀z:D,z.one=true ->z.cells=[z]:=λz Y=>by
  cases z with
  | agg cs=>simp [D.one] at Y
  | _=>rfl
 refine V.write g i (.rowD T 1 h) (.rowD T 1 o) S (BB p) Z Z Z Z (λ_ _=>rfl) (λ_ _ e=>nomatch e) λr=>?_;obtain ⟨W,X,O,k3⟩:=V.heap.sim g i _ S;refine ⟨W,by rw [b];exact X,⟨by rw [b];exact O.1,λy G=>by rw [a y (C.2 y G)];rfl,λj y I q c k=>?_⟩,λy G c k=>by rw [a y (C.2 y G),κ] at k;rw [k];exact C.2 y G⟩;have B:j<h.length:=by rw [<-b];exact (φ.1 I).1
 have Q:h[j]? =some h[j]:=ω B;rw [a y (C.2 y (ξ I))] at k
 cases q with
 | succ q=>cases k
 | zero=>
  injection k with k
  subst k;obtain ⟨u,d1,d2,d3⟩:=O.2.2 j _ Q 0 _ (by rw [a _ (C.1 _ (ϑ B))];rfl);refine ⟨u,d1,d2,?_⟩;have h3:=A1.melt R U K J (H j _ _ Q I) d3;have L:=r (.d y) u (.d h3)
  cases L with | d L=>exact L
section
variable {P:Program} {F:Fr} {Q:Exit ->AS ->Prop} {c:Code} {n:Nat} {env env':List (Nat×AV)} {hp hp1 hp2 hp':Hp}
theorem fw (g i f:Nat) {M:MF} {T:TypeId} {e:List D} (d:List D) (r:hfam hp f=some [.multi M])
  (t:Ac f env=some env') (s:Aa f hp=some hp1) (q:C6 f hp1=some hp2) (p:hget hp2 g i=some (.rowD T 1 e)) (b:d.length=e.length)
  (k:∀(j:Nat) x y,e[j]? =some x ->d[j]? =some y ->Melt M x y) (u:(∀x∈e,x.one=true)/\∀y∈d,y.one=true) (a:B7 hp2 g i (.rowD T 1 d)=some hp') (h:CG P F c Q ⟨n,env',hp'⟩):CG P F c Q ⟨n,env,hp⟩:=
 λm l w o=>h m l w (o.melt g i f r t s q p b k u a)
end
theorem SR.weakRow {F:Fr} {s:AS} {E:Nat ->Nat ->Value} {r:Act} {w:World} (I:SR F s E r w) (g i:Nat) {T:TypeId} {f k:List D} {n:Hp} (J:hget s.hp g i=some (.rowD T 1 f)) (b:k.length=f.length)
  (A:∀(j:Nat) x y,f[j]? =some x ->k[j]? =some y ->∀w O v,A1 w O x v ->A1 w O y v) (p:(∀x∈f,x.one=true)/\∀y∈k,y.one=true) (l:B7 s.hp g i (.rowD T 1 k)=some n):SR F ⟨s.n,s.env,n⟩ E r w:=by
 have a:∀z:D,z.one=true ->z.cells=[z]:=λz M=>by
  cases z with
  | agg Q=>simp [D.one] at M
  | _=>rfl
 refine I.write g i (.rowD T 1 f) (.rowD T 1 k) J (BB l) Z Z Z Z (λ_ _=>rfl) (λ_ _ e=>nomatch e) λm=>?_;obtain ⟨K,L,G,N⟩:=I.heap.sim g i _ J;refine ⟨K,by rw [b];exact L,⟨by rw [b];exact G.1,λy t=>by rw [a y (p.2 y t)];rfl,λj y B q c h=>?_⟩,λy t c h=>by rw [a y (p.2 y t),κ] at h;rw [h];exact p.2 y t⟩;have o:j<f.length:=by rw [<-b];exact (φ.1 B).1
 have H:f[j]? =some f[j]:=ω o;rw [a y (p.2 y (ξ B))] at h
 cases q with
 | succ q=>cases h
 | zero=>
  injection h with h
  subst h;obtain ⟨u,d1,d2,d3⟩:=G.2.2 j _ H 0 _ (by rw [a _ (p.1 _ (ϑ o))];rfl);refine ⟨u,d1,d2,?_⟩;have C:=m (.d y) u (.d (A j _ _ H B _ _ _ d3))
  cases C with | d C=>exact C
section
variable {P:Program} {F:Fr} {Q:Exit ->AS ->Prop} {c:Code} {n:Nat} {env:List (Nat×AV)} {hp hp':Hp}
theorem RY (g i:Nat) {T:TypeId} {e:List D} (d:List D) (o:hget hp g i=some (.rowD T 1 e)) (b:d.length=e.length)
  (f:∀(j:Nat) x y,e[j]? =some x ->d[j]? =some y ->∀w O v,A1 w O x v ->A1 w O y v) (p:(∀x∈e,x.one=true)/\∀y∈d,y.one=true) (a:B7 hp g i (.rowD T 1 d)=some hp') (h:CG P F c Q ⟨n,env,hp'⟩):CG P F c Q ⟨n,env,hp⟩:=
 λl k w m=>h l k w (m.weakRow g i o b f p a)
end
variable {a:Nat ->List Nat} {g:List (List Nat)} {c:Nat ->Nat} {n:Nat} {d:Nat ->List Nat} {e:List (List Int)} {k:Nat} {f:Nat ->Hd} {h:List (Nat×Nat)} {i:List Nat} {j:Nat ->Nat} {m o:Nat} {S:TS} {p:Nat} {q:List Nat} {s w t:Nat} {M:MF}
structure Nb (M:MF) (n:Nat) (hs:Nat ->Hd) (ls:Nat ->List Nat):Prop where
 at_:∀j,j<n ->B2 M (hs j) 3 1 ((ls j).map AO)
 inj:∀j k b c c',j<n ->k<n ->hs j=some (b,c) ->hs k=some (b,c') ->j=k
abbrev rowH (n:Nat) (hs:Nat ->Hd) (ls:Nat ->List Nat):List D:=(List.range n).map λj=>hdr (hs j) (ls j).length
theorem Kb (h:t<n):(rowH n f d)[t]? =some (hdr (f t) (d t).length):=by simp [h]
theorem Fi (n:Nat) (b:Nat ->Hd) (a:Nat ->List Nat):(rowH n b a).length=n:=by simp
theorem T3 {h:Hd}:(rowH n f d).set t (hdr h i.length)=rowH n (BL f t h) (BL d t i):=by grind [Nh,HU,Lh]
theorem Nb.zero (n:Nat):Nb (λ_=>none) n (λ_=>none) (λ_=> []):=⟨λ_ _=>rfl,λ_ _ _ _ _ _ _ h=>nomatch h⟩
theorem Nb.app (h:Nb M n f d) (B:t<n) {b:Nat} (D:Bj M (f t) b=none) (C:(i.map AO).length<=p):
  Nb (B6 (Bj M (f t)) b (.row 3 1 p (i.map AO))) n (BL f t (some (b,p))) (BL d t i):=by
 have u:∀k,k<n ->k≠t ->∀g r,f k=some (g,r) ->g≠b/\B6 (Bj M (f t)) b (.row 3 1 p (i.map AO)) g=M g:=by
  intro k m v g r e;have a:=h.at_ k m;rw [e] at a;have y:∀o,f t≠some (g,o):=λo s=>v (h.inj k t g r o m B e s);refine ⟨λE=>?_,?_⟩
  .subst E;have:=Jx a.2 y
   grind
  .rw [keepM D a.2 y,a.2]
 refine ⟨λk m=>?_,λk x H G F m w A s=>?_⟩
 .by_cases e:k=t
  .subst e;rw [Lh,Lh];exact ⟨C,GF _ _ _⟩
  .rw [HU e,HU e];have a:=h.at_ k m
   match hh:f k,a with
   | none,a=>exact a
   | some (g,r),a=>exact ⟨a.1,by rw [(u k m e g r hh).2];exact a.2⟩
 .by_cases z:k=t<;>by_cases q:x=t
  .rw [z,q]
  .grind [Lh,HU]
  .grind [Lh,HU]
  .rw [HU z] at A;rw [HU q] at s;exact h.inj k x H G F m w A s
def eR (n:Nat) (ls:Nat ->List Nat):List (List Nat):=(List.range n).map ls
theorem VY (n:Nat) (a:Nat ->List Nat):(eR n a).length=n:=by simp [eR]
theorem U9 (h:o<n):sucs (eR n d) o=d o:=by
 rw [Fd (by rw [VY];exact h)];simp [eR]
theorem Nb.melt (h:Nb M n f d):∀(j:Nat) x y,(rowH n f d)[j]? =some x ->((eR n d).map natsD)[j]? =some y ->Melt M x y:=by
 intro j x y b c;have e:j<n:=by have:=(φ.1 b).1;rwa [Fi] at this
 rw [Kb e] at b;injection b with b
 rw [Ub (by rw [VY];exact e),U9 e] at c;injection c with c
 subst b c;exact .inr ⟨f j,3,(d j).map AO,by rw [χ],h.at_ j e,λz g=>by obtain ⟨a,_,rfl⟩:=Ξ.1 g;rfl,Z⟩
theorem Km (n:Nat) (d:Nat ->Hd) (b:Nat ->List Nat):∀x∈rowH n d b,x.one=true:=λx c=>by
 obtain ⟨a,_,rfl⟩:=Ξ.1 c;rfl
theorem cx (g:List (List Nat)):∀x∈g.map natsD,x.one=true:=λx b=>by
 obtain ⟨a,_,rfl⟩:=Ξ.1 b;rfl
theorem UB (n:Nat):∀(j:Nat) x y,(List.replicate n (D.sl (some true) []))[j]? =some x ->(rowH n (λ_=>none) (λ_=> []))[j]? =some y ->∀w O v,A1 w O x v ->A1 w O y v:=by
 intro j x y a b w O v e;have d:j<n:=by have:=(φ.1 a).1;rwa [List.length_replicate] at this
 rw [Kb d] at b;injection b with b
 have c:x=D.sl (some true) []:=by rw [List.getElem?_replicate,ς d] at a;injection a with a;exact a.symm
 subst c b;exact e.nrm1
theorem Xd (n:Nat):∀x∈List.replicate n (D.sl (some true) []),x.one=true:=λx a=>by rw [(List.mem_replicate.1 a).2];rfl
theorem grd_ex (g:List (List Nat)) (K:Nat ->Nat):∃a,R0 g K a/\∀y,¬DQ g a y:=by
 have h:∀(m:Nat) (l:List Nat),R0 g K l ->g.length - l.length<=m ->∃a,R0 g K a/\∀y,¬DQ g a y:=by
  intro m
  induction m with
  | zero=>
   intro l f p;refine ⟨l,f,λy c=>?_⟩;obtain ⟨t,s⟩:=JU f;have:=DN (φh.2 ⟨c.2.1,t⟩) (m:=List.range g.length) λx k=>Ψ.2 ((Υ.1 k).elim (λe=>e▸c.1) (s x))
   grind
  | succ m o=>
   intro l f p
   by_cases r:∃y,DQ g l y
   .have d:∀(b:Nat) y,DQ g l y ->K y<=b ->∃x,DQ g l x/\∀z,DQ g l z ->K x<=K z:=by
     intro b
     induction b with
     | zero=>intro y c u;exact ⟨y,c,λz _=>by omega⟩
     | succ b n=>
      grind
    obtain ⟨y,c⟩:=r;obtain ⟨x,k,j⟩:=d (K y) y c (Γ _);refine o (l++ [x]) (U8 f k j) ?_
    grind
   grind
 exact h _ [] (λi q=>by simp at q) (Γ _)
theorem MI (g:List (List Nat)) (K:Nat ->Nat):R0 g K (ordG g K)/\∀y,¬DQ g (ordG g K) y:=Classical.epsilon_spec (p:=λa=>R0 g K a/\∀y,¬DQ g a y) (grd_ex g K)
theorem ordG_lt {g:List (List Nat)} {K:Nat ->Nat} (h:k<(ordG g K).length):nth (ordG g K) k<g.length:=(JU (MI g K).1).2 _ (DR h)
theorem cv (g:List (List Nat)) (K:Nat ->Nat):(ordG g K).length<=g.length:=by
 obtain ⟨c,b⟩:=JU (MI g K).1;have:=DN c (m:=List.range g.length) λx a=>Ψ.2 (b x a)
 grind
def lfT (of:Nat ->Nat) (n:Nat):Nat ->Nat ->Nat
 | 0=>λ_=>0
 | d+1=>BL (lfT of n d) (of (n - 1 - d)) (n - 1 - d)
theorem If (a:Nat ->Nat) (n:Nat):∀d,d<=n ->∀c,(∃v,n - d<=v/\v<n/\a v=c) ->a (lfT a n d c)=c/\lfT a n d c<n/\∀v,n - d<=v ->v<n ->a v=c ->lfT a n d c<=v
 | 0,_,c,⟨v,o,i,_⟩=>by omega
 | d+1,q,c,⟨v,o,i,h⟩=>by
  unfold lfT
  by_cases e:c=a (n - 1 - d)
  .subst e;rw [Lh];exact ⟨Z,by omega,λv m _ _=>by omega⟩
  .rw [HU e];have m:v≠n - 1 - d:=λf=>e (by rw [<-h,f]);obtain ⟨l,k,j⟩:=If a n d (by omega) c ⟨v,by omega,i,h⟩;refine ⟨l,k,λu p b g=>j u ?_ b g⟩;have:u≠n - 1 - d:=λf=>e (by rw [<-g,f]);omega
def V9 (of:Nat ->Nat) (n cnt:Nat):List Nat:=(List.range cnt).map (lfT of n n)
theorem Nr {cnt:Nat} (h:p<cnt):nth (V9 c n cnt) p=lfT c n n p:=by grind [V9,QQ]
theorem lfL_len (a:Nat ->Nat) (n cnt:Nat):(V9 a n cnt).length=cnt:=by simp [V9]
theorem cL (n:Nat) (f:Nat ->Nat):rowN n f=((List.range n).map f).map AO:=by rw [ωt];rfl
theorem lf_inj {cnt:Nat} (h:SccOf n a c cnt):∀d b,d<cnt ->b<cnt ->nth (V9 c n cnt) d=nth (V9 c n cnt) b ->d=b:=by
 intro d b i g e;rw [Nr i,Nr g] at e;obtain ⟨v,j,f⟩:=h.use d i;obtain ⟨u,l,k⟩:=h.use b g;have m:=(If c n n (Γ _) d ⟨v,by omega,j,f⟩).1
 grind [If]
def YX (of:Nat ->Nat) (a:Nat) (l:List Nat):List Nat:=(l.filter λx=>decide (of a≠of x)).map of
def Ny (g:List (List Nat)) (of:Nat ->Nat) (i k c:Nat):List Nat:=((List.range i).flatMap λa=>if of a=c then YX of a (sucs g a) else [])++if of i=c then YX of i ((sucs g i).take k) else []
theorem eu (g:List (List Nat)) (a:Nat ->Nat):Ny g a 0 0=λ_=> []:=by funext c;simp [Ny,YX]
theorem YU (g:List (List Nat)) (a:Nat ->Nat) (i:Nat):Ny g a i (sucs g i).length=Ny g a (i+1) 0:=by grind [Ny,ωy,YX]
theorem Um {a:Nat} (b:k<i.length):YX c a (i.take (k+1))=YX c a (i.take k)++if c a≠c (nth i k) then [c (nth i k)] else []:=by grind [YX,ψ,QQ]
theorem ew {of:Nat ->Nat} (a:k<(sucs g o).length) (h:of o≠of (nth (sucs g o) k)):BL (Ny g of o k) (of o) (Ny g of o k (of o)++ [of (nth (sucs g o) k)])=Ny g of o (k+1):=by grind [Lh,Ny,Um,HU]
theorem ez {of:Nat ->Nat} (a:k<(sucs g o).length) (h:¬of o≠of (nth (sucs g o) k)):Ny g of o k=Ny g of o (k+1):=by
 funext c
 unfold Ny;rw [Um a,η h,ωi]
def Jm (g:List (List Nat)) (i:Nat):Nat:=((List.range i).map λa=>(sucs g a).length).sum
theorem YW (b:Nat ->Nat) (a:Nat) (l:List Nat):(YX b a l).length<=l.length:=by unfold YX;rw [χ];exact ωj _ _
theorem YV (g:List (List Nat)) (b:Nat ->Nat) (i k c:Nat):(Ny g b i k c).length<=Jm g i+((sucs g i).take k).length:=by
 have d:∀m,((List.range m).flatMap λa=>if b a=c then YX b a (sucs g a) else []).length<=Jm g m:=by
  intro m
  induction m with
  | zero=>exact ζ _
  | succ m e=>
   unfold Jm at e⊢;rw [ωy,List.flatMap_append,Δ,Ω,χt,List.flatMap_singleton,List.map_singleton,List.sum_singleton]
   grind [YW]
 grind [Ny,YW]
theorem QW (g:List (List Nat)) {i j:Nat} (h:i<=j):Jm g i<=Jm g j:=by
 induction j with
 | zero=>
  have:i=0:=by omega
  subst this;exact Γ _
 | succ j a=>
  grind [Jm,ωy]
structure GT (g:List (List Nat)):Prop where
 gb:GB g
 tot:Jm g g.length<=1048576
def L0 (g:List (List Nat)) (of:Nat ->Nat) (cnt:Nat):List (List Nat):=eR cnt (Ny g of g.length 0)
theorem edG_gb {cnt:Nat} (j:GT g) (h:SccOf g.length (sucs g) c cnt):GB (L0 g c cnt):=by
 have n:=j.gb.n;have m:=h.le;refine ⟨by rw [L0,VY];omega,λl e=>?_,λl e x d=>?_⟩
 .obtain ⟨b,_,rfl⟩:=Ξ.1 e;have:=YV g c g.length 0 b;have:=j.tot
  simp at*;omega
 .obtain ⟨b,_,rfl⟩:=Ξ.1 e;rw [L0,VY]
  have f:∀a l,a<g.length ->(∀x∈l,x<g.length) ->x∈YX c a l ->x<cnt:=λa l _ e d=>by
   unfold YX at d;obtain ⟨y,i,rfl⟩:=Ξ.1 d;exact h.lt y (e y (ωc.1 i).1)
  unfold Ny at d;rcases ϖ.1 d with d | d
  .obtain ⟨a,k,d⟩:=χl.1 d
   split at d
   .exact f a _ (Ψ.1 k) (λy i=>j.gb.suc (Ψ.1 k) i) d
   .cases d
  grind [YX]
def Dj (seq:List Nat):Nat ->Nat ->Nat
 | 0=>λ_=>0
 | k+1=>BL (Dj seq k) (nth seq k) k
theorem Xp (a:List Nat) {cnt:Nat} (b:0<cnt) (d:a.length<=cnt):∀k,k<=a.length ->∀c,Dj a k c<cnt
 | 0,_,c=>b
 | k+1,f,c=>by
  unfold Dj
  by_cases e:c=nth a k
  .subst e;rw [Lh];omega
  .rw [HU e];exact Xp a b d k (by omega) c
noncomputable def conS (g:List (List Nat)) (of:Nat ->Nat) (cnt:Nat):List Nat:=ordG (L0 g of cnt) (nth (V9 of g.length cnt))
noncomputable def conM (g:List (List Nat)) (of:Nat ->Nat) (cnt:Nat):Nat ->Nat:=Dj (conS g of cnt) (conS g of cnt).length
def GO (no:Nat ->Nat) (i c:Nat):List Nat:=(List.range i).filter λv=>decide (no v=c)
def ofT (of no:Nat ->Nat) (i v:Nat):Nat:=if v<i then no v else of v
theorem Z5 (a:Nat ->Nat) (i:Nat):BL (GO a i) (a i) (GO a i (a i)++ [i])=GO a (i+1):=by grind [Lh,GO,ωy,HU]
theorem cr (a:Nat ->Nat) (i c:Nat):(GO a i c).length<=i:=by grind [GO]
theorem dB (b a:Nat ->Nat) (i:Nat):BL (ofT b a i) i (a i)=ofT b a (i+1):=by grind [Lh,ofT,HU]
structure CN (n:Nat) (suc:Nat ->List Nat) (no:Nat ->Nat) (cnt:Nat):Prop where
 lt:∀v,v<n ->no v<cnt
 scc:∀i j,i<n ->j<n ->(no i=no j↔Rh suc i j/\Rh suc j i)
 use:∀c,c<cnt ->∃v,v<n/\no v=c
 top:∀u v,u<n ->v<n ->v∈suc u ->no u<=no v
 mn:∀c,c<cnt ->∀i,i<n ->c<=no i ->(∀k,k<n ->c<=no k ->Rh suc k i ->Rh suc i k) ->∃j,j<n/\no j=c/\j<=i
theorem CN.rh {cnt:Nat} (h:CN n a j cnt) (f:∀m,m<n ->∀y∈a m,y<n) {u:Nat} (d:u<n) (g:Rh a u m):m<n/\j u<=j m:=by
 induction g with
 | refl=>exact ⟨d,Γ _⟩
 | step _ e b=>
  have c:=f _ b.1 _ e;exact ⟨c,ωa b.2 (h.top _ _ b.1 c e)⟩
theorem CN.crit {cnt:Nat} (h:CN n a j cnt) (d:∀v,v<n ->∀y∈a v,y<n) (f:o<n) (l:j o=p):∀k,k<n ->p<=j k ->Rh a k o ->Rh a o k:=λk b g e=>by
 have:=(h.rh d b e).2;exact ((h.scc o k f b).1 (by omega)).1
theorem exmin (p:Nat ->Prop):∀(m x:Nat),p x ->x<=m ->∃y,p y/\∀z,p z ->y<=z:=by
 intro m
 induction m with
 | zero=>intro x a c;exact ⟨x,a,λz _=>by omega⟩
 | succ m b=>
  grind
theorem P6 {n:Nat} {g:Nat ->List Nat} {q a:Nat ->Nat} {cnt f:Nat} (h:CN n g q cnt) (w:CN n g a f) (B:∀v,v<n ->∀y∈g v,y<n):
  ∀c,c<=cnt ->c<=f ->∀v,v<n ->∀d,d<c ->(q v=d↔a v=d)
 | 0,_,_,v,_,d,L=>by omega
 | c+1,O,N,v,p,d,L=>by
  have z:=P6 h w B c (by omega) (by omega)
  by_cases e:d<c
  .exact z v p d e
  .have e:d=c:=by omega
   subst e
   have b:∀v,v<n ->(d<=q v↔d<=a v):=λv p=>by
    constructor
    .intro M;rcases Nat.lt_or_ge (a v) d with o | o
     .have:=(z v p _ o).2 rfl;omega
     .exact o
    .intro M;rcases Nat.lt_or_ge (q v) d with o | o
     .have:=(z v p _ o).1 rfl;omega
     .exact o
   obtain ⟨x,J,A⟩:=h.use d (by omega);obtain ⟨i,⟨u,l⟩,E⟩:=exmin (λy=>y<n/\q y=d) x x ⟨J,A⟩ (Γ _);obtain ⟨j,D,s,K⟩:=w.mn d (by omega) i u ((b i u).1 (by omega)) λk r m C=>h.crit B u l k r ((b k r).2 m) C;obtain ⟨I,G,t,H⟩:=h.mn d (by omega) j D ((b j D).2 (by omega)) λk r m C=>w.crit B D s k r ((b k r).1 m) C;have:=E I ⟨G,t⟩;have F:i=j:=by omega
   subst F;rw [<-l,h.scc v i p u,l,<-s,w.scc v i p u]
theorem cn_uniq {c:Nat ->Nat} {cnt b:Nat} (h:CN n a j cnt) (d:CN n a c b) (l:∀v,v<n ->∀y∈a v,y<n):cnt=b/\∀v,v<n ->j v=c v:=by
 have f:∀{j c:Nat ->Nat} {cnt b:Nat},CN n a j cnt ->CN n a c b ->cnt<=b:=by
  intro j c cnt b h d;rcases Nat.lt_or_ge b cnt with i | k
  .obtain ⟨v,g,m⟩:=h.use b i;have o:=d.lt v g;have:=(P6 h d l b (by omega) (Γ _) v g (c v) o).2 rfl;omega
  .exact k
 have e:cnt=b:=Nat.le_antisymm (f h d) (f d h);subst e;exact ⟨Z,λv g=>((P6 h d l cnt (Γ _) (Γ _) v g (c v) (d.lt v g)).2 Z)⟩
theorem SX {cnt x:Nat} (k:p<cnt):x∈sucs (L0 g c cnt) p↔∃a,a<g.length/\c a=p/\∃y∈sucs g a,c a≠c y/\c y=x:=by
 rw [L0,U9 k];unfold Ny YX;rw [List.take_zero];simp only [List.filter_nil,List.map_nil,ite_self,ωi,χl,Ψ]
 constructor
 .rintro ⟨a,j,h⟩
  split at h
  .rename_i e
   obtain ⟨y,f,rfl⟩:=Ξ.1 h;obtain ⟨d,b⟩:=ωc.1 f;exact ⟨a,j,e,y,d,χf b,Z⟩
  .cases h
 .rintro ⟨a,j,e,y,f,i,rfl⟩;refine ⟨a,j,?_⟩;rw [ς e];exact Ξ.2 ⟨y,ωc.2 ⟨f,ωf i⟩,Z⟩
theorem Xq {a:List Nat} (b:a.Nodup):∀m,m<=a.length ->∀k,k<m ->Dj a m (nth a k)=k
 | 0,_,k,c=>by omega
 | m+1,f,k,c=>by
  unfold Dj
  by_cases e:k=m
  .subst e;rw [Lh]
  .rw [HU,Xq b m (by omega) k (by omega)];rw [QQ (by omega),QQ (by omega)];intro d;exact e ((List.getElem_inj b).1 d)
theorem con_all (J:GB g) {cnt:Nat} (h:SccOf g.length (sucs g) c cnt) {K:Nat ->Nat} {i:List Nat} (n:∀y,¬DQ (L0 g c cnt) i y):∀b,b<cnt ->b∈i:=by
 let Rc:Nat ->Nat ->Prop:=λd b=>∃u v,u<g.length/\v<g.length/\c u=d/\c v=b/\Rh (sucs g) u v
 have dec:∀b,DecidablePred λd=>Rc d b:=λb d=>Classical.propDecidable _
 let f:Nat ->Nat:=λb=>((List.range cnt).filter λd=> @decide (Rc d b) (dec b d)).length
 have w:∀k b,k<cnt ->b∈sucs (L0 g c cnt) k ->f k<f b:=by
  intro k b C j;obtain ⟨a,o,rfl,y,q,A,rfl⟩:=(SX C).1 j;have e:=J.suc o q
  have:=DN (l:=c y::(List.range cnt).filter λd=> @decide (Rc d (c a)) (dec (c a) d)) (m:=(List.range cnt).filter λd=> @decide (Rc d (c y)) (dec (c y) d)) (φh.2 ⟨λn=>by
   obtain ⟨_,F⟩:=ωc.1 n;obtain ⟨u,v,t,s,H,G,z⟩:= @of_decide_eq_true _ (dec _ _) F;have M:=(h.scc u y t e).1 H;have E:=(h.scc v a s o).1 G
   exact A ((h.scc a y o e).2 ⟨Rh.one q,M.2.trans (z.trans E.1)⟩),List.nodup_range.filter _⟩) (λx r=>by
   rcases Υ.1 r with rfl | r
   .exact ωc.2 ⟨Ψ.2 (h.lt y e), @decide_eq_true _ (dec _ _) ⟨y,y,e,e,Z,Z,.refl y⟩⟩
   .obtain ⟨N,F⟩:=ωc.1 r;obtain ⟨u,v,t,s,H,G,z⟩:= @of_decide_eq_true _ (dec _ _) F;have E:=(h.scc v a s o).1 G
    exact ωc.2 ⟨N, @decide_eq_true _ (dec _ _) ⟨u,y,t,e,H,Z,z.trans (E.1.trans (Rh.one q))⟩⟩)
  grind
 have p:∀(m b:Nat),f b<=m ->b<cnt ->b∈i:=by
  intro m
  induction m with
  | zero=>
   intro b L j;refine Classical.byContradiction λB=>n b ⟨by rw [L0,VY];exact j,B,λk C _ D=>?_⟩
   grind [L0,VY]
  | succ m O=>
   intro b L j;refine Classical.byContradiction λB=>n b ⟨by rw [L0,VY];exact j,B,λk C I D=>?_⟩
   grind [L0,VY]
 exact λb j=>p (f b) b (Γ _) j
theorem Wn (hg:GT g) {cnt:Nat} (h:SccOf g.length (sucs g) c cnt):CN g.length (sucs g) (λv=>conM g c cnt (c v)) cnt:=by
 obtain ⟨M,h2⟩:=MI (L0 g c cnt) (nth (V9 c g.length cnt));have V:ordG (L0 g c cnt) (nth (V9 c g.length cnt))=conS g c cnt:=rfl;rw [V] at M h2;have hM:∀b,conM g c cnt b=Dj (conS g c cnt) (conS g c cnt).length b:=λ_=>rfl;have q:=con_all hg.gb h (K:=nth (V9 c g.length cnt)) h2;obtain ⟨B,o⟩:=JU M;have w:(L0 g c cnt).length=cnt:=by rw [L0,VY]
 rw [w] at o
 obtain ⟨f,z⟩:∃f,conS g c cnt=f:=⟨_,Z⟩
 rw [z] at M h2 q B o;simp only [z] at hM
 have hlen:f.length=cnt:=Nat.le_antisymm (by have:=DN B (m:=List.range cnt) λx S=>Ψ.2 (o x S);rwa [ωo] at this)
  (by have:=DN (List.nodup_range (n:=cnt)) (m:=f) λx S=>q x (Ψ.1 S);rwa [ωo] at this)
 have F:∀k,k<cnt ->conM g c cnt (nth f k)=k:=λk s=>by rw [hM];exact Xq B _ (Γ _) k (by omega)
 have l:∀b,b<cnt ->∃k,k<cnt/\nth f k=b/\conM g c cnt b=k:=λb E=>by
  obtain ⟨k,s,rfl⟩:=ψb.1 (q b E)
  grind [QQ]
 have I:∀b d,b<cnt ->b<=conM g c cnt d ->d<cnt ->d∉f.take b:=λb d E hcd hd hm=>by
  obtain ⟨k,s,e⟩:=ψb.1 hm;rw [ϱ] at s;rw [List.getElem_take,<-QQ (by omega)] at e
  grind
 refine ⟨λv A=>?_,λi j r hj=>?_,λb E=>?_,λu v U A he=>?_,λb E i r D Y=>?_⟩
 .obtain ⟨k,s,_,e⟩:=l (c v) (h.lt v A);omega
 .rw [<-h.scc i j r hj]
  constructor
  .intro e;obtain ⟨k,_,N,e2⟩:=l (c i) (h.lt i r);obtain ⟨m,_,Q,e4⟩:=l (c j) (h.lt j hj);have e:conM g c cnt (c i)=conM g c cnt (c j):=e;rw [<-N,<-Q,show k=m by omega]
  .intro e;show conM g c cnt (c i)=conM g c cnt (c j);rw [e]
 .obtain ⟨v,A,e⟩:=h.use (nth f b) (o _ (DR (by omega)));exact ⟨v,A,by show conM g c cnt (c v)=b;rw [e];exact F b E⟩
 .show conM g c cnt (c u)<=conM g c cnt (c v)
  by_cases e:c u=c v
  .rw [e];exact Γ _
  .obtain ⟨p,hp,N,e2⟩:=l (c v) (h.lt v A);have t:=(M p (by omega)).1;rw [N] at t;have C:c u∈f.take p:=Classical.byContradiction λhn=>t.2.2 (c u) (by rw [w];exact h.lt u U) hn ((SX (h.lt u U)).2 ⟨u,U,Z,v,he,e,Z⟩);obtain ⟨k,s,Q⟩:=ψb.1 C;rw [ϱ] at s;rw [List.getElem_take,<-QQ (by omega)] at Q;rw [<-Q,F k (by omega),e2];omega
 .have D:b<=conM g c cnt (c i):=D
  have t:DQ (L0 g c cnt) (f.take b) (c i):=by
   refine ⟨by rw [w];exact h.lt i r,I b _ E D (h.lt i r),λk s X C=>?_⟩;rw [w] at s;obtain ⟨a,O,rfl,y,hy,W,H⟩:=(SX s).1 C;have R:=hg.gb.suc O hy
   have hca:b<=conM g c cnt (c a):=by
    rcases Nat.lt_or_ge (conM g c cnt (c a)) b with hl | hl
    .obtain ⟨m,hm,N,e2⟩:=l (c a) (h.lt a O);exact (X (ψb.2 ⟨m,by rw [ϱ];omega,by rw [List.getElem_take,<-QQ (by omega)];exact N⟩)).elim
    .exact hl
   have G:=(h.scc y i R r).1 H;have L:Rh (sucs g) a i:=(Rh.one hy).trans G.1;have:=(h.scc a i O r).2 ⟨L,Y a O hca L⟩;exact W (by rw [this,H])
  have hK:=(M b (by omega)).2 _ t;have J:nth f b<cnt:=o _ (DR (by omega));rw [Nr J,Nr (h.lt i r)] at hK;obtain ⟨v,A,T⟩:=h.use _ J;obtain ⟨q1,q2,_⟩:=If c g.length g.length (Γ _) (nth f b) ⟨v,by omega,A,T⟩;obtain ⟨_,_,q3⟩:=If c g.length g.length (Γ _) (c i) ⟨i,by omega,r,Z⟩;exact ⟨_,q2,by show conM g c cnt (c _)=b;rw [q1];exact F b E,ωa hK (q3 i (by omega) r Z)⟩
abbrev YK (l:List Int):D:= .sl none (l.map AF)
abbrev grI (g:List (List Int)):D:= .sl none (g.map YK)
def Lm (g:List (List Int)) (i:Nat):Nat:=((g.take i).map List.length).sum
def aY (n:Nat) (l:List Int):Prop:=∃x∈l,¬(0<=x/\x<(n:Int))
instance (n:Nat) (l:List Int):Decidable (aY n l):=inferInstanceAs (Decidable (∃x∈l,¬(0<=x/\x<(n:Int))))
def VI (g:List (List Int)):Int:=if 65536<g.length\/1048576<Lm g g.length then 8 else if ∃l∈g,aY g.length l then 2 else 0
theorem Ll (h:o<e.length):Lm e (o+1)=Lm e o+e[o].length:=by
 unfold Lm;rw [ψ h,Ω,χt];simp
theorem XI {g:List (List Int)} (h:∀l∈g,l.length<=2000000):∀i,i<=g.length ->Lm g i<=i*2000000
 | 0,_=>by simp [Lm]
 | i+1,a=>by
  have:=XI h i (by omega);have:=h g[i] (ϑ (by omega));rw [Ll (by omega)];omega
theorem getI {l:List Int} (h:k<l.length):(l.map AF)[k]? =some (AF l[k]):=A3 h
theorem getgI (h:o<e.length):(e.map YK)[o]? =some (YK e[o]):=A3 h
theorem chk8 (h:65536<e.length\/1048576<Lm e e.length):(8:Int)=VI e:=by unfold VI;rw [ς h]
theorem chk2 (b:¬65536<e.length) (a:¬1048576<Lm e e.length) (h:∃l∈e,aY e.length l):(2:Int)=VI e:=by grind [VI]
theorem chk0 (b:¬65536<e.length) (a:¬1048576<Lm e e.length) (h:¬∃l∈e,aY e.length l):(0:Int)=VI e:=by grind [VI]
set_option maxRecDepth 100000 in
theorem fZ (g:List (List Int)) (M:g.length<=1000000) (s:∀l∈g,l.length<=2000000):AM prog 133 [.d (grI g)] (AF (VI g)):=by
 refine Ax func133 Z Z ntmps133 Z Z Z λF R=>(AD (AE (AB Z Z (AC (AD (AE (AB Z Z (AC ?_))))))));refine AD (AD (AE (goMv Z Z (J (IQ Z (χ ..) underlying147 Z) (goMv Z Z (AC (A2 (Gh (α:=Nat) (λk=>⟨50,[(0,.d (grI g)),(3,(.d (AO (Lm g k)))),(10,(.d (grI g))),(11,(.d (AO g.length))),(12,(.d (AO k)))],[]⟩) (λk=>k<=g.length) (λk=>g.length - k) (0) (ζ _) (al ⟨Z,Z,Z,Z,Z,trivial⟩) ?_))))))));intro k N;refine AD (AE (J (Az Z Z Z) (AC (AD (A7 Z (λo=>?_) (λo=>?_))))))
 .refine AX (AD (A2 (AD ?_)));have c:k<g.length:=BR o;have L:=XI s k (by omega);have w:=s _ (ϑ c);have K:=Ll c;refine AE (J (BC (k) Z Z (Z) (getgI c) underlying147 Z Cv Z) (J (CF Z Z BF Z) (AB Z Z (AC (AE (goMv Z Z (goMv Z Z ?_)))))));refine J (IQ Z (χ ..) underlying28 Z) (J (Ah Z Z (Θ _ (by omega)) Z) (Jv 19 (.d (AO (Lm g (k+1)))) Z (eqv (ωm AF (by omega))) (AB Z Z (AC (AE (J (Ah Z Z (Θ _ (by omega)) Z) (goMv Z Z (AC ?_))))))));exact ⟨k+1,by omega,by omega,⟨Z,Z,λ_ _=>Sr.get (l:=[(0,_),(3,_),(10,_),(11,_),(12,_)]) ⟨Z,Z,Z,Z,Z,trivial⟩⟩⟩
 .refine Ar (AD (AD ?_));have A:k=g.length:=by have:=o;omega
  subst A;refine AE (goMv Z Z (J (IQ Z (χ ..) underlying147 Z) (J (Gi Z Z Z) (goMv Z Z (CX 24 Z (λH=>?_) (λH=>?_))))))
  .refine AI Z Z Z Z ?_;refine AI Z Z Z Z (J (BY Z Z Z Z) (AC (Bz Z Z (AD (AE (AB Z Z (AC (AZ ?_))))))));exact ⟨_,[],[],AY Z,Z,Z,eqv (ωm AF (chk8 (by omega))),Z⟩
  .refine AR Z Z Z (goMv Z Z (AR Z Z Z (J (Gi Z Z Z) (J (Bf Z Z Z Z) (AC (A7 Z (λG=>?_) (λG=>?_)))))))
   .refine AD (AE (AB Z Z (AC (AZ ?_))));exact ⟨_,[],[],AY Z,Z,Z,eqv (ωm AF (chk8 (by omega))),Z⟩
   .refine AX (AD (AD ?_));have h:¬65536<g.length:=by omega
    have f:¬1048576<Lm g g.length:=by omega
    refine AE (goMv Z Z (J (IQ Z (χ ..) underlying147 Z) (goMv Z Z (AC (A2 (Gh (α:=Nat) (λi=>⟨50,[(0,.d (grI g)),(28,(.d (grI g))),(29,(.d (AO g.length))),(30,(.d (AO i)))],[]⟩) (λi=>i<=g.length/\∀l∈g.take i,¬aY g.length l) (λi=>g.length - i) (0) (⟨ζ _,λl s=>by simp at s⟩) (al ⟨Z,Z,Z,Z,trivial⟩) ?_))))));rintro i ⟨Q,I⟩;refine AD (AE (J (Az Z Z Z) (AC (AD (A7 Z (λn=>?_) (λn=>?_))))))
    .refine AX (AD (A2 (AD ?_)));have a:i<g.length:=BR n;have w:=s _ (ϑ a);refine AE (J (BC (i) Z Z (Z) (getgI a) underlying147 Z Cv Z) (J (CF Z Z BF Z) (AB Z Z ?_)));refine AC (AD (AE (goMv Z Z (J (IQ Z (χ ..) underlying28 Z) (goMv Z Z (AC (A2 (Gh (α:=Nat) (λj=>⟨50,[(0,.d (grI g)),(28,(.d (grI g))),(29,(.d (AO g.length))),(30,(.d (AO i))),(34,(.d (YK g[i]))),(35,(.d (AO g[i].length))),(36,(.d (AO j)))],[]⟩) (λj=>j<=g[i].length/\∀x∈g[i].take j,0<=x/\x<(g.length:Int)) (λj=>g[i].length - j) (0) (⟨ζ _,λx t=>by simp at t⟩) (al ⟨Z,Z,Z,Z,Z,Z,Z,trivial⟩) ?_))))))));rintro j ⟨O,t⟩;refine AD (AE (J (Az Z Z Z) (AC (AD (A7 Z (λm=>?_) (λm=>?_))))))
     .refine AX (AD (A2 (AD ?_)));have b:j<g[i].length:=BR m;refine AE (J (BC (j) Z Z (Z) (getI b) underlying28 Z BD Z) ?_);refine J (CF Z Z Ai Z) (AB Z Z (AC (AD (AE (goMv Z Z (J (Az Z Z Z) (goMv Z Z (CX 42 Z (λE=>?_) (λE=>?_)))))))))
      .refine AI Z Z Z Z (AI Z Z Z Z (AI Z Z Z Z ?_));refine AI Z Z Z Z (J (BY Z Z Z Z) (AC (Bz Z Z (AD (AE (AB Z Z (AC (AZ ?_))))))));exact ⟨_,[],[],AY Z,Z,Z,eqv (ωm AF (chk2 h f ⟨g[i],ϑ a,g[i][j],ϑ b,by omega⟩)),Z⟩
      .refine AR Z Z Z (goMv Z Z ?_);refine AR Z Z Z (goMv Z Z (AR Z Z Z (J (IQ Z (χ ..) underlying147 Z) (AR Z Z Z (J (EM Z Z Z) (J (Bf Z Z Z Z) (AC (A7 Z (λD=>?_) (λD=>?_)))))))))
       .refine AD (AE (AB Z Z (AC (AZ ?_))));exact ⟨_,[],[],AY Z,Z,Z,eqv (ωm AF (chk2 h f ⟨g[i],ϑ a,g[i][j],ϑ b,by omega⟩)),Z⟩
       .refine AX (AE (J (Ah Z Z (Θ _ (by omega)) Z) (goMv Z Z (AC ?_))));exact ⟨j+1,⟨by omega,λx p=>by rw [ψ b] at p;exact (ϖ.1 p).elim (t x) λe=>by rw [κ.1 e];exact ⟨by omega,by omega⟩⟩,by omega,⟨Z,Z,λ_ _=>Sr.get (l:=[(0,_),(28,_),(29,_),(30,_),(34,_),(35,_),(36,_)]) ⟨Z,Z,Z,Z,Z,Z,Z,trivial⟩⟩⟩
     .refine Ar ?_;have B:j=g[i].length:=by have:=m;omega
      have q:¬aY g.length g[i]:=λ⟨x,v,u⟩=>u (t x (by rw [B,ωl];exact v));refine AE (J (Ah Z Z (Θ _ (by omega)) Z) (goMv Z Z (AC ?_)));exact ⟨i+1,⟨by omega,λl r=>by rw [ψ a] at r;exact (ϖ.1 r).elim (I l) λe=>by rw [κ.1 e];exact q⟩,by omega,⟨Z,Z,λ_ _=>Sr.get (l:=[(0,_),(28,_),(29,_),(30,_)]) ⟨Z,Z,Z,Z,trivial⟩⟩⟩
    .refine Ar (AD (AE (AB Z Z (AC (AZ ?_)))));have C:i=g.length:=by have:=n;omega
     exact ⟨_,[],[],AY Z,Z,Z,eqv (ωm AF (chk0 h f (λ⟨l,z,y⟩=>I l (by rw [C,ωl];exact z) y))),Z⟩
theorem XM (b:TB n a s S h m k) (j:k=(a m).length) (l:S.low m≠S.idx m):
  ∃c u d,h=c++ [(u,d)]/\TH n a s {S with low:=BL S.low u (min (S.low u) (S.low m)),cs:=h} none:=by
 subst j;have f:=Jn b;have i:=(b.ti.lw m f.2.1).1;obtain ⟨c,u,d,e,g⟩:=ti_pop1 b.ti b.hcs (by omega);exact ⟨c,u,d,e,g,b.k1,b.old,.inl b.rt⟩
theorem XL {st1 st2:List Nat} (b:TB n a s S h m k) (j:k=(a m).length) (i:S.low m=S.idx m) (f:S.st=st1++m::st2):
  TH n a s {S with of:=λx=>if x∈m::st2 then (S.cnt:Int) else S.of x,st:=st1,cs:=h,cnt:=S.cnt+1} none/\∀c u d,h=c++ [(u,d)] ->BL S.low u (min (S.low u) (S.low m))=S.low:=by
 subst j;obtain ⟨o,l⟩:=ti_pop2 b.ti b.hcs i f;refine ⟨⟨l,b.k1,b.old,.inl b.rt⟩,λc u d e=>funext λx=>?_⟩
 by_cases g:x=u
 .subst g;have:=o (x,d) (by rw [e];exact ψe _ (κ.2 Z));rw [Lh]
  grind
 .rw [HU g]
theorem bS {b:List (Nat×Nat)} {u c:Nat} (h:TB n a s S (b++ [(u,c)]) m k):u<n/\m≠u:=by
 have f:(u,c)∈S.cs:=by rw [h.hcs];exact ψo _ (ψe _ (κ.2 Z))
 refine ⟨h.ti.lt u ((h.ti.st u).1 (h.ti.csm _ f)).1,λe=>?_⟩;have d:=h.ti.css;rw [h.hcs] at d
 grind
theorem KW {p:Option Nat} {st1 st2:List Nat} (h:TI n a S p) (b:S.st=st1++m::st2):m∉st2:=by
 have c:=h.srt;rw [b,List.pairwise_append] at c;intro d;exact φe _ ((ψr.1 c.2.1).1 m d)
theorem getF2 {l m j:List (Nat×Nat)} {x:Nat×Nat} (h:k=l.length):((l++ [x]++m++j).map Ud)[k]? =some (Ud x):=by
 subst h;simp
theorem getW {a c j:List Nat} (h:k=(a++c).length):((a++(c++ [w])++j).map AO)[k]? =some (AO w):=by grind
theorem Xk {f:Nat ->Int}:(EQ n (λx=>if x∈q then (p:Int) else f x)).set w (AO p)=EQ n (λx=>if x∈w::q then (p:Int) else f x):=by grind [Nh]
theorem Kf {a st2:List Nat} (h:a++ [w]++q=m::st2) (b:w≠m):a++w::q=m::st2/\a≠ []:=by grind
theorem Nj {b st2:List Nat} (h:b++ [w]++q=m::st2) (d:w=m) (e:m∉st2):b=[]/\q=st2:=by
 subst d
 cases b with
 | nil=>simp at h;exact ⟨Z,h⟩
 | cons a c=>
  grind
theorem F3 {c:Type} {l:List c} (h:l≠ []):∃a b,l=a++ [b]:=by
 rcases List.eq_nil_or_concat l with e | ⟨a,b,e⟩
 .grind
 grind
end Go.Proofs.YteifpcnphnhaoaaGreat
