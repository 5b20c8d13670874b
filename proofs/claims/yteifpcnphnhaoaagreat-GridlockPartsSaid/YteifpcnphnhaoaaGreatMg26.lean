import Derived.Test.YteifpcnphnhaoaaGreatMg25
open Go.Proofs.Tryz
namespace Go.Proofs.YteifpcnphnhaoaaGreat
open Go.RowKit Go.Shelf
open Go.Sort (putRow Holds PermIn SortedIn SWO mapBlock onCells putCells)
variable {P:Program}
section
variable {ρr:Ren} {τ:Type}
theorem aq (L:SlLaysF.n6 P ρr) {E:TypeId} {g g6:FuncId} {fn:Func} (hfn:P.funcs[g]? =some fn) (hnm:(fn.name== "runtime.NumGoroutine")=false) {c:Code} (hbody:fn.body=some c)
  {A:τ ->D} (hag:∀x,(A x).cells=[A x]) (cf:τ ->τ ->Int) (hO:SWO (ltOf cf)) (l V:List τ) (M:List D) (hsz:l.length<4611686018427387904) (hc:∀x∈l,∀y∈l,AK P g [.d (A x),.d (A y)] (.raw (.int .i64 (cf x y))))
  (hu:∀ys:List τ,ys.Perm l ->ys.Pairwise (λa b=>¬cf b a<0) ->ys=V)
  {F:Fr} {s:AS} {d:Nat} {x y:Operand} {ty:TypeId} {pos:String} {aft:Array Edge} {gd:Option (Nat×Bool)} {at_:Array TypeId} {f n:Nat} {fa:AV} {row:List D} {hp':Hp}
  (hg:ρr.f 6=g6) (hx:s.ev x=some (.own f 0 n)) (hy:s.ev y=some fa) (hfa:∀w O R v,A6 w O R fa v ->v= .func (.func g) #[] #[]) (ho:fb s.hp f 0=some (.rowD E 1 row)) (hrow:row=l.map A++M) (hn:n=l.length) (hh:B1 s.hp f 0 (.rowD E 1 (V.map A++M))=some hp') (hd:Nat.blt d s.n=true):
  AH P F ⟨some d,.call {callee:= .value (.func g6),args:= #[x,y],argTypes:=at_},ty,pos,aft,gd⟩ s ⟨s.n,(d,.d (.tup []))::s.env,hp'⟩ (λ_ _=>true):=by
 subst hg hrow hn;intro R act w hs
 obtain ⟨fn6,hf1,hf2,hf3⟩:∃fn,P.funcs[ρr.f 6]? =some fn/\(fn.name== "runtime.NumGoroutine")=false/\fn.body.isSome=true:=by
  obtain ⟨nm,hn,hf⟩:=L.f6;exact ⟨_,hf,hn,Z⟩
 unfold Oper.wp;rw [show (#[x,y]:Array Operand)=[x,y].toArray from rfl,DG hf1 hf2 hf3,Oper.upon_enter]
 suffices key:Calls P (ρr.f 6) ([x,y].map act.eval).toArray w λe w'=>e= .returned (.tuple #[])/\SR F ⟨s.n,s.env,hp'⟩ R act w' by
  refine key.mono λe w' ⟨T,hsr⟩=>?_;subst T;exact ⟨R,hsr.put (IJ hd) (.d (.tup Z λi c v hc=>nomatch hc)),λ_ _ _=>rfl⟩
 have r0:=hs.ev hx;have r1:=hfa _ _ _ _ (hs.ev hy);have hg0:=ho;have h3:=hs.heap;have S:=Ax hh;obtain ⟨us,q1,q2,q3⟩:=h3.sim f 0 _ hg0;show Calls P (ρr.f 6) #[act.eval x,act.eval y] w _;rw [r1]
 generalize act.eval x=V0 at r0
 cases r0 with
 | own hρ hle=>
  rename_i N K a
  by_cases hx:l=[]
  .subst hx;refine (AnyF.slices_SortFunc_none {L with} a K _ w).mono λe w' ⟨T,e2⟩=>?_;subst T e2;refine ⟨Z,hs.writeG f 0 _ _ ho S Z Z Z (Γ _) (Γ _) (λ_ _ _=>rfl) (λ_ _ e=>nomatch e) λhrep=>?_⟩;rw [<-hu [] (List.Perm.refl _) List.Pairwise.nil]
   have hO2:∀t,F.O R hp' t ->F.O R s.hp t:=λt h=>h.imp id λ⟨g,i,o,J,Y⟩=>by
    rw [S] at J
    split at J
    .rename_i e;obtain ⟨rfl,rfl⟩:=e;exact ⟨g,0,_,hg0,Y⟩
    .exact ⟨g,i,o,J,Y⟩
   exact ⟨us,q1,⟨q2.1,q2.2.1,λi x hx j c hc=>by
    obtain ⟨u,J,Y,h4⟩:=q2.2.2 i x hx j c hc
    exact ⟨u,J,Y,h4.mono (Γ _) (λ_ _ _=>rfl) λt _=>hO2 t⟩⟩,q3⟩
  .have hn:0<l.length:=jV.2 hx;have hul:us.length=l.length+M.length:=by have:=q2.1;rwa [Δ,χ,ij] at this
   have hblkeq:∃b B,a=some ⟨b,0,none⟩/\w.heap[b]? =some (.cells B E (0,0))/\B.size=K/\l.length+M.length<=K/\K<=maxLen/\B.toList.take (l.length+M.length)=us/\N=l.length+M.length:=by
    rcases q1.2 with ⟨_,h⟩ | ⟨b,cap',B,T,_,e2,e3,e4,e5,e6⟩
    .rw [Δ,χ] at h;omega
    .rw [hρ] at T;injection T with T e7 e8
     subst T e8;rw [Δ,χ] at e3 e6 e7;exact ⟨b,B,Z,e2,by omega,e3,e4,by rwa [ij] at e6,e7⟩
   obtain ⟨b,B,rfl,p1,p2,p3,p3',p4,rfl⟩:=hblkeq;have hb:Bn (R f 0)=some b:=by rw [hρ];rfl
   have hOb:F.O R s.hp b:= .inr ⟨f,0,_,hg0,hb⟩;have hlt:b<w.heap.size:=(i6.1 p1).1;have hOl:∀t,F.O R s.hp t ->t<w.heap.size:=λt h=>h3.ltO h
   have hus:∀i,i<l.length+M.length ->us[i]? =B[i]?:=λi I=>by
    have h:=gG (·[i]?) p4
    change (B.toList.take (l.length+M.length))[i]? =us[i]? at h
    rw [je I,ip] at h;exact h.symm
   let x0:τ:=l[0]
   let W:Nat ->Nat:=λi=>if i<l.length then i else 0
   have X:∀i,W i<l.length:=λi=>by show (if _ then _ else _)<_;split<;>omega
   let el:Nat ->τ:=λi=>(l[W i]?).getD x0
   have hel:∀i,el i∈l:=λi=>by
    show (l[W i]?).getD x0∈l;rw [ω (X i)];exact ξ (X i)
   have heli:∀i (I:i<l.length),el i=l[i]:=λi I=>by
    show (l[W i]?).getD x0=_;rw [show W i=i from ϱ I,ω I];rfl
   let r:Nat ->Value:=λi=>(us[W i]?).getD undef
   have henc:∀i,us[W i]? =some (r i):=λi=>by
    have h:W i<us.length:=by have:=X i;omega
    show us[W i]? =some ((us[W i]?).getD undef);rw [ω h];rfl
   let cf':Nat ->Nat ->Int:=λi j=>cf (el i) (el j)
   have hO':SWO (ltOf cf'):=⟨λx=>hO.irrefl (el x),λx y z=>hO.trans (el x) (el y) (el z),λx y z=>hO.ntrans (el x) (el y) (el z)⟩
   have hrow:∀i,((l.map A++M)[W i]?)=some (A (el i)):=λi=>by
    rw [oW (by rw [χ];exact X i),ν,ω (X i)];show some (A _)=some (A ((l[W i]?).getD x0));rw [ω (X i)];rfl
   have H:∀i,(r i).oneCell'=true/\AW w (F.O R s.hp) (A (el i)) (r i):=λi=>by
    obtain ⟨u,J,Y,h4⟩:=q2.2.2 _ _ (hrow i) 0 (A (el i)) (by rw [hag];rfl);rw [ij,iT,henc] at J;injection J with J;subst J
    exact ⟨Y,h4⟩
   have henc1:OneCell r:=λi=>(H i).1;have hd0:∀i,i<l.length ->(Array.range l.length)[i]! =i:=λi I=>by rw [getElem!_pos _ i (by simpa using I)];simp
   have hcu:∀i,i<l.length ->B[i]? =some (r i):=λi I=>by
    rw [<-hus i (by omega)];have:=henc i
    rwa [show W i=i from ϱ I] at this
   have hH:Holds r w b 0 (Array.range l.length):=by
    intro j hj;simp only [jh] at hj;rw [hd0 _ hj];refine ⟨?_,?_⟩
    .simp only [World.cell?,p1,iR];rw [hcu j hj];rfl
    .simp only [World.frozen?,p1]
     simp
   have hcmp:CmpLays1 P g #[] r cf' b 0 (Array.range l.length).size w:=by
    intro m os dk _ x y;have Q:w.heap.size<=(sortWorld r w b 0 m dk os).heap.size:=HU;have hW:∀t,t<w.heap.size ->¬F.O R s.hp t ->(sortWorld r w b 0 m dk os).heap[t]? =w.heap[t]?:=λt hl hno=>rL (λe=>hno (e▸hOb)) hl;have ra:=(H x).2.mono Q hW (λ_ _ h=>h);have rb:=(H y).2.mono Q hW (λ_ _ h=>h)
    refine (RP (hc (el x) (hel x) (el y) (hel y)) (w:=sortWorld r w b 0 m dk os) (λt h=>ig (hOl t h) Q) (vs:=[r x,r y]) Z (λi a v ha hv=>?_)).mono λe w' ⟨v,T,e2,e3,e4,e5⟩=>⟨?_,Od e3 e4 e5⟩
    .match i,ha,hv with
     | 0,ha,hv=>injection ha with ha;injection hv with hv;subst ha hv;exact .d ra
     | 1,ha,hv=>injection ha with ha;injection hv with hv;subst ha hv;exact .d rb
    .cases e2 with
     | raw _=>exact T
   have eg:∀args w,(callFunc g args).run P w= .ok (.enter g args) w:=enters_of hfn hnm hbody;have key:=Any.slices_SortFunc L r henc1 cf' hO' g #[] b 0 K (Array.range l.length) w eg hcmp hH hlt (by simpa using hsz);rw [jh] at key;refine key.mono λe w' ⟨T,U,n,os,hp,hsort,hw⟩=>?_;subst T hw;obtain ⟨s1,_,s3⟩:=hp;rw [jh] at s1
   have hperm:U.toList.Perm (List.range l.length):=by
    have T:U.extract 0 l.length=U:=by rw [<-s1];exact Array.extract_size
    have e2:(Array.range l.length).extract 0 l.length=Array.range l.length:=by
     conv=>lhs;arg 3;rw [<-jh (n:=l.length)]
     exact Array.extract_size
    rw [T,e2] at s3
    simpa using s3
   refine ⟨Z,?_⟩
   have hys:U.toList.map el=V:=by
    apply hu
    .refine (hperm.map el).trans (List.Perm.of_eq ?_)
     apply i7 (by simp)
     intro i h5 h6;simp only [gq,kL];exact heli i h6
    .rw [iS];intro i j I hj hij;simp only [χ,j8] at I hj;have:=hsort i j (ζ _) hij (by omega);rw [getElem!_pos _ j hj,getElem!_pos _ i I] at this;simp only [ltOf,decide_eq_false_iff_not] at this
     simpa using this
   have hlen':V.length=l.length:=by rw [<-hys];simp [s1]
   have Q:w.heap.size<=(sortWorld r w b 0 n U os).heap.size:=HU;have hW:∀t,t<w.heap.size ->¬F.O R s.hp t ->(sortWorld r w b 0 n U os).heap[t]? =w.heap[t]?:=λt hl hno=>rL (λe=>hno (e▸hOb)) hl
   have hheap:(sortWorld r w b 0 n U os).heap[b]? =some (.cells (putCells r 0 U B) E (0,0)):=by
    unfold sortWorld;rw [Go.Sort.heap_grow_old _ _ (by rw [Go.Sort.size_putRow];exact hlt)];show (w.heap.modify b _)[b]? =_;rw [jd,ϱ Z,p1];rfl
   have hcs:(putCells r 0 U B).size=K:=by simp only [putCells,Array.size_mapIdx];omega
   have hO2:∀t,F.O R hp' t ->F.O R s.hp t:=λt h=>h.imp id λ⟨g,i,o,J,Y⟩=>by
    rw [S] at J
    split at J
    .rename_i e;obtain ⟨rfl,rfl⟩:=e;exact ⟨g,0,_,hg0,Y⟩
    .exact ⟨g,i,o,J,Y⟩
   have fb:∀i,i<l.length+M.length ->(putCells r 0 U B).toList[i]? =if h:i<l.length then some (r (U[i]'(by omega))) else us[i]?:=λi I=>by
    rw [ip,iH (by omega)];simp only [putCells,Array.getElem_mapIdx]
    by_cases h:i<l.length
    .rw [ϱ ⟨ζ _,by omega⟩,dif_pos h];simp only [Nat.sub_zero];rw [getElem!_pos _ i (by omega)]
    .rw [θ (λY=>h (by omega)),dif_neg h,hus i I,iH (by omega)]
   refine hs.writeG f 0 _ _ ho S Z Z Z Q (Nat.le_add_right _ _) (λt hl hno=>rL (λe=>hno (by rw [e];exact hb)) hl) (λ_ _ e=>nomatch e) λhrep=>?_;have hlr:(V.map A++M).length=l.length+M.length:=by rw [Δ,χ,hlen']
   have hlu:((putCells r 0 U B).toList.take (l.length+M.length)).length=(V.map A++M).length*1:=by
    have e2:(putCells r 0 U B).toList.length=K:=hcs;rw [hlr,ij,ϖ,e2];exact Nat.min_eq_left p3
   refine ⟨(putCells r 0 U B).toList.take (l.length+M.length),⟨hlu,.inr ⟨b,K,_,by rw [hρ,hlr],ζ _,hheap,by rw [hlr];exact p3,p3',by omega,by rw [hlr,ij]⟩⟩,⟨hlu,λx C=>?_,λi x C j c G=>?_⟩,λx C c G=>?_⟩
   .rcases υ.1 C with h | h
    .obtain ⟨y,_,rfl⟩:=Θ.1 h;rw [hag];rfl
    .exact q2.2.1 _ (υ.2 (.inr h))
   .have I:i<l.length+M.length:=by rw [<-hlr];exact (φ.1 C).1
    by_cases h:i<l.length
    .rw [oW (by rw [χ];omega),ν,<-hys,ν,ip,iH (by omega)] at C;injection C with C;subst C
     rw [hag] at G
     match j,G with
     | 0,G=>
      injection G with G;subst G
      exact ⟨_,by rw [ij,iT,je I,fb i I,dif_pos h],(H _).1,(H _).2.mono Q hW λt _=>hO2 t⟩
    .rw [List.getElem?_append_right (by rw [χ];omega),χ,hlen'] at C;obtain ⟨u,J,Y,h4⟩:=q2.2.2 i x (by rw [List.getElem?_append_right (by rw [χ];omega),χ];exact C) j c G
     have hj:j=0:=by
      have J:x.cells.length=1:=q2.2.1 x (υ.2 (.inr (ϑ C)));have:=(φ.1 G).1;omega
     subst hj;rw [ij,iT] at J;exact ⟨u,by rw [ij,iT,je I,fb i I,dif_neg h];exact J,Y,h4.mono Q hW λt _=>hO2 t⟩
   .rcases υ.1 C with h | h
    .obtain ⟨y,_,rfl⟩:=Θ.1 h;rw [hag] at G
     obtain ⟨k,hk⟩:∃k,el k=y\/y∉l:=by
      by_cases hy:y∈l
      .obtain ⟨k,hk,e⟩:=ii.1 hy;exact ⟨k,.inl ((heli k hk).trans e)⟩
      .exact ⟨0,.inr hy⟩
     have hyx:y∈l:=by
      rename_i hy
      rw [<-hys] at hy;obtain ⟨q,_,rfl⟩:=Θ.1 hy;exact hel q
     exact q3 (A y) (υ.2 (.inl (Θ.2 ⟨y,hyx,Z⟩))) c (by rw [hag];exact G)
    .exact q3 x (υ.2 (.inr h)) c G
end
end Go.Proofs.YteifpcnphnhaoaaGreat
namespace Go.Proofs.YteifpcnphnhaoaaGreat
open Go.RowKit
variable {a:List (List Nat)} {k:Nat}
set_option maxRecDepth 100000
def Hm (l:List Nat):Bool:=decide (l.length<2)
theorem Xp (l:List Nat) (a:l.length<=100000):AK prog 82 [.d (fl l)] (Ah (Hm l)):=by
 refine At func82 Z Z ntmps82 Z Z Z λF b=>(AC (AE (AB Z Z ?_)));refine AD (AC (AE (fZ Z Z (J (Ba Z ch Z) (J (BB Z Z Z) (AB Z Z (AD (A4 ?_))))))));exact ⟨_,[],_,A2 Z,Z,Z,V1 (by omega),Z⟩
def gX (l:List Nat):Int:=((l.getD 0 0:Nat):Int)
theorem m6 (a b:List Nat) (h:0<a.length) (g:0<b.length) (f:a.getD 0 0<=100000) (c:b.getD 0 0<=100000):AK prog 84 [.d (fl a),.d (fl b)] (AF (gX a - gX b)):=by
 have j:a.getD 0 0=a[0]:=by rw [Φ,ω h];rfl
 have i:b.getD 0 0=b[0]:=by rw [Φ,ω g];rfl
 unfold gX;rw [j] at f⊢;rw [i] at c⊢;refine At func84 Z Z ntmps84 Z Z Z λF k=>(AC (AE (AB Z Z (AD (AC (CZ [[],[0],[0,1],[],[3],[3,4],rg 6,rg 7] mixed Z (CG (Av 0 Z Z ?_))))))));refine AU [5] Z (BJ (0) Z Z (Z) (A5 h) ch Z BU Z) (AU [6] Z (CI Z Z An Z) (Av 1 Z Z (AU [8] Z (BJ (0) Z Z (Z) (A5 g) ch Z BU Z) (AU [9] Z (CI Z Z An Z) (CB 6 Z Z Z (Ad 7 Z Z (J (PS Z Z (Ξ _ (by omega)) Z) (AD ⟨Z,?_⟩))))))));refine Ad 8 Z Z (AB Z Z (AD ⟨Z,?_⟩));refine CM (A4 ?_);exact ⟨_,[],[],A2 Z,Z,Z,Z,Z⟩
theorem qF (l:List (List Nat)) (r:l.length<=100000) (g:∀c∈l,c.length<=100000):AK prog 135 [.d (.sl none (l.map fl)),.d (.fn 82 [] [])] (AF (Kc Hm l)):=by
 refine At func135 Z Z ntmps135 Z Z Z λF s=>(AC (AE (AB Z Z (AD ?_))));refine AC (AC (AE (fZ Z Z (J (Ba Z ea Z) (fZ Z Z (AD (AZ (G7 (α:=Nat) (λk=>⟨19,[(0,.d (.sl none (l.map fl))),(1,.d (.fn 82 [] [])),(7,(.d (AF (l.length:Int)))),(8,(.d (AF (k:Int))))],[]⟩) (λk=>k<=l.length/\∀x∈l.take k,Hm x=false) (λk=>l.length - k) (0) (⟨ζ _,by simp⟩) (Zz E0) ?_))))))));rintro k ⟨o,i⟩;refine AC (AE (J (BB Z Z Z) (AD (AC (A9 Z (λj=>?_) (λj=>?_))))))
 .have a:k<l.length:=BR j;refine AX (AC (AZ (AC (AE (fZ Z Z (AB Z Z (AD (AC ?_))))))));refine AE (fZ Z Z (fZ Z Z (fZ Z Z (J (BJ (k) Z Z (Z) (A5 a) ea Z DD Z) (J (CI Z Z BL Z) (J (LX (Xp l[k] (g _ (ξ a))) Z Z) (AD (A9 Z (λf=>?_) (λf=>?_)))))))))
  .refine AC (AE (fZ Z Z (AB Z Z (AD (A4 ?_)))));exact ⟨_,[],[],A2 Z,Z,Z,Ab (by unfold Kc;rw [GO a i (by unfold Hm;simpa using f)]),Z⟩
  .refine AX (AE (J (Al Z Z (AM (k+1) (by omega)) Z) (fZ Z Z (AD ?_))));exact ⟨k+1,⟨by show k+1<=_;omega,by rw [ψ a];intro x b;rcases υ.1 b with b | b;exact i x b;rw [η.1 b];unfold Hm;simpa using f⟩,by show l.length - (k+1)<l.length - k;omega,⟨Z,Z,λ_ _=>SU.get (l:=[(0,_),(1,_),(7,_),(8,_)]) E0⟩⟩
 .refine Aw (AC (AE (AB Z Z (AD (A4 ?_)))));exact ⟨_,[],[],A2 Z,Z,Z,Ab (by unfold Kc;rw [Hh (λx b=>i x (by rw [κ (by have h:=j;omega)];exact b))]),Z⟩
def gv (l:List (List Nat)):List (List Nat):=l.filter λx=>!Hm x
theorem XY (h:∀x∈a,Hm x=false):gv a=a:=List.filter_eq_self.2 λx b=>by rw [h x b];rfl
theorem pX (b:k<a.length) (h:Hm a[k]=false):gv (a.take (k+1))=gv (a.take k)++ [a[k]]:=by
 unfold gv;rw [En b,ϱ (by rw [h];rfl)]
theorem XX (b:k<a.length) (h:Hm a[k]=true):gv (a.take (k+1))=gv (a.take k):=by grind [gv,En]
theorem cq (l:List (List Nat)):(gv l).length<=l.length:=gz _ _
def eO:Option (List Nat) ->D
 | some l=>fl l
 | none=> .raw (.slice none 0 0)
theorem dx (l:List (List Nat)):l.map fl=(l.map some).map eO:=by rw [gZ];rfl
theorem q6 (l:List (List Nat)) (S:l.length<=100000) (z:∀c∈l,c.length<=100000):AO prog 81 [.own 10 0 l.length,.d (.fn 82 [] [])] [(10,[.rowD 28 1 (l.map fl)])] λr T=>r= .own 10 0 (gv l).length/\T=[(10,[.rowD 28 1 ((gv l).map fl++(List.replicate (l.length - (gv l).length) none).map eO)])]:=by
 have f:=qF l S z
 cases hfi:l.findIdx? Hm with
 | none=>
  have G:∀x∈l,Hm x=false:=λx I=>by have:=List.findIdx?_eq_none_iff.1 hfi x I;simpa using this
  have b:Kc Hm l= -1:=by unfold Kc;rw [hfi]
  rw [b] at f;have A:=XY G;refine At func81 Z Z ntmps81 Z Z Z λF H=>(AC (AE (AB Z Z (AD (AC (AE ?_))))));refine fZ Z Z (fZ Z Z (J (EK [10] f (by exact ⟨.inr ⟨_,_,Z,.own Z Z (by simp) (κ (by simp)),Z⟩,.inl Z,trivial⟩) Z Z) (AB Z Z (AD (AC (AC (AE (fZ Z Z ?_))))))));refine J (GF Z Z Z) (AD (Bx Z (Z) (AC (AE (fZ Z Z (AB Z Z (AD (A4 ?_))))))));exact ⟨_,[10],_,A2 Z,Z,Z,by rw [A],by rw [A];simp⟩
 | some k=>
  obtain ⟨L,B,C⟩:=List.findIdx?_eq_some_iff_getElem.1 hfi;have b:Kc Hm l=(k:Int):=by unfold Kc;rw [hfi]
  rw [b] at f
  have y:∀x∈l.take k,Hm x=false:=λx I=>by
   obtain ⟨j,U,rfl⟩:=jX.1 I;have:=C j (by omega)
   simpa using this
  rw [dx l] at f⊢;have K:gv (l.take (k+1))=l.take k:=by rw [XX L B,XY y]
  refine At func81 Z Z ntmps81 Z Z Z λF H=>(AC ?_);refine AE (AB Z Z (AD (AC (AE (fZ Z Z (fZ Z Z (J (EK [10] f (by exact ⟨.inr ⟨_,_,Z,.own Z Z (by simp) (κ (by simp)),Z⟩,.inl Z,trivial⟩) Z Z) (AB Z Z ?_))))))));refine AD (AC (AC (AE (fZ Z Z (J (GF Z Z Z) (AD (Cm Z ((gV (by omega))) (AX ?_))))))));refine AC (AC (AE (fZ Z Z (J (Al Z Z (AM (k+1) (by omega)) Z) (AB Z Z (AD (AZ (BO (α:=Nat×Nat×List (Option (List Nat))) (λq=>⟨42,[(0,(.own 10 0 l.length)),(1,(.d (.fn 82 [] []))),(5,(.d (AF (q.1:Int)))),(6,(.d (AF (q.2.1:Int))))],[(10,[.rowD 28 1 (q.2.2.map eO)])]⟩) (λq=>q.2.1<=l.length/\q.1<q.2.1/\q.2.2.length=l.length/\q.2.2.take q.1=(gv (l.take q.2.1)).map some/\q.2.2.drop q.2.1=(l.drop q.2.1).map some) (λq=>l.length - q.2.1) ((k,k+1,l.map some)) (⟨by show k+1<=_;omega,io _,by show (l.map some).length=_;simp,by show (l.map some).take k=_;rw [K,List.map_take],by show (l.map some).drop (k+1)=_;rw [List.map_drop]⟩) (AY H [10] Z Z E0) ?_))))))));rintro ⟨i,j,c⟩ ⟨N,O,g,o,s⟩;dsimp only at N O g o s⊢;refine AC (AC (AE (fZ Z Z (fZ Z Z (J (Qp Z ea Z) (J (BB Z Z Z) (AD (A9 Z (λw=>?_) (λw=>?_)))))))))
  .have a:j<l.length:=BR w;refine AX (AC (AZ (AC (AE ?_))));have D:j<c.length:=by omega
   have Q:c[j]=some l[j]:=by have R:(c.drop j)[0]? =((l.drop j).map some)[0]?:=by {rw [s]};rw [j1,ν,j1,iT,ω D,ω a] at R;injection R
   refine fZ Z Z (fZ Z Z (J (DB (j) Z Z (Z) (a) Z ea DD Z) (J (EA Z Z ((show (c.map eO)[j]? =some (fl l[j]) from by rw [ν,ω D,Q];rfl)) Z BL Z) ?_)));refine AB Z Z ?_;refine AD (AC (AE (fZ Z Z (fZ Z Z (J (LX (Xp l[j] (z _ (ξ a))) Z Z) (J (Jw Z Z) (AD (A9 Z (λv=>?_) (λv=>?_)))))))))
   .have u:Hm l[j]=false:=by unfold Hm;simpa using v
    refine AC (AE (fZ Z Z (fZ Z Z (fZ Z Z (J (DB (i) Z Z (Z) ((by omega)) Z ea DD Z) (V (FU (c) (some l[j]) Z Z Z Z Z Z (by omega) Z DD) (AD (AE ?_))))))));refine fZ Z Z (J (Al Z Z (AM (i+1) (by omega)) Z) (AB Z Z (AD (AE (fZ Z Z (J (Al Z Z (AM (j+1) (by omega)) Z) (AB Z Z (AD ?_))))))));exact ⟨(i+1,j+1,_),⟨by show j+1<=_;omega,by show i+1<j+1;omega,by show (c.set i (some l[j])).length=_;rw [gp];exact g,by show (c.set i (some l[j])).take (i+1)=(gv (l.take (j+1))).map some;rw [pX a u,Ω,<-o,ψ (by rw [gp];omega),List.getElem_set_self,List.take_set_of_le (Γ i)];rfl,by show (c.set i (some l[j])).drop (j+1)=(l.drop (j+1)).map some;rw [List.drop_set_of_lt (by omega),<-List.tail_drop,<-List.tail_drop,s,List.map_tail]⟩,by show l.length - (j+1)<l.length - j;omega,AY H [10] Z (Z) E0⟩
   .have u:Hm l[j]=true:=by unfold Hm;simpa using v
    refine AX (AE (fZ Z Z (J (Al Z Z (AM (j+1) (by omega)) Z) (AB Z Z (AD ?_)))));exact ⟨(i,j+1,c),⟨by show j+1<=_;omega,by show i<j+1;omega,g,by show c.take i=(gv (l.take (j+1))).map some;rw [XX a u,o],by show c.drop (j+1)=(l.drop (j+1)).map some;rw [<-List.tail_drop,<-List.tail_drop,s,List.map_tail]⟩,by show l.length - (j+1)<l.length - j;omega,AY H [10] Z (Z) E0⟩
  .refine Aw (AC ?_);have M:j=l.length:=by have h:=w;omega
   have t:c.take i=(gv l).map some:=by rw [o,M,gc]
   have E:i=(gv l).length:=by have h:=gG List.length t;rw [ϖ,χ] at h;omega
   refine AE (fZ Z Z (fZ Z Z (Mb (emb:=eO) (zd:=none) c i Z Z Z Z g.symm Z (by omega) ea DD zeroValue28 Z Z Z Z Z Z ?_)));refine AD (AC (AE (fZ Z Z (fZ Z Z (J (Gf (i) Z Z Z (by simp only [χ,Δ,ϖ,List.length_replicate];omega) Z ea DD Z) (AB Z Z (AD (A4 ?_))))))));exact ⟨_,[10],_,A2 Z,Z,Z,by rw [<-E],by rw [t,g,E,Ω,<-dx]⟩
end Go.Proofs.YteifpcnphnhaoaaGreat
namespace Go.Proofs.YteifpcnphnhaoaaGreat
end Go.Proofs.YteifpcnphnhaoaaGreat
namespace Go.Proofs.YteifpcnphnhaoaaGreat
open Go.RowKit
variable {a:Nat ->Nat ->Value} {c:Act} {w:World} {F:Fr} {f:Hp} {s:AS} {M:MF}
set_option maxRecDepth 100000
def nO (M:MF) (x y:D):Prop:=x=y\/∃h T zs,x=fy h zs.length/\BV M h T 1 zs/\(∀z∈zs,z.one=true)/\y= .sl none zs
theorem AW.melt (hs:SR F s a c w) {g:Nat} (S:fc s.hp g=some [.multi M]) (O:∀b,F.O a f b ->F.O a s.hp b)
  (N:∀i o b,fb s.hp g i=some o ->Bn (a g i)=some b ->¬F.O a f b) {x y:D} {v:Value} (hm:nO M x y) (H:AW w (F.O a f) x v):AW w (F.O a f) y v:=by
 rcases hm with rfl | ⟨h,T,C,rfl,l,G,rfl⟩
 .exact H
 .match h,l with
  | none,l=>
   have l:C=[]:=l;subst l
   cases H with
   | raw _=>exact .sl 0 (λb r=>nomatch r) (λ_=>rfl) Z (Γ _) (ζ _) (λx hx=>nomatch hx) (λh=>absurd Z h) (λb o r=>nomatch r)
  | some (b,j),l=>
   obtain ⟨hle,r⟩:=l
   cases H with
   | raw _=>
    obtain ⟨E,us,g1,U,g3⟩:=hs.rowN S r;obtain ⟨k,cap,e,Y,X,q3,W⟩:=H3 g1;injection e with e1 e2 e3
    subst e1 e3
    have K:∀z∈C,z.cells=[z]:=λz B=>by
     have h1:=G z B;have h2:=U.2.1 z B
     cases z with
     | agg cs=>simp [D.one] at h1
     | _=>rfl
    refine .sl 1 (λb r=>nomatch r) (λh=>nomatch h) Z Y X (λz B=>by rw [K z B];rfl) (λ_=>⟨b,0,Z⟩) (λb' o t i z J=>?_);injection t with t
    injection t with hb1 hb2
    subst hb1 hb2;have hil:i<C.length:=(φ.1 J).1;obtain ⟨b2,cur,A,R,r3,V⟩:=W (by omega);injection A with A
    injection A with A
    subst A;have I:b<w.heap.size:=(i6.1 R).1
    have hex:∀(q:Nat) j,z.cells[q]? =some j ->∃u,w.cell? ⟨b,0+i*1+q,none⟩=some u/\AW w (F.O a f) j u:=λq Q L=>by
     obtain ⟨u,d1,d2,d3⟩:=U.2.2 i z J q Q L;exact ⟨u,by rw [iR];exact Dk R V d1,d3.mono (Γ _) (λ_ _ _=>rfl) λb _=>O b⟩
    refine .ptr (λq=>(w.cell? ⟨b,0+i*1+q,none⟩).getD undef) I (N b _ b (by rw [G8 S,r];rfl) (by rw [E];rfl)) (g3 z (ϑ J)) (λq Q L=>?_) (λq Q L=>?_)
    .grind
    grind
theorem SR.melt (U:SR F s a c w) (g i b:Nat) {T:TypeId} {o B:List D} {v:List (Nat×AV)} {G A:Hp} (W:fc s.hp b=some [.multi M])
  (hE:A8 b s.env=some v) (hH:A7 b s.hp=some G) (hh:CY b G=some A) (V:fb A g i=some (.rowD T 1 o)) (l:B.length=o.length)
  (K:∀(j:Nat) x y,o[j]? =some x ->B[j]? =some y ->nO M x y) (I:(∀x∈o,x.one=true)/\∀y∈B,y.one=true) (C:B1 A g i (.rowD T 1 B)=some f):SR F ⟨s.n,v,f⟩ a c w:=by
 obtain ⟨X,O,N⟩:=U.forget b hE hH hh (λj t cs e=>by
  rw [G8 W] at e
  cases hm:M j with
  | none=>rw [hm] at e;cases e
  | some m=>rw [hm] at e;injection e with e;exact Ak.notBlk e)
 have k:∀z:D,z.one=true ->z.cells=[z]:=λz hz=>by
  cases z with
  | agg cs=>simp [D.one] at hz
  | _=>rfl
 refine X.write g i (.rowD T 1 o) (.rowD T 1 B) V (Ax C) Z Z Z Z (λ_ _=>rfl) (λ_ _ e=>nomatch e) λE=>?_;obtain ⟨Y,k1,R,k3⟩:=X.heap.sim g i _ V;refine ⟨Y,by rw [l];exact k1,⟨by rw [l];exact R.1,λy J=>by rw [k y (I.2 y J)];rfl,λj y L q h r=>?_⟩,λy J h r=>by rw [k y (I.2 y J),η] at r;rw [r];exact I.2 y J⟩;have H:j<o.length:=by rw [<-l];exact (φ.1 L).1
 have S:o[j]? =some o[j]:=ω H;rw [k y (I.2 y (ϑ L))] at r
 cases q with
 | succ q=>cases r
 | zero=>
  injection r with r
  subst r;obtain ⟨u,d1,d2,d3⟩:=R.2.2 j _ S 0 _ (by rw [k _ (I.1 _ (ξ H))];rfl);refine ⟨u,d1,d2,?_⟩;have h3:=AW.melt U W O N (K j _ _ S L) d3;have Q:=E (.d y) u (.d h3)
  cases Q with | d Q=>exact Q
section
variable {P:Program} {F:Fr} {Q:Exit ->AS ->Prop} {c:Code} {n:Nat} {env env':List (Nat×AV)} {hp hp1 hp2 hp':Hp}
theorem fF (g i f:Nat) {M:MF} {T:TypeId} {l:List D} (k:List D) (z:fc hp f=some [.multi M])
  (B:A8 f env=some env') (A:A7 f hp=some hp1) (v:CY f hp1=some hp2) (u:fb hp2 g i=some (.rowD T 1 l)) (b:k.length=l.length)
  (o:∀(j:Nat) x y,l[j]? =some x ->k[j]? =some y ->nO M x y) (C:(∀x∈l,x.one=true)/\∀y∈k,y.one=true) (a:B1 hp2 g i (.rowD T 1 k)=some hp') (h:CA P F c Q ⟨n,env',hp'⟩):CA P F c Q ⟨n,env,hp⟩:=
 λs r w t=>h s r w (t.melt g i f z B A v u b o C a)
end
theorem SR.weakRow {F:Fr} {s:AS} {I:Nat ->Nat ->Value} {B:Act} {w:World} (L:SR F s I B w) (g i:Nat) {T:TypeId} {f k:List D} {r:Hp} (M:fb s.hp g i=some (.rowD T 1 f)) (b:k.length=f.length)
  (E:∀(j:Nat) x y,f[j]? =some x ->k[j]? =some y ->∀w O v,AW w O x v ->AW w O y v) (A:(∀x∈f,x.one=true)/\∀y∈k,y.one=true) (l:B1 s.hp g i (.rowD T 1 k)=some r):SR F ⟨s.n,s.env,r⟩ I B w:=by
 have a:∀z:D,z.one=true ->z.cells=[z]:=λz R=>by
  cases z with
  | agg U=>simp [D.one] at R
  | _=>rfl
 refine L.write g i (.rowD T 1 f) (.rowD T 1 k) M (Ax l) Z Z Z Z (λ_ _=>rfl) (λ_ _ e=>nomatch e) λo=>?_;obtain ⟨N,Q,J,S⟩:=L.heap.sim g i _ M;refine ⟨N,by rw [b];exact Q,⟨by rw [b];exact J.1,λy C=>by rw [a y (A.2 y C)];rfl,λj y G q c h=>?_⟩,λy C c h=>by rw [a y (A.2 y C),η] at h;rw [h];exact A.2 y C⟩;have t:j<f.length:=by rw [<-b];exact (φ.1 G).1
 have K:f[j]? =some f[j]:=ω t;rw [a y (A.2 y (ϑ G))] at h
 cases q with
 | succ q=>cases h
 | zero=>
  injection h with h
  subst h;obtain ⟨u,d1,d2,d3⟩:=J.2.2 j _ K 0 _ (by rw [a _ (A.1 _ (ξ t))];rfl);refine ⟨u,d1,d2,?_⟩;have H:=o (.d y) u (.d (E j _ _ K G _ _ _ d3))
  cases H with | d H=>exact H
section
variable {P:Program} {F:Fr} {Q:Exit ->AS ->Prop} {c:Code} {n:Nat} {env:List (Nat×AV)} {hp hp':Hp}
theorem Qo (g i:Nat) {T:TypeId} {k:List D} (f:List D) (t:fb hp g i=some (.rowD T 1 k)) (b:f.length=k.length)
  (l:∀(j:Nat) x y,k[j]? =some x ->f[j]? =some y ->∀w O v,AW w O x v ->AW w O y v) (u:(∀x∈k,x.one=true)/\∀y∈f,y.one=true) (a:B1 hp g i (.rowD T 1 f)=some hp') (h:CA P F c Q ⟨n,env,hp'⟩):CA P F c Q ⟨n,env,hp⟩:=
 λr o w s=>h r o w (s.weakRow g i t b l u a)
end
variable {a:Nat ->List Nat} {c:Nat} {g:List (List Nat)} {f:Nat ->Nat} {h:List (List Int)} {i:Nat ->List Nat} {j:List (Nat×Nat)} {k:Nat} {S:TS} {o:Option Nat} {s:Nat} {t:List Nat} {u:Nat} {w:Nat ->Hd} {x:Nat} {y:List (Nat×Nat)} {z K:Nat ->Nat} {A:Nat ->Int} {B:Nat} {C:List (Nat×Nat)} {E:List Nat} {F G:Nat} {M:MF} {H:Nat}
structure NH (M:MF) (n:Nat) (hs:Nat ->Hd) (ls:Nat ->List Nat):Prop where
 at_:∀j,j<n ->BV M (hs j) 3 1 ((ls j).map AR)
 inj:∀j k b c c',j<n ->k<n ->hs j=some (b,c) ->hs k=some (b,c') ->j=k
abbrev hZ (n:Nat) (hs:Nat ->Hd) (ls:Nat ->List Nat):List D:=(List.range n).map λj=>fy (hs j) (ls j).length
theorem KJ (h:G<c):(hZ c w i)[G]? =some (fy (w G) (i G).length):=by simp [h]
theorem Fe (n:Nat) (b:Nat ->Hd) (a:Nat ->List Nat):(hZ n b a).length=n:=by simp
theorem Sq {h:Hd}:(hZ c w i).set G (fy h t.length)=hZ c (BE w G h) (BE i G t):=by grind [NM,HH,LO]
theorem NH.zero (n:Nat):NH (λ_=>none) n (λ_=>none) (λ_=> []):=⟨λ_ _=>rfl,λ_ _ _ _ _ _ _ h=>nomatch h⟩
theorem NH.app (h:NH M c w i) (E:G<c) {b:Nat} (H:Be M (w G) b=none) (F:(t.map AR).length<=B):
  NH (BZ (Be M (w G)) b (.row 3 1 B (t.map AR))) c (BE w G (some (b,B))) (BE i G t):=by
 have v:∀k,k<c ->k≠G ->∀f s,w k=some (f,s) ->f≠b/\BZ (Be M (w G)) b (.row 3 1 B (t.map AR)) f=M f:=by
  intro k g x f s e;have a:=h.at_ k g;rw [e] at a;have A:∀o,w G≠some (f,o):=λo u=>x (h.inj k G f s o g E e u);refine ⟨λI=>?_,?_⟩
  .subst I;have:=Ji a.2 A
   grind
  .rw [i3 H a.2 A,a.2]
 refine ⟨λk g=>?_,λk z L K J g y D u=>?_⟩
 .by_cases e:k=G
  .subst e;rw [LO,LO];exact ⟨F,Fu _ _ _⟩
  .rw [HH e,HH e];have a:=h.at_ k g
   match hh:w k,a with
   | none,a=>exact a
   | some (f,s),a=>exact ⟨a.1,by rw [(v k g e f s hh).2];exact a.2⟩
 .by_cases C:k=G<;>by_cases r:z=G
  .rw [C,r]
  .grind [LO,HH]
  .grind [LO,HH]
  .rw [HH C] at D;rw [HH r] at u;exact h.inj k z L K J g y D u
def dZ (n:Nat) (ls:Nat ->List Nat):List (List Nat):=(List.range n).map ls
theorem Un (n:Nat) (a:Nat ->List Nat):(dZ n a).length=n:=by simp [dZ]
theorem Tx (h:s<c):fe (dZ c i) s=i s:=by
 rw [Fa (by rw [Un];exact h)];simp [dZ]
theorem NH.melt (h:NH M c w i):∀(j:Nat) x y,(hZ c w i)[j]? =some x ->((dZ c i).map fl)[j]? =some y ->nO M x y:=by
 intro j x y b f;have g:j<c:=by have:=(φ.1 b).1;rwa [Fe] at this
 rw [KJ g] at b;injection b with b
 rw [Z2 (by rw [Un];exact g),Tx g] at f;injection f with f
 subst b f;exact .inr ⟨w j,3,(i j).map AR,by rw [χ],h.at_ j g,λz k=>by obtain ⟨a,_,rfl⟩:=Θ.1 k;rfl,Z⟩
theorem KS (n:Nat) (f:Nat ->Hd) (b:Nat ->List Nat):∀x∈hZ n f b,x.one=true:=λx c=>by
 obtain ⟨a,_,rfl⟩:=Θ.1 c;rfl
theorem cF (g:List (List Nat)):∀x∈g.map fl,x.one=true:=λx b=>by
 obtain ⟨a,_,rfl⟩:=Θ.1 b;rfl
theorem T3 (n:Nat):∀(j:Nat) x y,(List.replicate n (D.sl (some true) []))[j]? =some x ->(hZ n (λ_=>none) (λ_=> []))[j]? =some y ->∀w O v,AW w O x v ->AW w O y v:=by
 intro j x y a b w O v g;have f:j<n:=by have:=(φ.1 a).1;rwa [List.length_replicate] at this
 rw [KJ f] at b;injection b with b
 have c:x=D.sl (some true) []:=by rw [List.getElem?_replicate,ϱ f] at a;injection a with a;exact a.symm
 subst c b;exact g.nrm1
theorem Wz (n:Nat):∀x∈List.replicate n (D.sl (some true) []),x.one=true:=λx a=>by rw [(List.mem_replicate.1 a).2];rfl
theorem qN (g:List (List Nat)) (K:Nat ->Nat):∃a,Qt g K a/\∀y,¬DL g a y:=by
 have j:∀(m:Nat) (l:List Nat),Qt g K l ->g.length - l.length<=m ->∃a,Qt g K a/\∀y,¬DL g a y:=by
  intro m
  induction m with
  | zero=>
   intro l h t;refine ⟨l,h,λy c=>?_⟩;obtain ⟨A,w⟩:=JI h;have:=DI (jv.2 ⟨c.2.1,A⟩) (m:=List.range g.length) λx o=>Ψ.2 ((Υ.1 o).elim (λe=>e▸c.1) (w x))
   grind
  | succ m s=>
   intro l h t
   by_cases v:∃y,DL g l y
   .have f:∀(b:Nat) y,DL g l y ->K y<=b ->∃x,DL g l x/\∀z,DL g l z ->K x<=K z:=by
     intro b
     induction b with
     | zero=>intro y c B;exact ⟨y,c,λz _=>by omega⟩
     | succ b r=>
      grind
    obtain ⟨y,c⟩:=v;obtain ⟨x,o,k⟩:=f (K y) y c (Γ _);refine s (l++ [x]) (Tw h o k) ?_
    grind
   grind
 exact j _ [] (λi u=>by simp at u) (Γ _)
theorem Lh (g:List (List Nat)) (K:Nat ->Nat):Qt g K (hG g K)/\∀y,¬DL g (hG g K) y:=Classical.epsilon_spec (p:=λa=>Qt g K a/\∀y,¬DL g a y) (qN g K)
theorem lE {g:List (List Nat)} {K:Nat ->Nat} (h:k<(hG g K).length):fh (hG g K) k<g.length:=(JI (Lh g K).1).2 _ (Dt h)
theorem cD (g:List (List Nat)) (K:Nat ->Nat):(hG g K).length<=g.length:=by
 obtain ⟨c,b⟩:=JI (Lh g K).1;have:=DI c (m:=List.range g.length) λx a=>Ψ.2 (b x a)
 grind
def jz (of:Nat ->Nat) (n:Nat):Nat ->Nat ->Nat
 | 0=>λ_=>0
 | d+1=>BE (jz of n d) (of (n - 1 - d)) (n - 1 - d)
theorem I5 (a:Nat ->Nat) (n:Nat):∀d,d<=n ->∀c,(∃v,n - d<=v/\v<n/\a v=c) ->a (jz a n d c)=c/\jz a n d c<n/\∀v,n - d<=v ->v<n ->a v=c ->jz a n d c<=v
 | 0,_,c,⟨v,r,i,_⟩=>by omega
 | d+1,t,c,⟨v,r,i,h⟩=>by
  unfold jz
  by_cases e:c=a (n - 1 - d)
  .subst e;rw [LO];exact ⟨Z,by omega,λv o _ _=>by omega⟩
  .rw [HH e];have o:v≠n - 1 - d:=λf=>e (by rw [<-h,f]);obtain ⟨l,k,j⟩:=I5 a n d (by omega) c ⟨v,by omega,i,h⟩;refine ⟨l,k,λu s b g=>j u ?_ b g⟩;have:u≠n - 1 - d:=λf=>e (by rw [<-g,f]);omega
def Uw (of:Nat ->Nat) (n cnt:Nat):List Nat:=(List.range cnt).map (jz of n n)
theorem NS {cnt:Nat} (h:B<cnt):fh (Uw f c cnt) B=jz f c c B:=by grind [Uw,Pm]
theorem lW (a:Nat ->Nat) (n cnt:Nat):(Uw a n cnt).length=cnt:=by simp [Uw]
theorem bR (n:Nat) (f:Nat ->Nat):rowN n f=((List.range n).map f).map AR:=by rw [gZ];rfl
theorem pY {cnt:Nat} (h:hQ c a f cnt):∀g b,g<cnt ->b<cnt ->fh (Uw f c cnt) g=fh (Uw f c cnt) b ->g=b:=by
 intro g b k j e;rw [NS k,NS j] at e;obtain ⟨v,l,i⟩:=h.use g k;obtain ⟨u,r,o⟩:=h.use b j;have s:=(I5 f c c (Γ _) g ⟨v,by omega,l,i⟩).1
 grind [I5]
def Xi (of:Nat ->Nat) (a:Nat) (l:List Nat):List Nat:=(l.filter λx=>decide (of a≠of x)).map of
def NY (g:List (List Nat)) (of:Nat ->Nat) (i k c:Nat):List Nat:=((List.range i).flatMap λa=>if of a=c then Xi of a (fe g a) else [])++if of i=c then Xi of i ((fe g i).take k) else []
theorem dt (g:List (List Nat)) (a:Nat ->Nat):NY g a 0 0=λ_=> []:=by funext c;simp [NY,Xi]
theorem Xf (g:List (List Nat)) (a:Nat ->Nat) (i:Nat):NY g a i (fe g i).length=NY g a (i+1) 0:=by grind [NY,hU,Xi]
theorem UJ {a:Nat} (b:k<t.length):Xi f a (t.take (k+1))=Xi f a (t.take k)++if f a≠f (fh t k) then [f (fh t k)] else []:=by grind [Xi,ψ,Pm]
theorem du {of:Nat ->Nat} (a:k<(fe g s).length) (h:of s≠of (fh (fe g s) k)):BE (NY g of s k) (of s) (NY g of s k (of s)++ [of (fh (fe g s) k)])=NY g of s (k+1):=by grind [LO,NY,UJ,HH]
theorem dw {of:Nat ->Nat} (a:k<(fe g s).length) (h:¬of s≠of (fh (fe g s) k)):NY g of s k=NY g of s (k+1):=by
 funext c
 unfold NY;rw [UJ a,θ h,iC]
def J8 (g:List (List Nat)) (i:Nat):Nat:=((List.range i).map λa=>(fe g a).length).sum
theorem Xh (b:Nat ->Nat) (a:Nat) (l:List Nat):(Xi b a l).length<=l.length:=by unfold Xi;rw [χ];exact gz _ _
theorem Xg (g:List (List Nat)) (b:Nat ->Nat) (i k c:Nat):(NY g b i k c).length<=J8 g i+((fe g i).take k).length:=by
 have f:∀m,((List.range m).flatMap λa=>if b a=c then Xi b a (fe g a) else []).length<=J8 g m:=by
  intro m
  induction m with
  | zero=>exact ζ _
  | succ m h=>
   unfold J8 at h⊢;rw [hU,List.flatMap_append,Δ,Ω,jY,List.flatMap_singleton,List.map_singleton,List.sum_singleton]
   grind [Xh]
 grind [NY,Xh]
theorem Pr (g:List (List Nat)) {i j:Nat} (h:i<=j):J8 g i<=J8 g j:=by
 induction j with
 | zero=>
  have:i=0:=by omega
  subst this;exact Γ _
 | succ j a=>
  grind [J8,hU]
structure GT (g:List (List Nat)):Prop where
 gb:GB g
 tot:J8 g g.length<=1048576
def LA (g:List (List Nat)) (of:Nat ->Nat) (cnt:Nat):List (List Nat):=dZ cnt (NY g of g.length 0)
theorem qW {cnt:Nat} (o:GT g) (h:hQ g.length (fe g) f cnt):GB (LA g f cnt):=by
 have t:=o.gb.n;have s:=h.le;refine ⟨by rw [LA,Un];omega,λl i=>?_,λl i x b=>?_⟩
 .obtain ⟨c,_,rfl⟩:=Θ.1 i;have:=Xg g f g.length 0 c;have:=o.tot
  simp at*;omega
 .obtain ⟨c,_,rfl⟩:=Θ.1 i;rw [LA,Un]
  have j:∀a l,a<g.length ->(∀x∈l,x<g.length) ->x∈Xi f a l ->x<cnt:=λa l _ i b=>by
   unfold Xi at b;obtain ⟨y,k,rfl⟩:=Θ.1 b;exact h.lt y (i y (gS.1 k).1)
  unfold NY at b;rcases υ.1 b with b | b
  .obtain ⟨a,r,b⟩:=jQ.1 b
   split at b
   .exact j a _ (Ψ.1 r) (λy k=>o.gb.suc (Ψ.1 r) k) b
   .cases b
  grind [Xi]
def De (seq:List Nat):Nat ->Nat ->Nat
 | 0=>λ_=>0
 | k+1=>BE (De seq k) (fh seq k) k
theorem XK (a:List Nat) {cnt:Nat} (b:0<cnt) (f:a.length<=cnt):∀k,k<=a.length ->∀c,De a k c<cnt
 | 0,_,c=>b
 | k+1,g,c=>by
  unfold De
  by_cases e:c=fh a k
  .subst e;rw [LO];omega
  .rw [HH e];exact XK a b f k (by omega) c
noncomputable def iX (g:List (List Nat)) (of:Nat ->Nat) (cnt:Nat):List Nat:=hG (LA g of cnt) (fh (Uw of g.length cnt))
noncomputable def gR (g:List (List Nat)) (of:Nat ->Nat) (cnt:Nat):Nat ->Nat:=De (iX g of cnt) (iX g of cnt).length
def GD (no:Nat ->Nat) (i c:Nat):List Nat:=(List.range i).filter λv=>decide (no v=c)
def lK (of no:Nat ->Nat) (i v:Nat):Nat:=if v<i then no v else of v
theorem Yp (a:Nat ->Nat) (i:Nat):BE (GD a i) (a i) (GD a i (a i)++ [i])=GD a (i+1):=by grind [LO,GD,hU,HH]
theorem cA (a:Nat ->Nat) (i c:Nat):(GD a i c).length<=i:=by grind [GD]
theorem cJ (b a:Nat ->Nat) (i:Nat):BE (lK b a i) i (a i)=lK b a (i+1):=by grind [LO,lK,HH]
structure CN (n:Nat) (suc:Nat ->List Nat) (no:Nat ->Nat) (cnt:Nat):Prop where
 lt:∀v,v<n ->no v<cnt
 scc:∀i j,i<n ->j<n ->(no i=no j↔Rh suc i j/\Rh suc j i)
 use:∀c,c<cnt ->∃v,v<n/\no v=c
 top:∀u v,u<n ->v<n ->v∈suc u ->no u<=no v
 mn:∀c,c<cnt ->∀i,i<n ->c<=no i ->(∀k,k<n ->c<=no k ->Rh suc k i ->Rh suc i k) ->∃j,j<n/\no j=c/\j<=i
theorem CN.rh {cnt:Nat} (h:CN c a z cnt) (i:∀x,x<c ->∀y∈a x,y<c) (g:H<c) (j:Rh a H x):x<c/\z H<=z x:=by
 induction j with
 | refl=>exact ⟨g,Γ _⟩
 | step _ e b=>
  have f:=i _ b.1 _ e;exact ⟨f,gJ b.2 (h.top _ _ b.1 f e)⟩
theorem CN.crit {cnt:Nat} (h:CN c a z cnt) (f:∀v,v<c ->∀y∈a v,y<c) (j:s<c) (o:z s=B):∀k,k<c ->B<=z k ->Rh a k s ->Rh a s k:=λk b l g=>by
 have:=(h.rh f b g).2;exact ((h.scc s k j b).1 (by omega)).1
theorem oE (p:Nat ->Prop):∀(m x:Nat),p x ->x<=m ->∃y,p y/\∀z,p z ->y<=z:=by
 intro m
 induction m with
 | zero=>intro x a c;exact ⟨x,a,λz _=>by omega⟩
 | succ m b=>
  grind
theorem PA {n:Nat} {g:Nat ->List Nat} {t a:Nat ->Nat} {cnt f:Nat} (h:CN n g t cnt) (B:CN n g a f) (E:∀v,v<n ->∀y∈g v,y<n):
  ∀c,c<=cnt ->c<=f ->∀v,v<n ->∀d,d<c ->(t v=d↔a v=d)
 | 0,_,_,v,_,d,O=>by omega
 | c+1,S,R,v,s,d,O=>by
  have C:=PA h B E c (by omega) (by omega)
  by_cases e:d<c
  .exact C v s d e
  .have e:d=c:=by omega
   subst e
   have b:∀v,v<n ->(d<=t v↔d<=a v):=λv s=>by
    constructor
    .intro Q;rcases Nat.lt_or_ge (a v) d with r | r
     .have:=(C v s _ r).2 rfl;omega
     .exact r
    .intro Q;rcases Nat.lt_or_ge (t v) d with r | r
     .have:=(C v s _ r).1 rfl;omega
     .exact r
   obtain ⟨x,M,D⟩:=h.use d (by omega);obtain ⟨i,⟨A,l⟩,H⟩:=oE (λy=>y<n/\t y=d) x x ⟨M,D⟩ (Γ _);obtain ⟨j,G,w,N⟩:=B.mn d (by omega) i A ((b i A).1 (by omega)) λk u o F=>h.crit E A l k u ((b k u).2 o) F;obtain ⟨L,J,z,K⟩:=h.mn d (by omega) j G ((b j G).2 (by omega)) λk u o F=>B.crit E G w k u ((b k u).1 o) F;have:=H L ⟨J,z⟩;have I:i=j:=by omega
   subst I;rw [<-l,h.scc v i s A,l,<-w,B.scc v i s A]
theorem mS {f:Nat ->Nat} {cnt b:Nat} (h:CN c a z cnt) (g:CN c a f b) (o:∀v,v<c ->∀y∈a v,y<c):cnt=b/\∀v,v<c ->z v=f v:=by
 have i:∀{z f:Nat ->Nat} {cnt b:Nat},CN c a z cnt ->CN c a f b ->cnt<=b:=by
  intro z f cnt b h g;rcases Nat.lt_or_ge b cnt with k | l
  .obtain ⟨v,j,r⟩:=h.use b k;have s:=g.lt v j;have:=(PA h g o b (by omega) (Γ _) v j (f v) s).2 rfl;omega
  .exact l
 have e:cnt=b:=Nat.le_antisymm (i h g) (i g h);subst e;exact ⟨Z,λv j=>((PA h g o cnt (Γ _) (Γ _) v j (f v) (g.lt v j)).2 Z)⟩
theorem Rv {cnt x:Nat} (o:B<cnt):x∈fe (LA g f cnt) B↔∃a,a<g.length/\f a=B/\∃y∈fe g a,f a≠f y/\f y=x:=by
 rw [LA,Tx o];unfold NY Xi;rw [List.take_zero];simp only [List.filter_nil,List.map_nil,ite_self,iC,jQ,Ψ]
 constructor
 .rintro ⟨a,l,j⟩
  split at j
  .rename_i e
   obtain ⟨y,i,rfl⟩:=Θ.1 j;obtain ⟨h,b⟩:=gS.1 i;exact ⟨a,l,e,y,h,jS b,Z⟩
  .cases j
 .rintro ⟨a,l,e,y,i,k,rfl⟩;refine ⟨a,l,?_⟩;rw [ϱ e];exact Θ.2 ⟨y,gS.2 ⟨i,gQ k⟩,Z⟩
theorem XL {a:List Nat} (b:a.Nodup):∀m,m<=a.length ->∀k,k<m ->De a m (fh a k)=k
 | 0,_,k,c=>by omega
 | m+1,g,k,c=>by
  unfold De
  by_cases e:k=m
  .subst e;rw [LO]
  .rw [HH,XL b m (by omega) k (by omega)];rw [Pm (by omega),Pm (by omega)];intro f;exact e ((List.getElem_inj b).1 f)
theorem mN (O:GB g) {cnt:Nat} (h:hQ g.length (fe g) f cnt) {K:Nat ->Nat} {j:List Nat} (r:∀y,¬DL (LA g f cnt) j y):∀c,c<cnt ->c∈j:=by
 let Rc:Nat ->Nat ->Prop:=λd c=>∃u v,u<g.length/\v<g.length/\f u=d/\f v=c/\Rh (fe g) u v
 have dec:∀c,DecidablePred λd=>Rc d c:=λc d=>Classical.propDecidable _
 let b:Nat ->Nat:=λc=>((List.range cnt).filter λd=> @decide (Rc d c) (dec c d)).length
 have C:∀k c,k<cnt ->c∈fe (LA g f cnt) k ->b k<b c:=by
  intro k c G o;obtain ⟨a,s,rfl,y,w,E,rfl⟩:=(Rv G).1 o;have i:=O.suc s w
  have:=DI (l:=f y::(List.range cnt).filter λd=> @decide (Rc d (f a)) (dec (f a) d)) (m:=(List.range cnt).filter λd=> @decide (Rc d (f y)) (dec (f y) d)) (jv.2 ⟨λr=>by
   obtain ⟨_,J⟩:=gS.1 r;obtain ⟨u,v,B,A,M,L,D⟩:= @of_decide_eq_true _ (dec _ _) J;have R:=(h.scc u y B i).1 M;have I:=(h.scc v a A s).1 L
   exact E ((h.scc a y s i).2 ⟨Rh.one w,R.2.trans (D.trans I.1)⟩),List.nodup_range.filter _⟩) (λx z=>by
   rcases Υ.1 z with rfl | z
   .exact gS.2 ⟨Ψ.2 (h.lt y i), @decide_eq_true _ (dec _ _) ⟨y,y,i,i,Z,Z,.refl y⟩⟩
   .obtain ⟨S,J⟩:=gS.1 z;obtain ⟨u,v,B,A,M,L,D⟩:= @of_decide_eq_true _ (dec _ _) J;have I:=(h.scc v a A s).1 L
    exact gS.2 ⟨S, @decide_eq_true _ (dec _ _) ⟨u,y,B,i,M,Z,D.trans (I.1.trans (Rh.one w))⟩⟩)
  grind
 have t:∀(m c:Nat),b c<=m ->c<cnt ->c∈j:=by
  intro m
  induction m with
  | zero=>
   intro c Q o;refine Classical.byContradiction λF=>r c ⟨by rw [LA,Un];exact o,F,λk G _ H=>?_⟩
   grind [LA,Un]
  | succ m T=>
   intro c Q o;refine Classical.byContradiction λF=>r c ⟨by rw [LA,Un];exact o,F,λk G N H=>?_⟩
   grind [LA,Un]
 exact λc o=>t (b c) c (Γ _) o
theorem WL (hg:GT g) {cnt:Nat} (h:hQ g.length (fe g) f cnt):CN g.length (fe g) (λv=>gR g f cnt (f v)) cnt:=by
 obtain ⟨N,h2⟩:=Lh (LA g f cnt) (fh (Uw f g.length cnt));have W:hG (LA g f cnt) (fh (Uw f g.length cnt))=iX g f cnt:=rfl;rw [W] at N h2;have hM:∀c,gR g f cnt c=De (iX g f cnt) (iX g f cnt).length c:=λ_=>rfl;have r:=mN hg.gb h (K:=fh (Uw f g.length cnt)) h2;obtain ⟨C,o⟩:=JI N;have z:(LA g f cnt).length=cnt:=by rw [LA,Un]
 rw [z] at o
 obtain ⟨b,A⟩:∃b,iX g f cnt=b:=⟨_,Z⟩
 rw [A] at N h2 r C o;simp only [A] at hM
 have hlen:b.length=cnt:=Nat.le_antisymm (by have:=DI C (m:=List.range cnt) λx T=>Ψ.2 (o x T);rwa [gw] at this)
  (by have:=DI (List.nodup_range (n:=cnt)) (m:=b) λx T=>r x (Ψ.1 T);rwa [gw] at this)
 have G:∀k,k<cnt ->gR g f cnt (fh b k)=k:=λk t=>by rw [hM];exact XL C _ (Γ _) k (by omega)
 have l:∀c,c<cnt ->∃k,k<cnt/\fh b k=c/\gR g f cnt c=k:=λc F=>by
  obtain ⟨k,t,rfl⟩:=ii.1 (r c F)
  grind [Pm]
 have J:∀c d,c<cnt ->c<=gR g f cnt d ->d<cnt ->d∉b.take c:=λc d F hcd hd hm=>by
  obtain ⟨k,t,e⟩:=ii.1 hm;rw [ϖ] at t;rw [List.getElem_take,<-Pm (by omega)] at e
  grind
 refine ⟨λv B=>?_,λi j s hj=>?_,λc F=>?_,λu v V B he=>?_,λc F i s E hcr=>?_⟩
 .obtain ⟨k,t,_,e⟩:=l (f v) (h.lt v B);omega
 .rw [<-h.scc i j s hj]
  constructor
  .intro e;obtain ⟨k,_,O,e2⟩:=l (f i) (h.lt i s);obtain ⟨m,_,R,e4⟩:=l (f j) (h.lt j hj);have e:gR g f cnt (f i)=gR g f cnt (f j):=e;rw [<-O,<-R,show k=m by omega]
  .intro e;show gR g f cnt (f i)=gR g f cnt (f j);rw [e]
 .obtain ⟨v,B,e⟩:=h.use (fh b c) (o _ (Dt (by omega)));exact ⟨v,B,by show gR g f cnt (f v)=c;rw [e];exact G c F⟩
 .show gR g f cnt (f u)<=gR g f cnt (f v)
  by_cases e:f u=f v
  .rw [e];exact Γ _
  .obtain ⟨p,hp,O,e2⟩:=l (f v) (h.lt v B);have w:=(N p (by omega)).1;rw [O] at w;have D:f u∈b.take p:=Classical.byContradiction λhn=>w.2.2 (f u) (by rw [z];exact h.lt u V) hn ((Rv (h.lt u V)).2 ⟨u,V,Z,v,he,e,Z⟩);obtain ⟨k,t,R⟩:=ii.1 D;rw [ϖ] at t;rw [List.getElem_take,<-Pm (by omega)] at R;rw [<-R,G k (by omega),e2];omega
 .have E:c<=gR g f cnt (f i):=E
  have w:DL (LA g f cnt) (b.take c) (f i):=by
   refine ⟨by rw [z];exact h.lt i s,J c _ F E (h.lt i s),λk t Y D=>?_⟩;rw [z] at t;obtain ⟨a,Q,rfl,y,hy,X,I⟩:=(Rv t).1 D;have S:=hg.gb.suc Q hy
   have hca:c<=gR g f cnt (f a):=by
    rcases Nat.lt_or_ge (gR g f cnt (f a)) c with hl | hl
    .obtain ⟨m,hm,O,e2⟩:=l (f a) (h.lt a Q);exact (Y (ii.2 ⟨m,by rw [ϖ];omega,by rw [List.getElem_take,<-Pm (by omega)];exact O⟩)).elim
    .exact hl
   have H:=(h.scc y i S s).1 I;have M:Rh (fe g) a i:=(Rh.one hy).trans H.1;have:=(h.scc a i Q s).2 ⟨M,hcr a Q hca M⟩;exact X (by rw [this,I])
  have hK:=(N c (by omega)).2 _ w;have L:fh b c<cnt:=o _ (Dt (by omega));rw [NS L,NS (h.lt i s)] at hK;obtain ⟨v,B,U⟩:=h.use _ L;obtain ⟨q1,q2,_⟩:=I5 f g.length g.length (Γ _) (fh b c) ⟨v,by omega,B,U⟩;obtain ⟨_,_,q3⟩:=I5 f g.length g.length (Γ _) (f i) ⟨i,by omega,s,Z⟩;exact ⟨_,q2,by show gR g f cnt (f _)=c;rw [q1];exact G c F,gJ hK (q3 i (by omega) s Z)⟩
abbrev X5 (l:List Int):D:= .sl none (l.map AF)
abbrev nz (g:List (List Int)):D:= .sl none (g.map X5)
def LT (g:List (List Int)) (i:Nat):Nat:=((g.take i).map List.length).sum
def Zj (n:Nat) (l:List Int):Prop:=∃x∈l,¬(0<=x/\x<(n:Int))
instance (n:Nat) (l:List Int):Decidable (Zj n l):=inferInstanceAs (Decidable (∃x∈l,¬(0<=x/\x<(n:Int))))
def U5 (g:List (List Int)):Int:=if 65536<g.length\/1048576<LT g g.length then 8 else if ∃l∈g,Zj g.length l then 2 else 0
theorem LS (a:s<h.length):LT h (s+1)=LT h s+h[s].length:=by
 unfold LT;rw [ψ a,Ω,jY];simp
theorem W3 {g:List (List Int)} (h:∀l∈g,l.length<=2000000):∀i,i<=g.length ->LT g i<=i*2000000
 | 0,_=>by simp [LT]
 | i+1,a=>by
  have:=W3 h i (by omega);have:=h g[i] (ξ (by omega));rw [LS (by omega)];omega
theorem ue {l:List Int} (h:k<l.length):(l.map AF)[k]? =some (AF l[k]):=A5 h
theorem oD (a:s<h.length):(h.map X5)[s]? =some (X5 h[s]):=A5 a
theorem tQ (a:65536<h.length\/1048576<LT h h.length):(8:Int)=U5 h:=by unfold U5;rw [ϱ a]
theorem tR (c:¬65536<h.length) (b:¬1048576<LT h h.length) (a:∃l∈h,Zj h.length l):(2:Int)=U5 h:=by grind [U5]
theorem tS (c:¬65536<h.length) (b:¬1048576<LT h h.length) (a:¬∃l∈h,Zj h.length l):(0:Int)=U5 h:=by grind [U5]
theorem ed (g:List (List Int)) (R:g.length<=1000000) (w:∀l∈g,l.length<=2000000):AK prog 133 [.d (nz g)] (AF (U5 g)):=by
 refine At func133 Z Z ntmps133 Z Z Z λF V=>(AC (AE (AB Z Z (AD (AC (AE (AB Z Z (AD ?_))))))));refine AC (AC (AE (fZ Z Z (J (JZ Z (χ ..) dd Z) (fZ Z Z (AD (AZ (G7 (α:=Nat) (λk=>⟨50,[(0,.d (nz g)),(3,(.d (AR (LT g k)))),(10,(.d (nz g))),(11,(.d (AR g.length))),(12,(.d (AR k)))],[]⟩) (λk=>k<=g.length) (λk=>g.length - k) (0) (ζ _) (Zz F0) ?_))))))));intro k S;refine AC (AE (J (BB Z Z Z) (AD (AC (A9 Z (λs=>?_) (λs=>?_))))))
 .refine AX (AC (AZ (AC ?_)));have c:k<g.length:=BR s;have Q:=W3 w k (by omega);have B:=w _ (ξ c);have O:=LS c;refine AE (J (BJ (k) Z Z (Z) (oD c) dd Z DD Z) (J (CI Z Z BL Z) (AB Z Z (AD (AE (fZ Z Z (fZ Z Z ?_)))))));refine J (JZ Z (χ ..) ch Z) (J (Al Z Z (Ξ _ (by omega)) Z) (Pa 19 (.d (AR (LT g (k+1)))) Z (eqv (gG AF (by omega))) (AB Z Z (AD (AE (J (Al Z Z (Ξ _ (by omega)) Z) (fZ Z Z (AD ?_))))))));exact ⟨k+1,by omega,by omega,⟨Z,Z,λ_ _=>SU.get (l:=[(0,_),(3,_),(10,_),(11,_),(12,_)]) F0⟩⟩
 .refine Aw (AC (AC ?_));have E:k=g.length:=by have:=s;omega
  subst E;refine AE (fZ Z Z (J (JZ Z (χ ..) dd Z) (J (HF Z Z Z) (fZ Z Z (C3 24 Z (λM=>?_) (λM=>?_))))))
  .refine AL Z Z Z Z ?_;refine AL Z Z Z Z (J (B5 Z Z Z Z) (AD (Bx Z Z (AC (AE (AB Z Z (AD (A4 ?_))))))));exact ⟨_,[],[],A2 Z,Z,Z,eqv (gG AF (tQ (by omega))),Z⟩
  .refine AQ Z Z Z (fZ Z Z (AQ Z Z Z (J (HF Z Z Z) (J (Bk Z Z Z Z) (AD (A9 Z (λL=>?_) (λL=>?_)))))))
   .refine AC (AE (AB Z Z (AD (A4 ?_))));exact ⟨_,[],[],A2 Z,Z,Z,eqv (gG AF (tQ (by omega))),Z⟩
   .refine AX (AC (AC ?_));have h:¬65536<g.length:=by omega
    have f:¬1048576<LT g g.length:=by omega
    refine AE (fZ Z Z (J (JZ Z (χ ..) dd Z) (fZ Z Z (AD (AZ (G7 (α:=Nat) (λi=>⟨50,[(0,.d (nz g)),(28,(.d (nz g))),(29,(.d (AR g.length))),(30,(.d (AR i)))],[]⟩) (λi=>i<=g.length/\∀l∈g.take i,¬Zj g.length l) (λi=>g.length - i) (0) (⟨ζ _,λl w=>by simp at w⟩) (Zz E0) ?_))))));rintro i ⟨U,N⟩;refine AC (AE (J (BB Z Z Z) (AD (AC (A9 Z (λr=>?_) (λr=>?_))))))
    .refine AX (AC (AZ (AC ?_)));have a:i<g.length:=BR r;have B:=w _ (ξ a);refine AE (J (BJ (i) Z Z (Z) (oD a) dd Z DD Z) (J (CI Z Z BL Z) (AB Z Z ?_)));refine AD (AC (AE (fZ Z Z (J (JZ Z (χ ..) ch Z) (fZ Z Z (AD (AZ (G7 (α:=Nat) (λj=>⟨50,[(0,.d (nz g)),(28,(.d (nz g))),(29,(.d (AR g.length))),(30,(.d (AR i))),(34,(.d (X5 g[i]))),(35,(.d (AR g[i].length))),(36,(.d (AR j)))],[]⟩) (λj=>j<=g[i].length/\∀x∈g[i].take j,0<=x/\x<(g.length:Int)) (λj=>g[i].length - j) (0) (⟨ζ _,λx y=>by simp at y⟩) (Zz Ri) ?_))))))));rintro j ⟨T,y⟩;refine AC (AE (J (BB Z Z Z) (AD (AC (A9 Z (λo=>?_) (λo=>?_))))))
     .refine AX (AC (AZ (AC ?_)));have b:j<g[i].length:=BR o;refine AE (J (BJ (j) Z Z (Z) (ue b) ch Z BU Z) ?_);refine J (CI Z Z An Z) (AB Z Z (AD (AC (AE (fZ Z Z (J (BB Z Z Z) (fZ Z Z (C3 42 Z (λK=>?_) (λK=>?_)))))))))
      .refine AL Z Z Z Z (AL Z Z Z Z (AL Z Z Z Z ?_));refine AL Z Z Z Z (J (B5 Z Z Z Z) (AD (Bx Z Z (AC (AE (AB Z Z (AD (A4 ?_))))))));exact ⟨_,[],[],A2 Z,Z,Z,eqv (gG AF (tR h f ⟨g[i],ξ a,g[i][j],ξ b,by omega⟩)),Z⟩
      .refine AQ Z Z Z (fZ Z Z ?_);refine AQ Z Z Z (fZ Z Z (AQ Z Z Z (J (JZ Z (χ ..) dd Z) (AQ Z Z Z (J (EJ Z Z Z) (J (Bk Z Z Z Z) (AD (A9 Z (λI=>?_) (λI=>?_)))))))))
       .refine AC (AE (AB Z Z (AD (A4 ?_))));exact ⟨_,[],[],A2 Z,Z,Z,eqv (gG AF (tR h f ⟨g[i],ξ a,g[i][j],ξ b,by omega⟩)),Z⟩
       .refine AX (AE (J (Al Z Z (Ξ _ (by omega)) Z) (fZ Z Z (AD ?_))));exact ⟨j+1,⟨by omega,λx t=>by rw [ψ b] at t;exact (υ.1 t).elim (y x) λe=>by rw [η.1 e];exact ⟨by omega,by omega⟩⟩,by omega,⟨Z,Z,λ_ _=>SU.get (l:=[(0,_),(28,_),(29,_),(30,_),(34,_),(35,_),(36,_)]) Ri⟩⟩
     .refine Aw ?_;have G:j=g[i].length:=by have:=o;omega
      have u:¬Zj g.length g[i]:=λ⟨x,A,z⟩=>z (y x (by rw [G,gc];exact A));refine AE (J (Al Z Z (Ξ _ (by omega)) Z) (fZ Z Z (AD ?_)));exact ⟨i+1,⟨by omega,λl v=>by rw [ψ a] at v;exact (υ.1 v).elim (N l) λe=>by rw [η.1 e];exact u⟩,by omega,⟨Z,Z,λ_ _=>SU.get (l:=[(0,_),(28,_),(29,_),(30,_)]) E0⟩⟩
    .refine Aw (AC (AE (AB Z Z (AD (A4 ?_)))));have H:i=g.length:=by have:=r;omega
     exact ⟨_,[],[],A2 Z,Z,Z,eqv (gG AF (tS h f (λ⟨l,D,C⟩=>N l (by rw [H,gc];exact D) C))),Z⟩
theorem W7 (h:TB c a u S j x k) (s:k=(a x).length) (t:S.low x≠S.idx x):
  ∃f b g,j=f++ [(b,g)]/\TH c a u {S with low:=BE S.low b (min (S.low b) (S.low x)),cs:=j} none:=by
 subst s;have i:=VI h;have o:=(h.ti.lw x i.2.1).1;obtain ⟨f,b,g,e,l⟩:=kV h.ti h.hcs (by omega);exact ⟨f,b,g,e,l,h.k1,h.old,.inl h.rt⟩
theorem W6 {gD gC:List Nat} (h:TB c a u S j x k) (t:k=(a x).length) (s:S.low x=S.idx x) (l:S.st=gD++x::gC):
  TH c a u {S with of:=λb=>if b∈x::gC then (S.cnt:Int) else S.of b,st:=gD,cs:=j,cnt:=S.cnt+1} none/\∀g f i,j=g++ [(f,i)] ->BE S.low f (min (S.low f) (S.low x))=S.low:=by
 subst t;obtain ⟨y,w⟩:=kU h.ti h.hcs s l;refine ⟨⟨w,h.k1,h.old,.inl h.rt⟩,λg f i e=>funext λb=>?_⟩
 by_cases o:b=f
 .subst o;have:=y (b,i) (by rw [e];exact iy _ (η.2 Z));rw [LO]
  grind
 .rw [HH o]
theorem o9 {b:Nat} (h:TB c a u S (y++ [(H,b)]) x k):H<c/\x≠H:=by
 have g:(H,b)∈S.cs:=by rw [h.hcs];exact jN _ (iy _ (η.2 Z))
 refine ⟨h.ti.lt H ((h.ti.st H).1 (h.ti.csm _ g)).1,λe=>?_⟩;have f:=h.ti.css;rw [h.hcs] at f
 grind
theorem a7 {gD gC:List Nat} (h:TI c a S o) (b:S.st=gD++x::gC):x∉gC:=by
 have f:=h.srt;rw [b,List.pairwise_append] at f;intro g;exact jk _ ((jA.1 f.2.1).1 x g)
theorem tJ {m j:List (Nat×Nat)} {x:Nat×Nat} (h:k=C.length):((C++ [x]++m++j).map Z4)[k]? =some (Z4 x):=by
 subst h;simp
theorem ud {a c j:List Nat} (h:k=(a++c).length):((a++(c++ [F])++j).map AR)[k]? =some (AR F):=by grind
theorem sh:(ID c (λx=>if x∈E then (B:Int) else A x)).set F (AR B)=ID c (λx=>if x∈F::E then (B:Int) else A x):=by grind [NM]
theorem bi {a gC:List Nat} (h:a++ [F]++E=x::gC) (b:F≠x):a++F::E=x::gC/\a≠ []:=by grind
theorem kr {b gC:List Nat} (h:b++ [F]++E=x::gC) (f:F=x) (g:x∉gC):b=[]/\E=gC:=by
 subst f
 cases b with
 | nil=>simp at h;exact ⟨Z,h⟩
 | cons a c=>
  grind
theorem Qh {c:Type} {l:List c} (h:l≠ []):∃a b,l=a++ [b]:=by
 rcases List.eq_nil_or_concat l with e | ⟨a,b,e⟩
 .grind
 grind
theorem kZ {g:List Nat} (h:TH c a u S o) (l:S.cs=j++ [(x,k)]/\o=none) (i:∃f,g=S.st++f):
  ∃b:TS,mu c a b=mu c a S/\TB c a u b j x k/\S.idx=b.idx/\S.low=b.low/\S.of=b.of/\S.st.length=b.st.length/\S.cnt=b.cnt/\S.clk=b.clk/\∃f,g=b.st++f:=by grind [oa]
theorem aw (h:TI c a S o):S.st.length<=c:=by
 have:=h.num;have:=(S8 h).1;omega
theorem TT {f:Nat ->Nat} (h:∀v,v<s ->f v≠0) (a:f s≠0):∀v,v<s+1 ->f v≠0:=by grind
theorem kY (h:TI c a S none) (g:S.cs=[]) (j:s<c) (l:S.idx s=0) (b:∀v,v<s ->S.idx v≠0):TH c a s S (some s):=
 ⟨kT h g j l,λf k=>(by rw [g] at k;cases k),b,.inr Z⟩
theorem tL (h:TI c a S o) (e:S.cs++pend o=C):C.length<=c+1:=by
 have f:=(S8 h).2;have b:=aw h;rw [<-e,Δ];have:(pend o).length<=1:=by cases o<;>simp [pend]
 omega
theorem aY (h:TH c a u S o) (b:S.cs++pend o=[]):TI c a S none/\S.cs=[]/\S.idx u≠0:=by
 cases o with
 | some v=>simp [pend] at b
 | none=>exact ⟨h.ti,by simpa [pend] using b,h.rt.resolve_right λe=>nomatch e⟩
structure PF (n:Nat) (suc:Nat ->List Nat) (r:Nat) (S:TS) (cs0:List (Nat×Nat)) (v:Nat) (low:Nat ->Nat):Prop where
 a:low v=S.low v
 b:low v≠S.idx v ->TH n suc r {S with low:=low,cs:=cs0} none
 c:∀gD gC,low v=S.idx v ->S.st=gD++v::gC ->TH n suc r {S with low:=low,of:=λx=>if x∈v::gC then (S.cnt:Int) else S.of x,st:=gD,cs:=cs0,cnt:=S.cnt+1} none
theorem lA {j:Nat} (h:TB c a u S (y++ [(H,j)]) x k) (l:k=(a x).length) (f:x≠H):
  ∃b,BE S.low H (min (S.low H) (S.low x))=b/\PF c a u S (y++ [(H,j)]) x b:=by
 refine ⟨_,Z,⟨HH f,λi=>?_,λgD gC i g=>?_⟩⟩
 .grind [HH,W7,List.append_inj_right']
 .rw [HH f] at i;obtain ⟨s,o⟩:=W6 h l i g
  grind
theorem lB (h:TB c a u S j x k) (i:k=(a x).length) (w:j=[]):
  ∃b,S.low=b/\PF c a u S j x b:=by
 refine ⟨_,Z,⟨Z,λg=>?_,λgD gC g f=>(W6 h i g f).1⟩⟩;obtain ⟨o,s,l,e,t⟩:=W7 h i g
 simp_all
theorem o5 (a:∀v,v<k ->A v= -1):∀v,v<k+1 ->BE A k (-1) v= -1:=by grind [LO,HH]
set_option maxHeartbeats 1000000 in
theorem UU (g:List (List Nat)) (hg:GB g):AO prog 180 [.d (Mf g)] [] λr H'=>∃of cnt,hQ g.length (fe g) of cnt/\r= .tup [.own 2 0 g.length,.d (AR cnt)]/\H'=[(2,[.rowD 3 1 (rowN g.length of)])]:=by
 have hn:=hg.n;refine At func180 Z Z ntmps180 Z Z Z λF Q=>(AC (AE (AB Z Z (AB Z Z (AD (AC (AE (fZ Z Z ?_))))))));refine J (JZ Z (χ ..) dd Z) (AB Z Z (AD (AC (CZ [[],[0],[],[2],[],[4],[0,1],[0,1,2,3,6],rg 8] mixed Z (CG (Av 4 Z Z (HC [21] [0] [(22,_)] Z Z (λ_=>HD (FH 0 BP Z Z Z (by omega) oY Z Z Z Z)) (.inr ⟨22,_,Z,Z,Z,Z,Z⟩) Z Z Z Z Z (Av 4 Z Z ?_))))))));refine HC [23] [1] [(24,_)] Z Z (λ_=>HD (FH 1 BP Z Z Z (by omega) oY Z Z Z Z)) (.inr ⟨24,_,Z,Z,Z,Z,Z⟩) Z Z Z Z Z (Av 4 Z Z (HC [25] [2] [(26,_)] Z Z (λ_=>HD (FH 2 BP Z Z Z (by omega) oY Z Z Z Z)) (.inr ⟨26,_,Z,Z,Z,Z,Z⟩) Z Z Z Z Z (AU [22] Z (Iy Z Z) (AU [24] Z (Iy Z Z) (CB 8 Z Z Z (Ad 9 Z Z (AB Z Z (AD ⟨Z,?_⟩))))))));refine CM (AC (AC ?_));rw [uQ];refine AE (fZ Z Z (J (Qp Z ch Z) (fZ Z Z (AD (AZ (BO (α:=Nat×(Nat ->Int)) (λq=>⟨214,[(0,.d (Mf g)),(5,(.own 0 0 g.length)),(6,(.own 1 0 g.length)),(7,(.own 2 0 g.length)),(28,(.d (AR g.length))),(29,(.d (AR q.1)))],[(0,[.rowD 3 1 (ID g.length λ_=>0)]),(1,[.rowD 3 1 (ID g.length λ_=>0)]),(2,[.rowD 3 1 (ID g.length q.2)])]⟩) (λq=>q.1<=g.length/\∀v,v<q.1 ->q.2 v= -1) (λq=>g.length - q.1) ((0,λ_=>0)) (⟨ζ _,λv h=>absurd h (Nat.not_lt_zero _)⟩) (AY Q [0,1,2] Z Z No) ?_))))));rintro ⟨k,f⟩ ⟨hk,hf⟩;dsimp only at hk hf⊢;refine AC (AE (J (BB Z Z Z) (AD (AC (A9 Z (λh30=>?_) (λh30=>?_))))))
 .refine AX (AC (AZ (AC ?_)));have A:k<g.length:=BR h30;refine AE (fZ Z Z (AB Z Z (AD (AE ?_))));refine fZ Z Z (fZ Z Z (J (DB (k) Z Z (Z) (A) Z ch BU Z) (V (Xx Z Z Z Z Z (by rw [Sp];exact A) bS Z BU) (AD (AE (J (Al Z Z (Ξ _ (by omega)) Z) (fZ Z Z (AD ?_))))))));exact ⟨(k+1,BE f k (-1)),⟨A,o5 hf⟩,by show g.length - (k+1)<g.length - k;omega,AY Q [0,1,2] Z (Z) No⟩
 .refine Aw (AC ?_);have hke:k=g.length:=by have:=h30;omega
  subst hke;have hfe:ID g.length f=ID g.length (λ_=> -1):=gi λv hv=>by rw [hf v (Ψ.1 hv)]
  rw [hfe];refine AE (AB Z Z ?_);skip;refine AD (AC (AE (AB Z Z (AB Z Z (AD (AC ?_))))));refine AC (AE (fZ Z Z (J (JZ Z (χ ..) dd Z) (fZ Z Z (AD (AZ (NG 9 3 BP Z Z Z Z (BO (α:=Nat×TS×List Nat) (λq=>⟨214,[(0,.d (Mf g)),(5,(.own 0 0 g.length)),(6,(.own 1 0 g.length)),(7,(.own 2 0 g.length)),(9,(.own 3 0 q.2.1.st.length)),(10,(.d (AR q.2.1.cnt))),(11,(.d (AR q.2.1.clk))),(37,(.d (AR g.length))),(38,(.d (AR q.1)))],[(0,[.rowD 3 1 (rowN g.length q.2.1.idx)]),(1,[.rowD 3 1 (rowN g.length q.2.1.low)]),(2,[.rowD 3 1 (ID g.length q.2.1.of)]),(3,[.rowD 3 1 (q.2.2.map AR)])]⟩) (λq=>q.1<=g.length/\TI g.length (fe g) q.2.1 none/\q.2.1.cs=[]/\(∀v,v<q.1 ->q.2.1.idx v≠0)/\∃W,q.2.2=q.2.1.st++W) (λq=>g.length - q.1) ((0,⟨λ_=>0,λ_=>0,λ_=> -1,[],[],0,0⟩,[])) (⟨ζ _,kS _ _,Z,λv h=>absurd h (Nat.not_lt_zero _),[],Z⟩) (AY Q [0,1,2,3] Z Z b0) ?_))))))));rintro ⟨i,S,E⟩ ⟨hi,hti,hcs,I,C⟩;dsimp only at hi hti hcs I C⊢;refine AC (AE (J (BB Z Z Z) (AD (AC (A9 Z (λh39=>?_) (λh39=>?_))))))
  .refine AX (AC (AZ (AC ?_)));have hil:i<g.length:=BR h39;refine AE (fZ Z Z (AB Z Z (AD (AC ?_))));refine AC (AE (fZ Z Z (fZ Z Z (J (DB (i) Z Z (Z) (hil) Z ch BU Z) (J (EA Z Z (Na hil) Z An Z) (J (Cw Z Z Z) (AD (A9 Z (λh45=>?_) (λh45=>?_)))))))))
   .refine Aw ?_
    first | have hE:=aY y (hfr▸List.length_eq_zero_iff.1 (by omega)) | skip
    refine AE (J (Al Z Z (Ξ _ (by omega)) Z) (fZ Z Z (AD ?_)));exact ⟨(i+1,S,E),⟨hil,hti,hcs,TT I (λe2=>h45 (gG Int.ofNat e2)),C⟩,by show g.length - (i+1)<g.length - i;omega,AY Q [0,1,2,3] Z (Z) b0⟩
   .refine AX (AC ?_);have h0:S.idx i=0:=Int.ofNat.inj (Classical.not_not.1 h45);refine AE (fZ Z Z (J (FD nS ng Z Z Z) (V (C5 4 bE Z Z Z Z Z Z Z Z) (AB Z Z (AD (AZ (BO (α:=TS×Option Nat×List (Nat×Nat)×List Nat×List (Nat×Nat)) (λq=>⟨214,[(0,.d (Mf g)),(5,(.own 0 0 g.length)),(6,(.own 1 0 g.length)),(7,(.own 2 0 g.length)),(9,(.own 3 0 q.1.st.length)),(10,(.d (AR q.1.cnt))),(11,(.d (AR q.1.clk))),(13,(.own 4 0 q.2.2.1.length)),(37,(.d (AR g.length))),(38,(.d (AR i)))],[(0,[.rowD 3 1 (rowN g.length q.1.idx)]),(1,[.rowD 3 1 (rowN g.length q.1.low)]),(2,[.rowD 3 1 (ID g.length q.1.of)]),(3,[.rowD 3 1 (q.2.2.2.1.map AR)]),(4,[.rowD 318 2 (q.2.2.2.2.map Z4)])]⟩) (λq=>TH g.length (fe g) i q.1 q.2.1/\q.2.2.1=q.1.cs++pend q.2.1/\(∃W,q.2.2.2.1=q.1.st++W)/\∃U,q.2.2.2.2=q.2.2.1++U) (λq=>mu g.length (fe g) q.1) ((S,some i,[(i,0)],E,[(i,0)])) (⟨kY hti hcs hil h0 I,by rw [hcs];rfl,C,[],Z⟩) (AY Q [0,1,2,3,4] Z Z T1) ?_)))))));rintro ⟨S,p,fr,E,r4⟩ ⟨y,hfr,C,U,hr4⟩;dsimp only at y hfr C hr4⊢;have hclk:=S8 y.ti;refine AC (AC (AE (fZ Z Z (J (Qp Z fX Z) (J (HF Z Z Z) (AD (A9 Z (λh51=>?_) (λh51=>?_))))))))
    .refine AX (AZ (AC ?_));have hne:S.cs++pend p≠ []:=λe=>by rw [hfr,e] at h51;exact absurd h51 (by decide)
     obtain ⟨o,v,k,hcs2,s,hk0,hk1⟩:=kX y hne;have hfrl:=tL y.ti hcs2;have hfr2:=hfr.trans hcs2;subst hfr2;have hlen1:(((o++ [(v,k)]).length:Nat):Int) - 1=(o.length:Int):=by simp
     have hlen2:o.length<(o++ [(v,k)]).length:=by simp
     subst hr4;refine AE (fZ Z Z (fZ Z Z (J (Qp Z fX Z) (J (PS Z Z (Ξ _ (by omega)) Z) (J (DB (o.length) Z Z (hlen1) (hlen2) Z fX a9 Z) (AB Z Z (AD (AC ?_))))))));refine AC (AE (fZ Z Z (J (Zr Z Z) (J (YA Z Ki Z Z Z) (J (EA Z Z (Lx Z) Z An Z) (J (GF Z Z Z) (AD (A9 Z (λh61=>?_) (λh61=>?_)))))))));refine AC ?_;obtain ⟨hcs3,hp3⟩:=hk0 (Int.ofNat.inj h61);have hcl:=hclk.1;refine AE (fZ Z Z (J (Al Z Z (Ξ _ (by omega)) Z) (Pa 63 (.d (AR (S.clk+1))) Z (eqv (gG AF (by omega))) (AB Z Z (AD (AC (CZ [[],[],[1],[1,2],[1,2,3],[],[],[6],[6,7],[6,7,8],[],[],[0,1,2,3,4,6,7,8,9,10],[0,1,2,3,4,6,7,8,9,10,12],rg 14,rg 15] mixed Z (CG ?_))))))));refine Av 5 Z Z (Av 14 Z Z (AU [65] Z (Zr Z Z) (AU [66] Z (YA Z FN Z Z Z) (Au [67] Z Z (λ_=>Ae (EA Z Z (Lx Z) Z An Z)) (Av 6 Z Z (Av 14 Z Z (AU [70] Z (Zr Z Z) (AU [71] Z (YA Z FN Z Z Z) ?_))))))));refine Au [72] Z Z (λ_=>Ae (EA Z Z (Lx Z) Z An Z)) (Av 11 Z Z (Av 11 Z Z (Au [64,68] Z Z (λ_=>Ae (DB (v) Z Z (Z) (s) Z ch BU Z)) (HC [76,74] [0] [] Z Z (λ_=>HD (Xx Z Z Z Z Z (by rw [Dm];exact s) Dl Z BU)) (.inl ⟨Z,Z⟩) Z Z Z Z Z (CB 14 Z Z Z (Ad 15 Z Z (J (DB (v) Z Z (Z) (s) Z ch BU Z) (AD ⟨Z,?_⟩))))))));refine Ad 16 Z Z (V (Xx Z Z Z Z Z (by rw [Dm];exact s) Dl Z BU) (AD ⟨Z,?_⟩));refine CM ?_;obtain ⟨W,M⟩:=C;subst M;have hstl:=aw y.ti;refine AE (fZ Z Z (fZ Z Z (J (Zr Z Z) (J (YA Z FN Z Z Z) (J (EA Z Z (Lx Z) Z An Z) (V (C5 21 BP Z Z Z Z Z Z Z Z) (V (HS Z Z Z (by simp) Z Z (by simp) BP (by omega) Z Z (nV S.st W) Z Z) (AB Z Z ?_))))))));subst hp3;have X:=aZ y;have hmu0:mu g.length (fe g) _=mu g.length (fe g) S:=cZ (S:=S) (l:=BE S.low v (S.clk+1)) (st:=S.st++ [v]) (c:=S.clk+1) s (y.ti.pnd v Z).2.1
     obtain ⟨a,D⟩:∃a:TS,a=⟨BE S.idx v (S.clk+1),BE S.low v (S.clk+1),S.of,S.st++ [v],S.cs++ [(v,0)],S.cnt,S.clk+1⟩:=⟨_,Z⟩
     have e1:BE S.idx v (S.clk+1)=a.idx:=by rw [D]
     have e2:BE S.low v (S.clk+1)=a.low:=by rw [D]
     have e3:S.of=a.of:=by rw [D]
     have e4:S.st.length+1=a.st.length:=by rw [D];simp
     have e5:S.cnt=a.cnt:=by rw [D]
     have e6:S.clk+1=a.clk:=by rw [D]
     have z:∃W,S.st++ [v]=a.st++W:=⟨[],by rw [D,iC]⟩
     obtain ⟨E,hr3e⟩:∃E,S.st++ [v]=E:=⟨_,Z⟩
     rw [<-D] at X hmu0;rw [e1,e2,e3,e4,e5,e6,hr3e];rw [hr3e] at z;have N:=hmu0;have b:TB g.length (fe g) i a o v k:=by rw [hcs3,<-Int.ofNat.inj h61] at X;exact X
     refine AD ?_
     rotate_left
     obtain ⟨a,N,b,e1,e2,e3,e4,e5,e6,z⟩:=kZ y (hk1 λe=>h61 (gG Int.ofNat e)) C;rw [e1,e2,e3,e4,e5,e6];refine AX ?_
     all_goals
      refine AC (AC ?_);refine CZ [[],[0],[0,1],[0,1,2],[],[],[5],[5,6],[5,6,7],[4,5,6,7,8],[4,5,6,7,8,9],[4,5,6,7,8,9,10],rg 12] mixed Z (CG (Av 14 Z Z (AU [85] Z (Zr Z Z) (AU [86] Z (YA Z Ki Z Z Z) (Au [87] Z Z (λ_=>Ae (EA Z Z (Lx Z) Z An Z)) (Av 0 Z Z (Av 14 Z Z (AU [90] Z (Zr Z Z) ?_))))))));refine AU [91] Z (YA Z FN Z Z Z) (Au [92] Z Z (λ_=>Ae (EA Z Z (Lx Z) Z An Z)) (AU [89,93] Z (BJ (v) Z Z (Z) (Z2 s) dd Z DD Z) (AU [94] Z (CI Z Z BL Z) (AU [95] Z (JZ Z (χ ..) ch Z) (CB 12 Z Z Z (Ad 13 Z Z (J (BB Z Z Z) (AD ⟨Z,?_⟩))))))));refine CM (A9 Z (λh97=>?_) (λh97=>?_))
      .refine AC ?_;have A:k<(fe g v).length:=BR h97;have B:fh (fe g v) k<g.length:=hg.suc s (Dt A);have hgn:=Og A;have hjk:(fe g v)[k]? =some (fh (fe g v) k):=cP A
       obtain ⟨j,hje⟩:∃j,fh (fe g v) k=j:=⟨_,Z⟩
       rw [hje] at B hgn hjk;have hsl:=hg.len s;refine CZ [[],[],[1],[1,2],[1,2,3],rg 5,rg 6,[],[7],[7,8],[7,8,9],rg 11,rg 12,rg 13] mixed Z (CG (Av 0 Z Z (Av 14 Z Z (AU [99] Z (Zr Z Z) (AU [100] Z (YA Z FN Z Z Z) (Au [101] Z Z (λ_=>Ae (EA Z Z (Lx Z) Z An Z)) (AU [98,102] Z (BJ (v) Z Z (Z) (Z2 s) dd Z DD Z) ?_)))))));refine AU [103] Z (CI Z Z BL Z) (Av 14 Z Z (AU [105] Z (Zr Z Z) (AU [106] Z (YA Z Ki Z Z Z) (Au [107] Z Z (λ_=>Ae (EA Z Z (Lx Z) Z An Z)) (CB 11 Z Z Z (Ad 12 Z Z (J (BJ (k) Z Z (Z) (hgn) ch Z BU Z) (AD ⟨Z,?_⟩))))))));refine Ad 13 Z Z (J (CI Z Z An Z) (AD ⟨Z,?_⟩));refine Ad 14 Z Z (AB Z Z (AD ⟨Z,?_⟩));refine CM (AC (AE (fZ Z Z (J (Zr Z Z) (J (YA Z Ki Z Z Z) ?_)))));refine J (EA Z Z (Lx Z) Z An Z) (J (Al Z Z (Ξ _ (by omega)) Z) (Pa 115 (.d (AR (k+1))) Z (eqv (gG AF (by omega))) (J (Zr Z Z) (J (YA Z Ki Z Z Z) (V (Pv (z':=Z4 (v,k+1)) Z Z Z Z (Lx Z) Z (Γ 2) (uM Z) Z Z BU) (AD (AC (AC ?_))))))));rw [show (o++ [(v,k)]).length=(o++ [(v,k+1)]).length by simp] at hfrl⊢;refine AE (fZ Z Z (fZ Z Z (J (DB (j) Z Z (Z) (B) Z ch BU Z) (J (EA Z Z (Na B) Z An Z) (J (GF Z Z Z) (AD (A9 Z (λL=>?_) (λL=>?_))))))))
       .refine AE ?_;refine fZ Z Z (fZ Z Z (J (FD nS ng Z Z Z) (V (C5 22 bE Z Z Z Z Z Z Z Z) (V (HS Z Z Z (by simp) Z Z (by simp) bE (by omega) Z Z (rn (x:=(j,0)) (o++ [(v,k+1)]) U) Z Z) (Pa 127 (.own 4 0 (o++ [(v,k+1)]++ [(j,0)]).length) Z (by simp) (AB Z Z (AD (Aw ?_))))))));exact ⟨(⟨a.idx,a.low,a.of,a.st,o++ [(v,k+1)],a.cnt,a.clk⟩,some j,o++ [(v,k+1)]++ [(j,0)],E,o++ [(v,k+1)]++ [(j,0)]),⟨ob b hjk B (Int.ofNat.inj L),Z,z,[],(iC _).symm⟩,by rw [<-N];exact Vh b.hcs A,AY Q [0,1,2,3,4] Z (Z) T1⟩
       .refine AC (AE (fZ Z Z (fZ Z Z (J (DB (j) Z Z (Z) (B) Z ch BU Z) (J (EA Z Z (bT B) Z An Z) (J (BB Z Z Z) (AD (A9 Z (λh132=>?_) (λh132=>?_)))))))))
        .refine CZ [[],[],[1],[1,2],[1,2,3],[],[],[6],[6,7],[6,7,8],[5,6,7,8,9],[5,6,7,8,9,10],[],[],[12,13],[12,13,14],[5,6,7,8,9,10,11,12,13,14,15],rg 17,rg 18] mixed Z (CG (Av 6 Z Z (Av 14 Z Z (AU [134] Z (Zr Z Z) ?_))));refine AU [135] Z (YA Z FN Z Z Z) (Au [136] Z Z (λ_=>Ae (EA Z Z (Lx Z) Z An Z)) (Av 6 Z Z (Av 14 Z Z (AU [139] Z (Zr Z Z) (AU [140] Z (YA Z FN Z Z Z) (Au [141] Z Z (λ_=>Ae (EA Z Z (Lx Z) Z An Z)) (Au [138,142] Z Z (λ_=>Ae (DB (v) Z Z (Z) (s) Z ch BU Z)) (Au [143] Z Z (λ_=>Ae (EA Z Z (Na s) Z An Z)) ?_))))))));refine Av 5 Z Z (Av 15 Z Z (Au [145,146] Z Z (λ_=>Ae (DB (j) Z Z (Z) (B) Z ch BU Z)) (Au [147] Z Z (λ_=>Ae (EA Z Z (Na B) Z An Z)) (AU [144,148] Z (RC Z Z (pT _ _) Z) (CB 17 Z Z Z (Ad 18 Z Z (J (DB (v) Z Z (Z) (s) Z ch BU Z) (AD ⟨Z,?_⟩))))))));refine Ad 19 Z Z (V (Xx Z Z Z Z Z (by rw [Dm];exact s) Dl Z BU) (AD ⟨Z,?_⟩));refine CM (Aw ?_);exact ⟨(⟨a.idx,BE a.low v (min (a.low v) (a.idx j)),a.of,a.st,o++ [(v,k+1)],a.cnt,a.clk⟩,none,o++ [(v,k+1)],E,o++ [(v,k+1)]++U),⟨oc b hjk B (λe=>L (gG Int.ofNat e)) h132,(iC _).symm,z,U,Z⟩,by rw [<-N];exact Vh b.hcs A,AY Q [0,1,2,3,4] Z (Z) T1⟩
        .refine AX (Aw ?_);exact ⟨(⟨a.idx,a.low,a.of,a.st,o++ [(v,k+1)],a.cnt,a.clk⟩,none,o++ [(v,k+1)],E,o++ [(v,k+1)]++U),⟨k6 b hjk B (λe=>L (gG Int.ofNat e)) h132,(iC _).symm,z,U,Z⟩,by rw [<-N];exact Vh b.hcs A,AY Q [0,1,2,3,4] Z (Z) T1⟩
      .refine AX (AC ?_);have hke:k=(fe g v).length:=by have:=(VI b).2.2.2;have:=h97;omega
       refine AE (fZ Z Z (J (Zr Z Z) (J (YA Z FN Z Z Z) (J (EA Z Z (Lx Z) Z An Z) (AB Z Z ?_)))));refine AD (AC (AE (fZ Z Z (fZ Z Z (J (Qp Z fX Z) (J (PS Z Z (Ξ _ (by omega)) Z) (J (Gf o.length Z Z hlen1 (by simp) Z fX a9 Z) (AB Z Z ?_))))))));refine AD (AC (AC (AE (fZ Z Z (J (Qp Z fX Z) (J (HF Z Z Z) (AD (A9 Z (λh162=>?_) (λh162=>?_)))))))));refine AC ?_;obtain ⟨R,⟨u,ku⟩,hcu⟩:=Qh (l:=o) (λe=>by rw [e] at h162;exact absurd h162 (by decide));subst hcu;obtain ⟨hun,hvu⟩:=o9 b;have hlen3:(((R++ [(u,ku)]).length:Nat):Int) - 1=(R.length:Int):=by simp
       have hlen4:R.length<(R++ [(u,ku)]).length:=by simp
       refine AE (fZ Z Z (fZ Z Z (J (Qp Z fX Z) (J (PS Z Z (Ξ _ (by omega)) Z) (J (DB (R.length) Z Z (hlen3) (hlen4) Z fX a9 Z) (J (YA Z FN Z Z Z) (J (EA Z Z (tJ Z) Z An Z) (AB Z Z ?_))))))));refine AD (CZ [[],[],[],[],[2,3],[2,3,4],[],[],[6,7],[6,7,8],[2,3,4,5,6,7,8,9],rg 11,rg 12] mixed Z (CG (Av 6 Z Z (Av 17 Z Z (Av 6 Z Z (Av 17 Z Z (Au [172,173] Z Z (λ_=>Ae (DB (u) Z Z (Z) (hun) Z ch BU Z)) (Au [174] Z Z (λ_=>Ae (EA Z Z (Na hun) Z An Z)) ?_))))))));refine Av 6 Z Z (Av 16 Z Z (Au [176,177] Z Z (λ_=>Ae (DB (v) Z Z (Z) (s) Z ch BU Z)) (Au [178] Z Z (λ_=>Ae (EA Z Z (Na s) Z An Z)) (AU [175,179] Z (RC Z Z (pT _ _) Z) (CB 11 Z Z Z (Ad 12 Z Z (J (DB (u) Z Z (Z) (hun) Z ch BU Z) (AD ⟨Z,?_⟩))))))));refine Ad 13 Z Z (V (Xx Z Z Z Z Z (by rw [Dm];exact hun) Dl Z BU) (AD ⟨Z,?_⟩));refine CM ?_
       rotate_left
       refine AX ?_
       all_goals
        refine AC (AC ?_)
        first | (obtain ⟨H,G,hPX⟩:=lA b hke hvu;rw [G];obtain ⟨t,hcX⟩:∃l,R++ [(u,ku)]=l:=⟨_,Z⟩;rw [hcX] at b hPX⊢) | (obtain ⟨H,G,hPX⟩:=lB b hke (List.length_eq_zero_iff.1 (by omega));rw [G];obtain ⟨t,hcX⟩:∃l,o=l:=⟨_,Z⟩;rw [hcX] at b hPX⊢)
        refine CZ [[],[],[0,1],[0,1,2],[],[],[4,5],[4,5,6],rg 8] mixed Z (CG (Av 6 Z Z (Av 16 Z Z (Au [182,183] Z Z (λ_=>Ae (DB (v) Z Z (Z) (s) Z ch BU Z)) ?_))));refine Au [184] Z Z (λ_=>Ae (EA Z Z (Na s) Z An Z)) (Av 5 Z Z (Av 16 Z Z (Au [186,187] Z Z (λ_=>Ae (DB (v) Z Z (Z) (s) Z ch BU Z)) (Au [188] Z Z (λ_=>Ae (EA Z Z (Na s) Z An Z)) (CB 8 Z Z Z (Ad 9 Z Z (J (Cw Z Z Z) (AD ⟨Z,?_⟩))))))));refine CM (A9 Z (λh190=>?_) (λh190=>?_))
        .refine Aw ?_;exact ⟨(⟨a.idx,H,a.of,a.st,t,a.cnt,a.clk⟩,none,t,E,t++ [(v,k)]++U),⟨hPX.b (λe=>h190 (gG Int.ofNat e)),(iC _).symm,z,[(v,k)]++U,ji _ _ _⟩,by rw [<-N];exact c6 b.hcs,AY Q [0,1,2,3,4] Z (Z) T1⟩
        .refine AX (AC (AZ ?_));obtain ⟨gD,gC,hst⟩:=List.append_of_mem (VI b).2.1;obtain ⟨W,M⟩:=z;have hndp:=a7 b.ti hst;have hof:ID g.length a.of=ID g.length (λx=>if x∈([]:List Nat) then (a.cnt:Int) else a.of x):=(by simp);rw [hof,show a.st.length=(gD++(v::gC)).length by rw [hst]];have Y:=aw b.ti;have hstv:∀x∈gD++v::gC,x<g.length:=(λx hx=>b.ti.lt x ((b.ti.st x).1 (by rw [hst];exact hx)).1);rw [hst] at M Y;refine BO (α:=List Nat×List Nat) (λq=>⟨214,[(0,.d (Mf g)),(5,(.own 0 0 g.length)),(6,(.own 1 0 g.length)),(7,(.own 2 0 g.length)),(9,(.own 3 0 (gD++q.1).length)),(10,(.d (AR a.cnt))),(11,(.d (AR a.clk))),(13,(.own 4 0 t.length)),(16,(.d (AR v))),(37,(.d (AR g.length))),(38,(.d (AR i)))],[(0,[.rowD 3 1 (rowN g.length a.idx)]),(1,[.rowD 3 1 (rowN g.length H)]),(2,[.rowD 3 1 (ID g.length (λx=>if x∈q.2 then (a.cnt:Int) else a.of x))]),(3,[.rowD 3 1 (E.map AR)]),(4,[.rowD 318 2 ((t++ [(v,k)]++U).map Z4)])]⟩) (λq=>q.1++q.2=v::gC/\q.1≠ []) (λq=>q.1.length) ((v::gC,[])) (⟨iC _,λe=>nomatch e⟩) (AY Q [0,1,2,3,4] Z Z an) ?_;rintro ⟨c,dn⟩ ⟨O,hcne⟩;dsimp only at O hcne⊢;refine AZ (AC ?_);obtain ⟨T,w,hcw⟩:=Qh hcne;subst hcw;have hws:gD++v::gC++W=gD++(T++ [w])++(dn++W):=by rw [<-O];simp
         have hwn:w<g.length:=hstv w (by rw [<-O];simp);have hl6:(gD++(T++ [w])).length<=g.length:=by rw [<-O] at Y;simp at Y⊢;omega
         have hl7:(((gD++(T++ [w])).length:Nat):Int) - 1=((gD++T).length:Int):=by simp<;>omega
         have hl8:(gD++T).length<(gD++(T++ [w])).length:=by simp
         have hl9:(gD++T).length<=(E.map AR).length:=by rw [M,hws];simp<;>omega
         have hgw:(E.map AR)[(gD++T).length]? =some (AR w):=by rw [M,hws];exact ud rfl
         refine AE (fZ Z Z (fZ Z Z (J (Qp Z ch Z) (J (PS Z Z (Ξ _ (by omega)) Z) (J (DB ((gD++T).length) Z Z (hl7) (hl8) Z ch BU Z) (J (EA Z Z (hgw) Z An Z) (AB Z Z ?_)))))));refine AD (AC (AE (fZ Z Z (fZ Z Z (J (Qp Z ch Z) (J (PS Z Z (Ξ _ (by omega)) Z) (J (Gf (gD++T).length Z Z hl7 hl9 Z ch BU Z) (AB Z Z ?_))))))));skip;refine AD (AC (AE (fZ Z Z (fZ Z Z (fZ Z Z (J (DB (w) Z Z (Z) (hwn) Z ch BU Z) ?_))))));refine V (Xx Z Z Z Z Z (by rw [Sp];exact hwn) sh Z BU) (AD (AC (AE (fZ Z Z (fZ Z Z (J (GF Z Z Z) (AD (A9 Z (λK=>?_) (λK=>?_)))))))))
         .refine Aw ?_;obtain ⟨hc0,hdn⟩:=kr O (Int.ofNat.inj K) hndp;subst hc0;rw [iC,hdn,Int.ofNat.inj K];have hcl3:=b.ti.num;have hcl4:=(S8 b.ti).1;refine AE (fZ Z Z (J (Al Z Z (Ξ _ (by omega)) Z) (Pa 210 (.d (AR (a.cnt+1))) Z (eqv (gG AF (by omega))) (AB Z Z (AD ?_)))));exact ⟨(⟨a.idx,H,λx=>if x∈v::gC then (a.cnt:Int) else a.of x,gD,t,a.cnt+1,a.clk⟩,none,t,E,t++ [(v,k)]++U),⟨hPX.c gD gC (Int.ofNat.inj (Classical.not_not.1 h190)) hst,(iC _).symm,⟨v::gC++W,by rw [M];simp⟩,[(v,k)]++U,ji _ _ _⟩,by rw [<-N];exact c6 b.hcs,AY Q [0,1,2,3,4] Z (Z) T1⟩
         .refine AX ?_;exact ⟨(T,w::dn),bi O (λe=>K (gG Int.ofNat e)),by show T.length<(T++ [w]).length;simp,AY Q [0,1,2,3,4] Z (Z) an⟩
    .refine Aw ?_
     first | have hE:=aY y (hfr▸List.length_eq_zero_iff.1 (by omega)) | skip
     refine AE (J (Al Z Z (Ξ _ (by omega)) Z) (fZ Z Z (AD ?_)));exact ⟨(i+1,S,E),⟨hil,hE.1,hE.2.1,TT y.old hE.2.2,C⟩,by show g.length - (i+1)<g.length - i;omega,AY Q [0,1,2,3] Z (Z) b0⟩
  .refine Aw (AC ?_);have hin:i=g.length:=by have:=h39;omega
   subst hin;obtain ⟨hof,hofe⟩:=aX hti hcs I;have hre:ID g.length S.of=rowN g.length (λv=>(S.of v).toNat):=gi λv hv=>gG AF (hofe v (Ψ.1 hv));rw [hre];refine AE (fZ Z Z (fZ Z Z (AB Z Z (AB Z Z (AD (A4 ?_))))));exact ⟨_,[2],_,A2 Z,Z,Z,_,_,hof,Z,Z⟩
abbrev HL (lst:List Nat):Hp:=[(5,[.blk 28 [.own 6 0 lst.length]]),(6,[.rowD 3 1 (lst.map AR)])]
theorem lX (c:List Nat) (a b:Nat) (g:a<c.length) (f:b<c.length):AO prog 182 [.d (AR a),.d (AR b),.ptr 5 0 0] (HL c) λr h=>r= .d (Ah (decide (fh c a<fh c b)))/\h=HL c:=by
 refine At func182 Z Z ntmps182 Z Z Z λF i=>(AC ?_);refine AE (AB Z Z (AD (AC (CZ [[],[],[0,1],[0,1,2],[],[],[4,5],[4,5,6],rg 8,rg 9] mixed Z (CG (Au [2] Z Z (λ_=>Ae (AP Z Z Z BL Z)) (Av 0 Z Z (Au [6,7] Z Z (λ_=>Ae (DB (a) Z Z (Z) (g) Z ch BU Z)) ?_))))))));refine Au [8] Z Z (λ_=>Ae (EA Z Z (Og g) Z An Z)) (Au [2] Z Z (λ_=>Ae (AP Z Z Z BL Z)) (Av 1 Z Z (Au [10,11] Z Z (λ_=>Ae (DB (b) Z Z (Z) (f) Z ch BU Z)) (Au [12] Z Z (λ_=>Ae (EA Z Z (Og f) Z An Z)) (CB 8 Z Z Z (Ad 9 Z Z (J (BB Z Z Z) (AD ⟨Z,?_⟩))))))));refine Ad 10 Z Z (AB Z Z (AD ⟨Z,?_⟩));refine CM (A4 ?_);exact ⟨_,[5,6],_,A2 Z,Z,Z,uj Int.ofNat_lt,Z⟩
abbrev Mq (lst:List Nat) (l j:List Nat):Hp:=[(1,[.blk 323 [.own 2 0 l.length,.fn 182 [.ptr 5 0 0]]]),(2,[.rowD 3 1 ((l++j).map AR)]),(5,[.blk 28 [.own 6 0 lst.length]]),(6,[.rowD 3 1 (lst.map AR)])]
theorem Ty {j:List Nat} (h:s<t.length):((t++j).map AR)[s]? =some (AR (fh t s)):=by
 rw [Og (by rw [Δ];omega),XM h]
theorem Vl (a:List Nat) (l j:List Nat):AO prog 223 [.ptr 1 0 0] (Mq a l j) λr b=>r= .d (AR l.length)/\b=Mq a l j:=by
 refine At func223 Z Z ntmps223 Z Z Z λF c=>(AC (AE (AB Z Z (AD (AC ?_)))));refine AE (fZ Z Z (J (LM Z Z) (J (AN Z Xu Z Z Z) (J (AP Z Z Z BL Z) (J (Qp Z ch Z) (AB Z Z (AD (A4 ?_))))))));exact ⟨_,[1,2,5,6],_,A2 Z,Z,Z,Z,Z⟩
theorem R3 (c:List Nat) (l j:List Nat) (i:∀x∈l,x<c.length) (a b:Nat) (h:a<l.length) (g:b<l.length):AO prog 296 [.ptr 1 0 0,.d (AR a),.d (AR b)] (Mq c l j) λr k=>r= .d (Ah (decide (fh c (fh l a)<fh c (fh l b))))/\k=Mq c l j:=by
 have f:=lX c (fh l a) (fh l b) (i _ (Dt h)) (i _ (Dt g));refine At func296 Z Z ntmps296 Z Z Z λF o=>(AC (AE ?_));refine AB Z Z (AD (AC (CZ [[],[0],[0,1],[0,1,2],[],[4],[4,5],[4,5,6],[],[4,5,6,7,8],[4,5,6,7,8,9],[],[11],[11,12],[11,12,13],[],[11,12,13,14,15],[11,12,13,14,15,16],rg 18,rg 19] mixed Z (CG (Av 0 Z Z (AU [7] Z (LM Z Z) (AU [8] Z (AN Z lq Z Z Z) (Au [9] Z Z (λ_=>Ae (AP Z Z Z sd Z)) ?_))))))));refine Av 0 Z Z (AU [11] Z (LM Z Z) (AU [12] Z (AN Z Xu Z Z Z) (Au [13] Z Z (λ_=>Ae (AP Z Z Z BL Z)) (Av 1 Z Z (Au [14,15] Z Z (λ_=>Ae (DB (a) Z Z (Z) (h) Z ch BU Z)) (Au [16] Z Z (λ_=>Ae (EA Z Z (Ty h) Z An Z)) (Av 0 Z Z (AU [18] Z (LM Z Z) ?_))))))));refine AU [19] Z (AN Z Xu Z Z Z) (Au [20] Z Z (λ_=>Ae (AP Z Z Z BL Z)) (Av 2 Z Z (Au [21,22] Z Z (λ_=>Ae (DB (b) Z Z (Z) (g) Z ch BU Z)) (Au [23] Z Z (λ_=>Ae (EA Z Z (Ty g) Z An Z)) (CB 18 Z Z Z (Ad 19 Z Z (V (Uy f Z [5,6] ⟨Z,Z,trivial⟩ Z Z Z Z Z Z Z Z Z) (AD ⟨Z,?_⟩))))))));refine Ad 20 Z Z (AB Z Z (AD ⟨Z,?_⟩));refine CM (A4 ?_);exact ⟨_,[1,2,5,6],_,A2 Z,Z,Z,Z,Z⟩
theorem RA (c:List Nat) (l j:List Nat) (a b:Nat) (g:a<l.length) (f:b<l.length):AO prog 299 [.ptr 1 0 0,.d (AR a),.d (AR b)] (Mq c l j) λr k=>r= .tup []/\k=Mq c (M0 l a b) j:=by
 have i:a<(l++j).length:=by rw [Δ];omega
 have h:b<((l++j).set a (fh l b)).length:=by rw [gp,Δ];omega
 refine At func299 Z Z ntmps299 Z Z Z λF o=>(CZ [[],[0],[0,1],[0,1,2],[],[],[5],[5,6],[5,6,7],[],[],[10],[10,11],[10,11,12],[],[10,11,12,13,14],[10,11,12,13,14,15],[],[17],[17,18],[17,18,19],[],[17,18,19,20,21],[17,18,19,20,21,22],[0,1,2,3,4,5,6,7,8,10,11,12,13,14,15,16,17,18,19,20,21,22,23],[0,1,2,3,4,5,6,7,8,10,11,12,13,14,15,16,17,18,19,20,21,22,23,24],rg 26,rg 27] mixed Z (CG (Av 0 Z Z (AU [6] Z (LM Z Z) (AU [7] Z (AN Z Xu Z Z Z) ?_)))));refine Au [8] Z Z (λ_=>Ae (AP Z Z Z BL Z)) (Av 1 Z Z (Av 0 Z Z (AU [11] Z (LM Z Z) (AU [12] Z (AN Z Xu Z Z Z) (Au [13] Z Z (λ_=>Ae (AP Z Z Z BL Z)) (Av 2 Z Z (Av 0 Z Z (AU [16] Z (LM Z Z) ?_))))))));refine AU [17] Z (AN Z Xu Z Z Z) (Au [18] Z Z (λ_=>Ae (AP Z Z Z BL Z)) (Av 2 Z Z (Au [19,20] Z Z (λ_=>Ae (DB (b) Z Z (Z) (f) Z ch BU Z)) (Au [21] Z Z (λ_=>Ae (EA Z Z (Ty f) Z An Z)) (Av 0 Z Z (AU [23] Z (LM Z Z) (AU [24] Z (AN Z Xu Z Z Z) (Au [25] Z Z (λ_=>Ae (AP Z Z Z BL Z)) ?_))))))));refine Av 1 Z Z (Au [26,27] Z Z (λ_=>Ae (DB (a) Z Z (Z) (g) Z ch BU Z)) (Au [28] Z Z (λ_=>Ae (EA Z Z (Ty g) Z An Z)) (Au [9,10] Z Z (λ_=>Ae (DB (a) Z Z (Z) (g) Z ch BU Z)) (HC [30,22] [2] [] Z Z (λ_=>HD (FU (emb:=AR) (l++j) (fh l b) Z Z Z Z Z Z i Z BU)) (.inl ⟨Z,Z⟩) Z Z Z Z Z (CB 26 Z Z Z (Ad 27 Z Z (J (DB (b) Z Z (Z) (f) Z ch BU Z) (AD ⟨Z,?_⟩))))))));refine Ad 28 Z Z (V (FU (emb:=AR) ((l++j).set a (fh l b)) (fh l a) Z Z Z Z Z Z h Z BU) (AD ⟨Z,?_⟩));refine CM ?_;exact ⟨_,[1,2,5,6],_,A2 Z,Z,Z,Z,by rw [Mq,NF,<-uG g f]⟩
theorem c9 (a:List Nat) (l j:List Nat) (x:Nat) (c:l.length<=1000000):AO prog 298 [.ptr 1 0 0,.d (.raw (.iface 3 (.int .i64 (x:Int))))] (Mq a l j) λr b=>r= .tup []/\b=Mq a (l++ [x]) []:=by
 refine At func298 Z Z ntmps298 Z Z Z λF f=>(CZ [[],[],[1],[1,2],[1,2,3],[],[5],[5,6],[1,2,3,4,5,6,7],rg 9,rg 10,rg 11] mixed Z (CG (Av 0 Z Z (Av 0 Z Z (AU [5] Z (LM Z Z) (AU [6] Z (AN Z Xu Z Z Z) ?_))))));refine Au [7] Z Z (λ_=>Ae (AP Z Z Z BL Z)) (Av 1 Z Z (AU [9] Z (Nu Z sR Z Z) (HC [10] [20] [(11,_)] Z Z (λ_=>HD (C5 20 BP Z Z Z Z Z Z Z Z)) (.inr ⟨11,_,Z,Z,Z,Z,Z⟩) Z Z Z Z Z (HC [8,11] [1,2,5,6,20] [(12,_)] Z Z (λ_=>HD (HS Z Z Z (by simp) Z Z (by simp) BP (by omega) Z Z (nV l j) Z Z)) (.inr ⟨12,_,Z,Z,Z,Z,Z⟩) Z Z Z Z Z (CB 9 Z Z Z (Ad 10 Z Z (J (LM Z Z) (AD ⟨Z,?_⟩))))))));refine Ad 11 Z Z (J (AN Z Xu Z Z Z) (AD ⟨Z,?_⟩));refine Ad 12 Z Z (V (B3 Z Z Z Z Z Z Z DD) (AD ⟨Z,?_⟩));refine CM ?_;exact ⟨_,[1,2,5,6],_,A2 Z,Z,Z,Z,by rw [Mq];simp⟩
theorem lP (a:List Nat) (l j:List Nat) (g:l≠ []) (f:l.length<=1000000):AO prog 297 [.ptr 1 0 0] (Mq a l j) λr i=>r= .d (.raw (.iface 3 (.int .i64 (fh l (l.length - 1):Int))))/\i=Mq a (l.take (l.length - 1)) ([fh l (l.length - 1)]++j):=by
 have h:0<l.length:=jV.2 g;have b:((l.length:Int) - 1)=((l.length - 1:Nat):Int):=by omega
 have c:l.length - 1<=((l++j).map AR).length:=by rw [χ,Δ];omega
 refine At func297 Z Z ntmps297 Z Z Z λF k=>(AC (AE (AB Z Z ?_)));refine AD (AC (CZ [[],[0],[0,1],[0,1,2],[],[4],[4,5],[4,5,6],[4,5,6,7],[4,5,6,7,8],rg 10,rg 11,rg 12] mixed Z (CG (Av 0 Z Z (AU [4] Z (LM Z Z) (AU [5] Z (AN Z Xu Z Z Z) (Au [6] Z Z (λ_=>Ae (AP Z Z Z BL Z)) (Av 0 Z Z ?_))))))));refine AU [8] Z (LM Z Z) (AU [9] Z (AN Z Xu Z Z Z) (Au [10] Z Z (λ_=>Ae (AP Z Z Z BL Z)) (AU [11] Z (Qp Z ch Z) (AU [12] Z (PS Z Z (Ξ _ (by omega)) Z) (CB 10 Z Z Z (Ad 11 Z Z (J (DB (l.length - 1) Z Z (b) (by omega) Z ch BU Z) (AD ⟨Z,?_⟩))))))));refine Ad 12 Z Z (J (EA Z Z (Ty (by omega)) Z An Z) (AD ⟨Z,?_⟩));refine Ad 13 Z Z (AB Z Z (AD ⟨Z,?_⟩));refine CM (AC ?_);refine CZ [[],[],[1],[1,2],[1,2,3],[],[5],[5,6],[5,6,7],[5,6,7,8],[5,6,7,8,9],[1,2,3,4,5,6,7,8,9,10],rg 12,rg 13,rg 14] mixed Z (CG (Av 0 Z Z (Av 0 Z Z (AU [17] Z (LM Z Z) (AU [18] Z (AN Z Xu Z Z Z) (Au [19] Z Z (λ_=>Ae (AP Z Z Z BL Z)) (Av 0 Z Z (AU [21] Z (LM Z Z) ?_))))))));refine AU [22] Z (AN Z Xu Z Z Z) (Au [23] Z Z (λ_=>Ae (AP Z Z Z BL Z)) (AU [24] Z (Qp Z ch Z) (AU [25] Z (PS Z Z (Ξ _ (by omega)) Z) (Au [20,26] Z Z (λ_=>Ae (Gf (l.length - 1) Z Z b c Z ch BU Z)) (CB 12 Z Z Z (Ad 13 Z Z (J (LM Z Z) (AD ⟨Z,?_⟩))))))));refine Ad 14 Z Z (J (AN Z Xu Z Z Z) (AD ⟨Z,?_⟩));refine Ad 15 Z Z (V (B3 Z Z Z Z Z Z Z DD) (AD ⟨Z,?_⟩));refine CM (AC (AE (fZ Z Z (J (GU sR Z Z) (AB Z Z (AD (A4 ?_)))))));exact ⟨_,[1,2,5,6],_,A2 Z,Z,Z,Z,by rw [Mq,uW h,ϖ,Nat.min_eq_left (by omega)]⟩
theorem sQ (i:Nat) (h:i<=1000000):IntKind.i64.wrap (Int.tdiv ((i:Int) - 1) 2)=(((i - 1) / 2:Nat):Int):=by
 rw [uV];exact Ξ _ (by omega)
theorem r7 (a:List Nat) (l j:List Nat) (k:Nat) (C:k<l.length) (w:l.length<=1000000) (B:∀x∈l,x<a.length):AO prog 262 [.ifc 321 none 1 0,.d (AR k)] (Mq a l j) λr E=>r= .tup []/\E=Mq a (S7 (fh a) k l k) j:=by
 refine At func262 Z Z ntmps262 Z Z Z λF z=>(AZ (BO (α:=Nat×List Nat×Nat) (λq=>⟨23,[(0,.ifc 321 none 1 0),(1,(.d (AR q.2.2)))],Mq a q.2.1 j⟩) (λq=>q.2.2<=q.1/\q.2.2<q.2.1.length/\q.2.1.length<=1000000/\S7 (fh a) q.1 q.2.1 q.2.2=S7 (fh a) k l k/\∀x∈q.2.1,x<a.length) (λq=>q.2.2) ((k,l,k)) (⟨Γ _,C,w,Z,B⟩) (AY z [1,2,5,6] Z Z ⟨Z,Z,trivial⟩) ?_));rintro ⟨f,m,i⟩ ⟨v,c,s,b,o⟩;dsimp only at v c s b⊢;have g:(i - 1) / 2<m.length:=by omega
 refine AZ (AC (AE (fZ Z Z (J (PS Z Z (Ξ _ (by omega)) Z) (J (oi Z Z (by omega) (sQ i (by omega)) Z) (AB Z Z ?_))))));refine AD (AC (AC (AE (fZ Z Z (fZ Z Z (J (GF Z Z Z) (fZ Z Z (C3 11 Z (λu=>?_) (λu=>?_)))))))))
 .refine AL Z Z Z Z (AL Z Z Z Z (AL Z Z Z Z (AL Z Z Z Z (AL Z Z Z Z (J (B5 Z Z Z Z) (AD (Bx Z Z (Aw ?_))))))));have D:i=0:=by omega
  exact ⟨_,[1,2,5,6],_,A2 Z,Z,Z,Z,by rw [<-b,D,aQ]⟩
 .refine AQ Z Z Z (fZ Z Z (AQ Z Z Z (fZ Z Z ?_)));refine AQ Z Z Z (fZ Z Z (AQ Z Z Z (V (E5 ci (R3 a m j o i ((i - 1) / 2) c g) Z [1,2,5,6] ⟨Z,Z,Z,Z,trivial⟩ Z Z Z Z Z Z Z Z Z) (AQ Z Z Z (J (Jw Z Z) (J (Bk Z Z Z Z) (AD (A9 Z (λh=>?_) (λh=>?_)))))))))
  .refine Aw ?_;exact ⟨_,[1,2,5,6],_,A2 Z,Z,Z,Z,by rw [<-b,aR (by simpa using h)]⟩
  .refine AX (AC ?_);have y:i≠0:=λe=>by subst e;exact u rfl
   have t:(fh a) (fh m i)<(fh a) (fh m ((i - 1) / 2)):=Classical.not_not.1 h;refine AE ?_;refine fZ Z Z (fZ Z Z (fZ Z Z (V (E5 cg (RA a m j ((i - 1) / 2) i g c) Z [1,2,5,6] ⟨Z,Z,Z,Z,trivial⟩ Z Z Z Z Z Z Z Z Z) (AD (AE (fZ Z Z (AB Z Z (AD ?_))))))));exact ⟨(f - 1,M0 m ((i - 1) / 2) i,(i - 1) / 2),⟨by show (i - 1) / 2<=f - 1;omega,by show _<(M0 _ _ _).length;rw [NF];exact g,by show (M0 _ _ _).length<=_;rw [NF];exact s,by show S7 _ (f - 1) _ _=_;rw [<-b,<-o6 y t,show f - 1+1=f by omega],λx A=>o x ((F6 g c).mem_iff.1 A)⟩,by show (i - 1) / 2<i;omega,AY z [1,2,5,6] Z (Z) ⟨Z,Z,trivial⟩⟩
theorem qZ (b:2*s+2<c) (a:K (fh t (2*s+2))<K (fh t (2*s+1))):SS K c t s=2*s+2:=ϱ ⟨b,a⟩
theorem eB (h:¬(2*s+2<c/\K (fh t (2*s+2))<K (fh t (2*s+1)))):SS K c t s=2*s+1:=θ h
theorem mB (a:List Nat) (l j:List Nat) (k n:Nat) (L:k<l.length) (H:n<=l.length) (B:l.length<=1000000) (I:∀x∈l,x<a.length):AO prog 263 [.ifc 321 none 1 0,.d (AR k),.d (AR n)] (Mq a l j) λr N=>(∃b:Bool,r= .d (Ah b))/\N=Mq a (Ov (fh a) n (n - k) l k) j:=by
 refine At func263 Z Z ntmps263 Z Z Z λF E=>(AC (AE (AB Z Z ?_)));refine AD (AC (AE (fZ Z Z (AB Z Z (AD (AC (AZ (BO (α:=Nat×List Nat×Nat) (λq=>⟨48,[(0,.ifc 321 none 1 0),(1,.d (AR k)),(2,.d (AR n)),(7,(.d (AR q.2.2)))],Mq a q.2.1 j⟩) (λq=>n<=q.1+q.2.2/\q.2.2<q.2.1.length/\q.2.1.length<=1000000/\n<=q.2.1.length/\Ov (fh a) n q.1 q.2.1 q.2.2=Ov (fh a) n (n - k) l k/\∀x∈q.2.1,x<a.length) (λq=>n - q.2.2) ((n - k,l,k)) (⟨by show n<=n - k+k;omega,L,B,H,Z,I⟩) (AY E [1,2,5,6] Z Z E0) ?_))))))));rintro ⟨f,m,i⟩ ⟨A,g,v,u,c,s⟩;dsimp only at A g v u c⊢;refine AZ (AC (AE (fZ Z Z (J (oj Z Z (Ξ _ (by omega)) Z) (J (Al Z Z (Ξ _ (by omega)) Z) (AB Z Z (AD ?_)))))));refine AC (AC (fI 8 (.d (AR (2*i+1))) Z (eqv (gG AF (by omega))) (AE (fZ Z Z (fZ Z Z (J (EJ Z Z Z) (fZ Z Z (C3 18 Z (λz=>?_) (λz=>?_)))))))))
 .refine AL Z Z Z Z (AL Z Z Z Z (J (B5 Z Z Z Z) (AD (Bx Z Z ?_))));refine Aw (AC (AE (fZ Z Z (fZ Z Z (J (HF Z Z Z) (AB Z Z (AD (A4 ?_))))))));exact ⟨_,[1,2,5,6],_,A2 Z,Z,Z,⟨_,Z⟩,by rw [<-c,mF (by omega)]⟩
 .refine AQ Z Z Z (fZ Z Z (AQ Z Z Z (J (BB Z Z Z) (J (Bk Z Z Z Z) (AD (Cm Z (gV (by omega)) (AX (AC ?_))))))));have w:¬n<=2*i+1:=by have:=z;omega
  have M:=qY (K:=(fh a)) (l:=m) w;have o:SS (fh a) n m i<m.length:=by omega
  refine AE ?_;refine fZ Z Z (AB Z Z (AD (AC (AC (AE (fZ Z Z (J (Al Z Z (Ξ _ (by omega)) Z) (AB Z Z ?_))))))));refine AD (AC (fI 10 (.d (AR (2*i+2))) Z (eqv (gG AF (by omega))) (AE (fZ Z Z (fZ Z Z (J (BB Z Z Z) (fZ Z Z (C3 28 Z (λD=>?_) (λD=>?_)))))))));refine AQ Z Z Z (fZ Z Z ?_);refine AQ Z Z Z (fZ Z Z (AQ Z Z Z (fZ Z Z (AQ Z Z Z (V (E5 ci (R3 a m j s (2*i+2) (2*i+1) (by omega) (by omega)) Z [1,2,5,6] ⟨Z,Z,Z,Z,trivial⟩ Z Z Z Z Z Z Z Z Z) (J (B5 Z Z Z Z) (AD (A9 Z (λC=>?_) (λC=>?_)))))))));refine AE (fZ Z Z (AB Z Z (AD ?_)))
  rotate_left
  refine AX ?_
  rotate_left
  refine AL Z Z Z Z (AL Z Z Z Z (AL Z Z Z Z (AL Z Z Z Z (J (Bk Z Z Z Z) (AD (Cm Z Z (AX ?_)))))))
  all_goals
   refine AC (AC ?_);refine fI 9 (.d (AR (SS (fh a) n m i))) Z (eqv (gG AR (by first | exact (qZ (by omega) (by assumption)).symm | exact (eB (λh=>by omega)).symm | exact (eB (λh=>absurd h.2 (by assumption))).symm))) (AE (fZ Z Z (fZ Z Z (fZ Z Z (V (E5 ci (R3 a m j s (SS (fh a) n m i) i o g) Z [1,2,5,6] ⟨Z,Z,Z,Z,trivial⟩ Z Z Z Z Z Z Z Z Z) (J (Jw Z Z) (AD (A9 Z (λt=>?_) (λt=>?_)))))))))
   .refine Aw (AC (AE (fZ Z Z (fZ Z Z (J (HF Z Z Z) (AB Z Z (AD (A4 ?_))))))));exact ⟨_,[1,2,5,6],_,A2 Z,Z,Z,⟨_,Z⟩,by rw [<-c,eC t]⟩
   .refine AX (AC ?_);have y:(fh a) (fh m (SS (fh a) n m i))<(fh a) (fh m i):=Classical.not_not.1 t;refine AE ?_;refine fZ Z Z (fZ Z Z (fZ Z Z (V (E5 cg (RA a m j i (SS (fh a) n m i) g o) Z [1,2,5,6] ⟨Z,Z,Z,Z,trivial⟩ Z Z Z Z Z Z Z Z Z) (AD (AE (fZ Z Z (AB Z Z (AD ?_))))))));exact ⟨(f - 1,M0 m i (SS (fh a) n m i),SS (fh a) n m i),⟨by show n<=f - 1+SS _ n m i;omega,by show _<(M0 _ _ _).length;rw [NF];exact o,by show (M0 _ _ _).length<=_;rw [NF];exact v,by show _<=(M0 _ _ _).length;rw [NF];exact u,by show Ov _ n (f - 1) _ _=_;rw [<-c,<-q0 w y,show f - 1+1=f by omega],λx G=>s x ((F6 g o).mem_iff.1 G)⟩,by show n - SS _ n m i<n - i;omega,AY E [1,2,5,6] Z (Z) E0⟩
theorem Tr (a:List Nat) (l j:List Nat) (x:Nat) (h:l.length<=999999) (i:∀x∈l,x<a.length)  (g:x<a.length):AO prog 222 [.ifc 321 none 1 0,.d (.raw (.iface 3 (.int .i64 (x:Int))))] (Mq a l j) λr k=>r= .tup []/\k=Mq a (Me (fh a) l x) []:=by
 have c:(l++ [x]).length=l.length+1:=by simp
 have b:((l.length+1:Nat):Int) - 1=((l.length:Nat):Int):=by omega
 refine At func222 Z Z ntmps222 Z Z Z λF o=>(AC (AE (fZ Z Z (fZ Z Z (V (E5 sp (c9 a l j x (by omega)) Z [1,2,5,6] ⟨Z,Z,Z,Z,trivial⟩ Z Z Z Z Z Z Z Z Z) ?_)))));refine AD (AE (fZ Z Z (fZ Z Z (V (E5 sr (Vl a (l++ [x]) []) Z [1,2,5,6] ⟨Z,Z,Z,Z,trivial⟩ Z Z Z Z Z Z Z Z Z) (J (PS Z Z (Ξ _ (by omega)) Z) (Pa 10 (.d (AR l.length)) Z (eqv (gG AF (by rw [c];exact b))) (V (FE (r7 a (l++ [x]) [] l.length (by omega) (by omega) (λy f=>(υ.1 f).elim (i y) λe=>η.1 e▸g)) Z [1,2,5,6] ⟨Z,Z,Z,Z,trivial⟩ Z Z Z Z Z Z Z Z Z) (AD ?_))))))));exact ⟨_,[1,2,5,6],_,A2 Z,Z,Z,Z,Z⟩
theorem ld (a:List Nat) (l j:List Nat) (f:l≠ []) (s:l.length<=999999) (t:∀x∈l,x<a.length):AO prog 224 [.ifc 321 none 1 0] (Mq a l j) λr u=>r= .d (.raw (.iface 3 (.int .i64 (fh l 0:Int))))/\u=Mq a (Pe (fh a) l) ([fh l 0]++j):=by
 have i:0<l.length:=jV.2 f;have o:=NF l 0 (l.length - 1);have c:=H9 (fh a) f;have g:Kg (fh a) l≠ []:=λe=>by rw [e] at c;simp at c;omega
 have b:fh (Kg (fh a) l) ((Kg (fh a) l).length - 1)=fh l 0:=by rw [c];exact Ob (fh a) f
 have h:=(mB a (M0 l 0 (l.length - 1)) j 0 (l.length - 1) (by omega) (by omega) (by omega) (λy k=>t y ((F6 i (by omega)).mem_iff.1 k))).top;refine At func224 Z Z ntmps224 Z Z Z λF v=>(AC (AE (AB Z Z (AD ?_))));refine AC (AE (fZ Z Z (V (E5 sr (Vl a l j) Z [1,2,5,6] ⟨Z,Z,Z,Z,trivial⟩ Z Z Z Z Z Z Z Z Z) (J (PS Z Z (Ξ _ (by omega)) Z) (AB Z Z (AD (AC (fI 3 (.d (AR (l.length - 1))) Z (eqv (gG AF (by omega))) ?_))))))));refine AE (fZ Z Z (fZ Z Z (V (E5 cg (RA a l j 0 (l.length - 1) i (by omega)) Z [1,2,5,6] ⟨Z,Z,Z,Z,trivial⟩ Z Z Z Z Z Z Z Z Z) (AD (AC (AE (fZ Z Z (fZ Z Z ?_))))))));refine V (FE h Z [1,2,5,6] ⟨Z,Z,Z,Z,trivial⟩ Z Z Z Z Z Z Z Z Z) (AD (AC (AE (fZ Z Z (V (E5 u7 (lP a (Kg (fh a) l) j g (by omega)) Z [1,2,5,6] ⟨Z,Z,Z,Z,trivial⟩ Z Z Z Z Z Z Z Z Z) (AB Z Z (AD (A4 ?_))))))));exact ⟨_,[1,2,5,6],_,A2 Z,Z,Z,by rw [b],by rw [b,c];rfl⟩
end Go.Proofs.YteifpcnphnhaoaaGreat
