import Derived.Test.YteifpcnphnhaoaaGreatMg20
open Go.Proofs.Tryz
set_option maxHeartbeats 4000000
namespace Go.Proofs.YteifpcnphnhaoaaGreat
open Go.RowKit Go.Shelf
open Go.Sort (putRow Holds PermIn SortedIn SWO mapBlock onCells putCells)
variable{P:Program}
section
variable{ρr:Ren}{τ:Type}
theorem dO(L:SlLaysF.n6 P ρr){E:TypeId}{g g6:FuncId}{fn:Func}(hfn:P.funcs[g]? =some fn)(hnm:(fn.name== "runtime.NumGoroutine")=false){c:Code}(hbody:fn.body=some c){A:τ->D}(hag:∀x,(A x).cells=[A x])(cf:τ->τ->Int)(hO:SWO (ltOf cf))(l V:List τ)(M:List D)(hsz:l.length<4611686018427387904)(hc:∀x∈l,∀y∈l,AI P g [.d (A x),.d (A y)] (.raw (.int .i64 (cf x y))))(hu:∀ys:List τ,ys.Perm l->ys.Pairwise (λa b=>¬cf b a<0)->ys=V){F:Fr}{s:AS}{d:Nat}{x y:Operand}{ty:TypeId}{pos:String}{aft:Array Edge}{gd:Option (Nat×Bool)}{at_:Array TypeId}{f n:Nat}{fa:AV}{row:List D}{hp':Hp}(hg:ρr.f 6=g6)(hx:s.ev x=some (.own f 0 n))(hy:s.ev y=some fa)(hfa:∀w O R v,A8 w O R fa v->v= .func (.func g) #[] #[])(ho:cj s.hp f 0=some (.rowD E 1 row))(hrow:row=l.map A++M)(hn:n=l.length)(hh:Ba s.hp f 0 (.rowD E 1 (V.map A++M))=some hp')(hd:Nat.blt d s.n=true):
  AH P F ⟨some d,.call {callee:= .value (.func g6),args:= #[x,y],argTypes:=at_},ty,pos,aft,gd⟩ s ⟨s.n,(d,.d (.tup []))::s.env,hp'⟩ (λ_ _=>true):=by
 subst hg hrow hn;intro R act w hs
 obtain ⟨fn6,hf1,hf2,hf3⟩:∃fn,P.funcs[ρr.f 6]? =some fn/\(fn.name== "runtime.NumGoroutine")=false/\fn.body.isSome=true:=by
  obtain ⟨nm,hn,hf⟩:=L.f6;exact ⟨_,hf,hn,Z⟩
 unfold Oper.wp;rw[show (#[x,y]:Array Operand)=[x,y].toArray from rfl,DU hf1 hf2 hf3,Oper.upon_enter]
 suffices key:Calls P (ρr.f 6) ([x,y].map act.eval).toArray w λe w'=>e= .returned (.tuple #[])/\SR F ⟨s.n,s.env,hp'⟩ R act w' by
  refine key.mono λe w' ⟨T,hsr⟩=>?_;subst T;exact ⟨R,hsr.put (I4 hd) (.d (.tup Z λi c v hc=>by cases hc)),λ_ _ _=>rfl⟩
 have r0:=hs.ev hx;have r1:=hfa _ _ _ _ (hs.ev hy);have hg0:=ho;have h3:=hs.heap;have S:=BA hh;obtain ⟨us,q1,q2,q3⟩:=h3.sim f 0 _ hg0;show Calls P (ρr.f 6) #[act.eval x,act.eval y] w _;rw[r1]
 generalize act.eval x=V0 at r0
 cases r0 with
 | own hρ hle=>
  rename_i N K a
  by_cases hx:l=[]
  .subst hx;refine (AnyF.slices_SortFunc_none {L with} a K _ w).mono λe w' ⟨T,e2⟩=>?_;subst T e2;refine ⟨Z,hs.writeG f 0 _ _ ho S Z Z Z (Θ _) (Θ _) (λ_ _ _=>rfl) (λ_ _ e=>by cases e) λhrep=>?_⟩;rw[<-hu [] (List.Perm.refl _) List.Pairwise.nil]
   have hO2:∀t,F.O R hp' t->F.O R s.hp t:=λt h=>h.imp id λ⟨g,i,o,J,Y⟩=>by
    rw[S] at J
    split at J
    .rename_i e;obtain ⟨rfl,rfl⟩:=e;exact ⟨g,0,_,hg0,Y⟩
    .exact ⟨g,i,o,J,Y⟩
   exact ⟨us,q1,⟨q2.1,q2.2.1,λi x hx j c hc=>by
    obtain ⟨u,J,Y,h4⟩:=q2.2.2 i x hx j c hc
    exact ⟨u,J,Y,h4.mono (Θ _) (λ_ _ _=>rfl) λt _=>hO2 t⟩⟩,q3⟩
  .have hn:0<l.length:=m8.2 hx;have hul:us.length=l.length+M.length:=by have:=q2.1;rwa [Δ,χ,lu] at this
   have hblkeq:∃b B,a=some ⟨b,0,none⟩/\w.heap[b]? =some (.cells B E (0,0))/\B.size=K/\l.length+M.length<=K/\K<=maxLen/\B.toList.take (l.length+M.length)=us/\N=l.length+M.length:=by
    rcases q1.2 with ⟨_,h⟩ | ⟨b,cap',B,T,_,e2,e3,e4,e5,e6⟩
    .rw[Δ,χ] at h;omega
    .rw[hρ] at T;injection T with T e7 e8
     subst T e8;rw[Δ,χ] at e3 e6 e7;exact ⟨b,B,Z,e2,by omega,e3,e4,by rwa [lu] at e6,e7⟩
   obtain ⟨b,B,rfl,p1,p2,p3,p3',p4,rfl⟩:=hblkeq;have hb:CB (R f 0)=some b:=by rw[hρ];rfl
   have hOb:F.O R s.hp b:= .inr ⟨f,0,_,hg0,hb⟩;have hlt:b<w.heap.size:=(ld.1 p1).1;have hOl:∀t,F.O R s.hp t->t<w.heap.size:=λt h=>h3.ltO h
   have hus:∀i,i<l.length+M.length->us[i]? =B[i]?:=λi I=>by
    have h:=jq (·[i]?) p4
    change (B.toList.take (l.length+M.length))[i]? =us[i]? at h
    rw[mf I,ly] at h;exact h.symm
   let x0:τ:=l[0]
   let W:Nat->Nat:=λi=>if i<l.length then i else 0
   have X:∀i,W i<l.length:=λi=>by show (if _ then _ else _)<_;split<;>omega
   let el:Nat->τ:=λi=>(l[W i]?).getD x0
   have hel:∀i,el i∈l:=λi=>by
    show (l[W i]?).getD x0∈l;rw[ω (X i)];exact ϑ (X i)
   have heli:∀i (I:i<l.length),el i=l[i]:=λi I=>by
    show (l[W i]?).getD x0=_;rw[show W i=i from ϱ I,ω I];rfl
   let r:Nat->Value:=λi=>(us[W i]?).getD undef
   have henc:∀i,us[W i]? =some (r i):=λi=>by
    have h:W i<us.length:=by have:=X i;omega
    show us[W i]? =some ((us[W i]?).getD undef);rw[ω h];rfl
   let cf':Nat->Nat->Int:=λi j=>cf (el i) (el j)
   have hO':SWO (ltOf cf'):=⟨λx=>hO.irrefl (el x),λx y z=>hO.trans (el x) (el y) (el z),λx y z=>hO.ntrans (el x) (el y) (el z)⟩
   have hrow:∀i,((l.map A++M)[W i]?)=some (A (el i)):=λi=>by
    rw[nT (by rw[χ];exact X i),ς,ω (X i)];show some (A _)=some (A ((l[W i]?).getD x0));rw[ω (X i)];rfl
   have H:∀i,(r i).oneCell'=true/\AZ w (F.O R s.hp) (A (el i)) (r i):=λi=>by
    obtain ⟨u,J,Y,h4⟩:=q2.2.2 _ _ (hrow i) 0 (A (el i)) (by rw[hag];rfl);rw[lu,l7,henc] at J;injection J with J;subst J
    exact ⟨Y,h4⟩
   have henc1:OneCell r:=λi=>(H i).1;have hd0:∀i,i<l.length->(Array.range l.length)[i]! =i:=λi I=>by rw[getElem!_pos _ i (by simpa using I)];simp
   have hcu:∀i,i<l.length->B[i]? =some (r i):=λi I=>by
    rw[<-hus i (by omega)];have:=henc i
    rwa [show W i=i from ϱ I] at this
   have hH:Holds r w b 0 (Array.range l.length):=by
    intro j hj;simp only[mm] at hj;rw[hd0 _ hj];refine ⟨?_,?_⟩
    .simp only[World.cell?,p1,lU];rw[hcu j hj];rfl
    .simp only[World.frozen?,p1]
     simp
   have hcmp:CmpLays1 P g #[] r cf' b 0 (Array.range l.length).size w:=by
    intro m os dk _ x y;have Q:w.heap.size<=(sortWorld r w b 0 m dk os).heap.size:=He;have hW:∀t,t<w.heap.size->¬F.O R s.hp t->(sortWorld r w b 0 m dk os).heap[t]? =w.heap[t]?:=λt hl hno=>vB (λe=>hno (e▸hOb)) hl;have ra:=(H x).2.mono Q hW (λ_ _ h=>h);have rb:=(H y).2.mono Q hW (λ_ _ h=>h)
    refine (Sl (hc (el x) (hel x) (el y) (hel y)) (w:=sortWorld r w b 0 m dk os) (λt h=>li (hOl t h) Q) (vs:=[r x,r y]) Z (λi a v ha hv=>?_)).mono λe w' ⟨v,T,e2,e3,e4,e5⟩=>⟨?_,Ph e3 e4 e5⟩
    .match i,ha,hv with
     | 0,ha,hv=>injection ha with ha;injection hv with hv;subst ha hv;exact .d ra
     | 1,ha,hv=>injection ha with ha;injection hv with hv;subst ha hv;exact .d rb
    .cases e2 with
     | raw _=>exact T
   have eg:∀args w,(callFunc g args).run P w= .ok (.enter g args) w:=enters_of hfn hnm hbody;have key:=Any.slices_SortFunc L r henc1 cf' hO' g #[] b 0 K (Array.range l.length) w eg hcmp hH hlt (by simpa using hsz);rw[mm] at key;refine key.mono λe w' ⟨T,U,n,os,hp,hsort,hw⟩=>?_;subst T hw;obtain ⟨s1,_,s3⟩:=hp;rw[mm] at s1
   have hperm:U.toList.Perm (List.range l.length):=by
    have T:U.extract 0 l.length=U:=by rw[<-s1];exact Array.extract_size
    have e2:(Array.range l.length).extract 0 l.length=Array.range l.length:=by
     conv=>lhs;arg 3;rw[<-mm (n:=l.length)]
     exact Array.extract_size
    rw[T,e2] at s3
    simpa using s3
   refine ⟨Z,?_⟩
   have hys:U.toList.map el=V:=by
    apply hu
    .refine (hperm.map el).trans (List.Perm.of_eq ?_)
     apply lg (by simp)
     intro i h5 h6;simp only[kT,List.getElem_range];exact heli i h6
    .rw[l4];intro i j I hj hij;simp only[χ,m7] at I hj;have:=hsort i j (κ _) hij (by omega);rw[getElem!_pos _ j hj,getElem!_pos _ i I] at this;simp only[ltOf,decide_eq_false_iff_not] at this
     simpa using this
   have hlen':V.length=l.length:=by rw[<-hys];simp[s1]
   have Q:w.heap.size<=(sortWorld r w b 0 n U os).heap.size:=He;have hW:∀t,t<w.heap.size->¬F.O R s.hp t->(sortWorld r w b 0 n U os).heap[t]? =w.heap[t]?:=λt hl hno=>vB (λe=>hno (e▸hOb)) hl
   have hheap:(sortWorld r w b 0 n U os).heap[b]? =some (.cells (putCells r 0 U B) E (0,0)):=by
    unfold sortWorld;rw[Go.Sort.heap_grow_old _ _ (by rw[Go.Sort.size_putRow];exact hlt)];show (w.heap.modify b _)[b]? =_;rw[mj,ϱ Z,p1];rfl
   have hcs:(putCells r 0 U B).size=K:=by simp only[putCells,Array.size_mapIdx];omega
   have hO2:∀t,F.O R hp' t->F.O R s.hp t:=λt h=>h.imp id λ⟨g,i,o,J,Y⟩=>by
    rw[S] at J
    split at J
    .rename_i e;obtain ⟨rfl,rfl⟩:=e;exact ⟨g,0,_,hg0,Y⟩
    .exact ⟨g,i,o,J,Y⟩
   have cj:∀i,i<l.length+M.length->(putCells r 0 U B).toList[i]? =if h:i<l.length then some (r (U[i]'(by omega))) else us[i]?:=λi I=>by
    rw[ly,lJ (by omega)];simp only[putCells,Array.getElem_mapIdx]
    by_cases h:i<l.length
    .rw[ϱ ⟨κ _,by omega⟩,dif_pos h];simp only[Nat.sub_zero];rw[getElem!_pos _ i (by omega)]
    .rw[ν (λY=>h (by omega)),dif_neg h,hus i I,lJ (by omega)]
   refine hs.writeG f 0 _ _ ho S Z Z Z Q (Nat.le_add_right _ _) (λt hl hno=>vB (λe=>hno (by rw[e];exact hb)) hl) (λ_ _ e=>by cases e) λhrep=>?_;have hlr:(V.map A++M).length=l.length+M.length:=by rw[Δ,χ,hlen']
   have hlu:((putCells r 0 U B).toList.take (l.length+M.length)).length=(V.map A++M).length*1:=by
    have e2:(putCells r 0 U B).toList.length=K:=hcs;rw[hlr,lu,η,e2];exact Nat.min_eq_left p3
   refine ⟨(putCells r 0 U B).toList.take (l.length+M.length),⟨hlu,.inr ⟨b,K,_,by rw[hρ,hlr],κ _,hheap,by rw[hlr];exact p3,p3',by omega,by rw[hlr,lu]⟩⟩,⟨hlu,λx C=>?_,λi x C j c G=>?_⟩,λx C c G=>?_⟩
   .rcases υ.1 C with h | h
    .obtain ⟨y,_,rfl⟩:=Γ.1 h;rw[hag];rfl
    .exact q2.2.1 _ (υ.2 (.inr h))
   .have I:i<l.length+M.length:=by rw[<-hlr];exact (φ.1 C).1
    by_cases h:i<l.length
    .rw[nT (by rw[χ];omega),ς,<-hys,ς,ly,lJ (by omega)] at C;injection C with C;subst C
     rw[hag] at G
     match j,G with
     | 0,G=>
      injection G with G;subst G
      exact ⟨_,by rw[lu,l7,mf I,cj i I,dif_pos h],(H _).1,(H _).2.mono Q hW λt _=>hO2 t⟩
    .rw[qw (by rw[χ];omega),χ,hlen'] at C;obtain ⟨u,J,Y,h4⟩:=q2.2.2 i x (by rw[qw (by rw[χ];omega),χ];exact C) j c G
     have hj:j=0:=by
      have J:x.cells.length=1:=q2.2.1 x (υ.2 (.inr (ϖ C)));have:=(φ.1 G).1;omega
     subst hj;rw[lu,l7] at J;exact ⟨u,by rw[lu,l7,mf I,cj i I,dif_neg h];exact J,Y,h4.mono Q hW λt _=>hO2 t⟩
   .rcases υ.1 C with h | h
    .obtain ⟨y,_,rfl⟩:=Γ.1 h;rw[hag] at G
     obtain ⟨k,hk⟩:∃k,el k=y\/y∉l:=by
      by_cases hy:y∈l
      .obtain ⟨k,hk,e⟩:=mK.1 hy;exact ⟨k,.inl ((heli k hk).trans e)⟩
      .exact ⟨0,.inr hy⟩
     have hyx:y∈l:=by
      rename_i hy
      rw[<-hys] at hy;obtain ⟨q,_,rfl⟩:=Γ.1 hy;exact hel q
     exact q3 (A y) (υ.2 (.inl (Γ.2 ⟨y,hyx,Z⟩))) c (by rw[hag];exact G)
    .exact q3 x (υ.2 (.inr h)) c G
end
end Go.Proofs.YteifpcnphnhaoaaGreat
namespace Go.Proofs.YteifpcnphnhaoaaGreat
open Go.RowKit
variable{a:List (List Nat)}{k:Nat}
set_option maxRecDepth 100000
def Gq(l:List Nat):Bool:=decide (l.length<2)
theorem Za(l:List Nat)(a:l.length<=100000):AI prog 82 [.d (j0 l)] (Am (Gq l)):=by
 refine As func82 Z Z ntmps82 Z Z Z λF b=>(AD (AF (AB Z Z ?_)));refine AC (AD (AF (ch Z Z (J (BU Z E0 Z) (J (At Z Z Z) (AB Z Z (AC (A4 ?_))))))));exact ⟨_,[],_,A2 Z,Z,Z,XJ (by omega),Z⟩
def kI(l:List Nat):Int:=((l.getD 0 0:Nat):Int)
theorem qI(a b:List Nat)(h:0<a.length)(g:0<b.length)(f:a.getD 0 0<=100000)(c:b.getD 0 0<=100000):AI prog 84 [.d (j0 a),.d (j0 b)] (AE (kI a-kI b)):=by
 have j:a.getD 0 0=a[0]:=by rw[Ψ,ω h];rfl
 have i:b.getD 0 0=b[0]:=by rw[Ψ,ω g];rfl
 unfold kI;rw[j] at f⊢;rw[i] at c⊢;refine As func84 Z Z ntmps84 Z Z Z λF k=>(AD (AF (AB Z Z (AC (AD (Bq [[],[0],[0,1],[],[3],[3,4],rg 6,rg 7] mixed Z (B2 (A7 0 Z Z ?_))))))));refine AK [5] Z (Al (0) Z Z (Z) (AP h) E0 Z BK Z) (AK [6] Z (BZ Z Z Ai Z) (A7 1 Z Z (AK [8] Z (Al (0) Z Z (Z) (AP g) E0 Z BK Z) (AK [9] Z (BZ Z Z Ai Z) (BV 6 Z Z Z (A0 7 Z Z (J (ME Z Z (Ξ _ (by omega)) Z) (AC ⟨Z,?_⟩))))))));refine A0 8 Z Z (AB Z Z (AC ⟨Z,?_⟩));refine Bb (A4 ?_);exact ⟨_,[],[],A2 Z,Z,Z,Z,Z⟩
theorem tw(l:List (List Nat))(r:l.length<=100000)(g:∀c∈l,c.length<=100000):AI prog 135 [.d (.sl none (l.map j0)),.d (.fn 82 [] [])] (AE (QV Gq l)):=by
 refine As func135 Z Z ntmps135 Z Z Z λF s=>(AD (AF (AB Z Z (AC ?_))));refine AD (AD (AF (ch Z Z (J (BU Z R4 Z) (ch Z Z (AC (AX (FQ (α:=Nat) (λk=>⟨19,[(0,.d (.sl none (l.map j0))),(1,.d (.fn 82 [] [])),(7,(.d (AE (l.length:Int)))),(8,(.d (AE (k:Int))))],[]⟩) (λk=>k<=l.length/\∀x∈l.take k,Gq x=false) (λk=>l.length-k) (0) (⟨κ _,by simp⟩) (Zn ⟨Z,Z,Z,Z,trivial⟩) ?_))))))));rintro k ⟨o,i⟩;refine AD (AF (J (At Z Z Z) (AC (AD (A5 Z (λj=>?_) (λj=>?_))))))
 .have a:k<l.length:=BF j;refine AU (AD (AX (AD (AF (ch Z Z (AB Z Z (AC (AD ?_))))))));refine AF (ch Z Z (ch Z Z (ch Z Z (J (Al (k) Z Z (Z) (AP a) R4 Z DQ Z) (J (BZ Z Z BL Z) (J (MS (Za l[k] (g _ (ϑ a))) Z Z) (AC (A5 Z (λf=>?_) (λf=>?_)))))))))
  .refine AD (AF (ch Z Z (AB Z Z (AC (A4 ?_)))));exact ⟨_,[],[],A2 Z,Z,Z,Ae (by unfold QV;rw[IB a i (by unfold Gq;simpa using f)]),Z⟩
  .refine AU (AF (J (Ad Z Z (AJ (k+1) (by omega)) Z) (ch Z Z (AC ?_))));exact ⟨k+1,⟨by show k+1<=_;omega,by rw[ψ a];intro x b;rcases υ.1 b with b | b;exact i x b;rw[ξ.1 b];unfold Gq;simpa using f⟩,by show l.length-(k+1)<l.length-k;omega,⟨Z,Z,λ_ _=>S3.get (l:=[(0,_),(1,_),(7,_),(8,_)]) ⟨Z,Z,Z,Z,trivial⟩⟩⟩
 .refine Aq (AD (AF (AB Z Z (AC (A4 ?_)))));exact ⟨_,[],[],A2 Z,Z,Z,Ae (by unfold QV;rw[Jk (λx b=>i x (by rw[θ (by have h:=j;omega)];exact b))]),Z⟩
def k8(l:List (List Nat)):List (List Nat):=l.filter λx=>!Gq x
theorem ZK(h:∀x∈a,Gq x=false):k8 a=a:=qy.2 λx b=>by rw[h x b];rfl
theorem tW(b:k<a.length)(h:Gq a[k]=false):k8 (a.take (k+1))=k8 (a.take k)++ [a[k]]:=by
 unfold k8;rw[cO b,ϱ (by rw[h];rfl)]
theorem ZJ(b:k<a.length)(h:Gq a[k]=true):k8 (a.take (k+1))=k8 (a.take k):=by grind[k8,cO]
theorem gE(l:List (List Nat)):(k8 l).length<=l.length:=lE _ _
def eO:Option (List Nat)->D
 | some l=>j0 l
 | none=> .raw (.slice none 0 0)
theorem iR(l:List (List Nat)):l.map j0=(l.map some).map eO:=by rw[jw];rfl
theorem uU(l:List (List Nat))(S:l.length<=100000)(z:∀c∈l,c.length<=100000):AO prog 81 [.own 10 0 l.length,.d (.fn 82 [] [])] [(10,[.rowD 28 1 (l.map j0)])] λr T=>r= .own 10 0 (k8 l).length/\T=[(10,[.rowD 28 1 ((k8 l).map j0++(List.replicate (l.length-(k8 l).length) none).map eO)])]:=by
 have f:=tw l S z
 cases hfi:l.findIdx? Gq with
 | none=>
  have G:∀x∈l,Gq x=false:=λx I=>by have:=List.findIdx?_eq_none_iff.1 hfi x I;simpa using this
  have b:QV Gq l= -1:=by unfold QV;rw[hfi]
  rw[b] at f;have A:=ZK G;refine As func81 Z Z ntmps81 Z Z Z λF H=>(AD (AF (AB Z Z (AC (AD (AF ?_))))));refine ch Z Z (ch Z Z (J (Fe [10] f (by exact ⟨.inr ⟨_,_,Z,.own Z Z (by simp) (θ (by simp)),Z⟩,.inl Z,trivial⟩) Z Z) (AB Z Z (AC (AD (AD (AF (ch Z Z ?_))))))));refine J (Fa Z Z Z) (AC (CM Z (Z) (AD (AF (ch Z Z (AB Z Z (AC (A4 ?_))))))));exact ⟨_,[10],_,A2 Z,Z,Z,by rw[A],by rw[A];simp⟩
 | some k=>
  obtain ⟨L,B,C⟩:=List.findIdx?_eq_some_iff_getElem.1 hfi;have b:QV Gq l=(k:Int):=by unfold QV;rw[hfi]
  rw[b] at f
  have y:∀x∈l.take k,Gq x=false:=λx I=>by
   obtain ⟨j,U,rfl⟩:=mz.1 I;have:=C j (by omega)
   simpa using this
  rw[iR l] at f⊢;have K:k8 (l.take (k+1))=l.take k:=by rw[ZJ L B,ZK y]
  refine As func81 Z Z ntmps81 Z Z Z λF H=>(AD ?_);refine AF (AB Z Z (AC (AD (AF (ch Z Z (ch Z Z (J (Fe [10] f (by exact ⟨.inr ⟨_,_,Z,.own Z Z (by simp) (θ (by simp)),Z⟩,.inl Z,trivial⟩) Z Z) (AB Z Z ?_))))))));refine AC (AD (AD (AF (ch Z Z (J (Fa Z Z Z) (AC (Cq Z ((kC (by omega))) (AU ?_))))))));refine AD (AD (AF (ch Z Z (J (Ad Z Z (AJ (k+1) (by omega)) Z) (AB Z Z (AC (AX (BC (α:=Nat×Nat×List (Option (List Nat))) (λq=>⟨42,[(0,(.own 10 0 l.length)),(1,(.d (.fn 82 [] []))),(5,(.d (AE (q.1:Int)))),(6,(.d (AE (q.2.1:Int))))],[(10,[.rowD 28 1 (q.2.2.map eO)])]⟩) (λq=>q.2.1<=l.length/\q.1<q.2.1/\q.2.2.length=l.length/\q.2.2.take q.1=(k8 (l.take q.2.1)).map some/\q.2.2.drop q.2.1=(l.drop q.2.1).map some) (λq=>l.length-q.2.1) ((k,k+1,l.map some)) (⟨by show k+1<=_;omega,mN _,by show (l.map some).length=_;simp,by show (l.map some).take k=_;rw[K,List.map_take],by show (l.map some).drop (k+1)=_;rw[List.map_drop]⟩) (AR H [10] Z Z ⟨Z,Z,Z,Z,trivial⟩) ?_))))))));rintro ⟨i,j,c⟩ ⟨N,O,g,o,s⟩;dsimp only at N O g o s⊢;refine AD (AD (AF (ch Z Z (ch Z Z (J (SZ Z R4 Z) (J (At Z Z Z) (AC (A5 Z (λw=>?_) (λw=>?_)))))))))
  .have a:j<l.length:=BF w;refine AU (AD (AX (AD (AF ?_))));have D:j<c.length:=by omega
   have Q:c[j]=some l[j]:=by have R:(c.drop j)[0]? =((l.drop j).map some)[0]?:=by {rw[s]};rw[ms,ς,ms,l7,ω D,ω a] at R;injection R
   refine ch Z Z (ch Z Z (J (D1 (j) Z Z (Z) (a) Z R4 DQ Z) (J (E1 Z Z ((show (c.map eO)[j]? =some (j0 l[j]) from by rw[ς,ω D,Q];rfl)) Z BL Z) ?_)));refine AB Z Z ?_;refine AC (AD (AF (ch Z Z (ch Z Z (J (MS (Za l[j] (z _ (ϑ a))) Z Z) (J (Jq Z Z) (AC (A5 Z (λv=>?_) (λv=>?_)))))))))
   .have u:Gq l[j]=false:=by unfold Gq;simpa using v
    refine AD (AF (ch Z Z (ch Z Z (ch Z Z (J (D1 (i) Z Z (Z) ((by omega)) Z R4 DQ Z) (V (HB (c) (some l[j]) Z Z Z Z Z Z (by omega) Z DQ) (AC (AF ?_))))))));refine ch Z Z (J (Ad Z Z (AJ (i+1) (by omega)) Z) (AB Z Z (AC (AF (ch Z Z (J (Ad Z Z (AJ (j+1) (by omega)) Z) (AB Z Z (AC ?_))))))));exact ⟨(i+1,j+1,_),⟨by show j+1<=_;omega,by show i+1<j+1;omega,by show (c.set i (some l[j])).length=_;rw[kn];exact g,by show (c.set i (some l[j])).take (i+1)=(k8 (l.take (j+1))).map some;rw[tW a u,jy,<-o,ψ (by rw[kn];omega),List.getElem_set_self,List.take_set_of_le (Θ i)];rfl,by show (c.set i (some l[j])).drop (j+1)=(l.drop (j+1)).map some;rw[List.drop_set_of_lt (by omega),<-List.tail_drop,<-List.tail_drop,s,List.map_tail]⟩,by show l.length-(j+1)<l.length-j;omega,AR H [10] Z (Z) ⟨Z,Z,Z,Z,trivial⟩⟩
   .have u:Gq l[j]=true:=by unfold Gq;simpa using v
    refine AU (AF (ch Z Z (J (Ad Z Z (AJ (j+1) (by omega)) Z) (AB Z Z (AC ?_)))));exact ⟨(i,j+1,c),⟨by show j+1<=_;omega,by show i<j+1;omega,g,by show c.take i=(k8 (l.take (j+1))).map some;rw[ZJ a u,o],by show c.drop (j+1)=(l.drop (j+1)).map some;rw[<-List.tail_drop,<-List.tail_drop,s,List.map_tail]⟩,by show l.length-(j+1)<l.length-j;omega,AR H [10] Z (Z) ⟨Z,Z,Z,Z,trivial⟩⟩
  .refine Aq (AD ?_);have M:j=l.length:=by have h:=w;omega
   have t:c.take i=(k8 l).map some:=by rw[o,M,kV]
   have E:i=(k8 l).length:=by have h:=jq List.length t;rw[η,χ] at h;omega
   refine AF (ch Z Z (ch Z Z (Uv (emb:=eO) (zd:=none) c i Z Z Z Z g.symm Z (by omega) R4 DQ zeroValue28 Z Z Z Z Z Z ?_)));refine AC (AD (AF (ch Z Z (ch Z Z (J (J4 (i) Z Z Z (by simp only[χ,Δ,η,List.length_replicate];omega) Z R4 DQ Z) (AB Z Z (AC (A4 ?_))))))));exact ⟨_,[10],_,A2 Z,Z,Z,by rw[<-E],by rw[t,g,E,jy,<-iR]⟩
end Go.Proofs.YteifpcnphnhaoaaGreat
namespace Go.Proofs.YteifpcnphnhaoaaGreat
end Go.Proofs.YteifpcnphnhaoaaGreat
namespace Go.Proofs.YteifpcnphnhaoaaGreat
open Go.RowKit
variable{a:Nat->Nat->Value}{c:Act}{w:World}{F:Fr}{f:Hp}{s:AS}{M:MF}
set_option maxRecDepth 100000
def qs(M:MF)(x y:D):Prop:=x=y\/∃h T zs,x=ji h zs.length/\BX M h T 1 zs/\(∀z∈zs,z.one=true)/\y= .sl none zs
theorem AZ.melt(hs:SR F s a c w){g:Nat}(S:dr s.hp g=some [.multi M])(O:∀b,F.O a f b->F.O a s.hp b)(N:∀i o b,cj s.hp g i=some o->CB (a g i)=some b->¬F.O a f b){x y:D}{v:Value}(hm:qs M x y)(H:AZ w (F.O a f) x v):AZ w (F.O a f) y v:=by
 rcases hm with rfl | ⟨h,T,C,rfl,l,G,rfl⟩
 .exact H
 .match h,l with
  | none,l=>
   have l:C=[]:=l;subst l
   cases H with
   | raw _=>exact .sl 0 (λb r=>by cases r) (λ_=>rfl) Z (Θ _) (κ _) (λx hx=>by cases hx) (λh=>absurd Z h) (λb o r=>by cases r)
  | some (b,j),l=>
   obtain ⟨hle,r⟩:=l
   cases H with
   | raw _=>
    obtain ⟨E,us,g1,U,g3⟩:=hs.rowN S r;obtain ⟨k,cap,e,Y,X,q3,W⟩:=Hl g1;injection e with e1 e2 e3
    subst e1 e3
    have K:∀z∈C,z.cells=[z]:=λz B=>by
     have h1:=G z B;have h2:=U.2.1 z B
     cases z with
     | agg cs=>simp[D.one] at h1
     | _=>rfl
    refine .sl 1 (λb r=>by cases r) (λh=>by cases h) Z Y X (λz B=>by rw[K z B];rfl) (λ_=>⟨b,0,Z⟩) (λb' o t i z J=>?_);injection t with t
    injection t with hb1 hb2
    subst hb1 hb2;have hil:i<C.length:=(φ.1 J).1;obtain ⟨b2,cur,A,R,r3,V⟩:=W (by omega);injection A with A
    injection A with A
    subst A;have I:b<w.heap.size:=(ld.1 R).1
    have hex:∀(q:Nat) j,z.cells[q]? =some j->∃u,w.cell? ⟨b,0+i*1+q,none⟩=some u/\AZ w (F.O a f) j u:=λq Q L=>by
     obtain ⟨u,d1,d2,d3⟩:=U.2.2 i z J q Q L;exact ⟨u,by rw[lU];exact EI R V d1,d3.mono (Θ _) (λ_ _ _=>rfl) λb _=>O b⟩
    refine .ptr (λq=>(w.cell? ⟨b,0+i*1+q,none⟩).getD undef) I (N b _ b (by rw[Gv S,r];rfl) (by rw[E];rfl)) (g3 z (ϖ J)) (λq Q L=>?_) (λq Q L=>?_)
    .grind
    grind
theorem SR.melt(U:SR F s a c w)(g i b:Nat){T:TypeId}{o B:List D}{v:List (Nat×AV)}{G A:Hp}(W:dr s.hp b=some [.multi M])(hE:Ab b s.env=some v)(hH:A9 b s.hp=some G)(hh:Ce b G=some A)(V:cj A g i=some (.rowD T 1 o))(l:B.length=o.length)(K:∀(j:Nat) x y,o[j]? =some x->B[j]? =some y->qs M x y)(I:(∀x∈o,x.one=true)/\∀y∈B,y.one=true)(C:Ba A g i (.rowD T 1 B)=some f):SR F ⟨s.n,v,f⟩ a c w:=by
 obtain ⟨X,O,N⟩:=U.forget b hE hH hh (λj t cs e=>by
  rw[Gv W] at e
  cases hm:M j with
  | none=>rw[hm] at e;cases e
  | some m=>rw[hm] at e;injection e with e;exact Au.notBlk e)
 have k:∀z:D,z.one=true->z.cells=[z]:=λz hz=>by
  cases z with
  | agg cs=>simp[D.one] at hz
  | _=>rfl
 refine X.write g i (.rowD T 1 o) (.rowD T 1 B) V (BA C) Z Z Z Z (λ_ _=>rfl) (λ_ _ e=>by cases e) λE=>?_;obtain ⟨Y,k1,R,k3⟩:=X.heap.sim g i _ V;refine ⟨Y,by rw[l];exact k1,⟨by rw[l];exact R.1,λy J=>by rw[k y (I.2 y J)];rfl,λj y L q h r=>?_⟩,λy J h r=>by rw[k y (I.2 y J),ξ] at r;rw[r];exact I.2 y J⟩;have H:j<o.length:=by rw[<-l];exact (φ.1 L).1
 have S:o[j]? =some o[j]:=ω H;rw[k y (I.2 y (ϖ L))] at r
 cases q with
 | succ q=>cases r
 | zero=>
  injection r with r
  subst r;obtain ⟨u,d1,d2,d3⟩:=R.2.2 j _ S 0 _ (by rw[k _ (I.1 _ (ϑ H))];rfl);refine ⟨u,d1,d2,?_⟩;have h3:=AZ.melt U W O N (K j _ _ S L) d3;have Q:=E (.d y) u (.d h3)
  cases Q with | d Q=>exact Q
section
variable{P:Program}{F:Fr}{Q:Exit->AS->Prop}{c:Code}{n:Nat}{env env':List (Nat×AV)}{hp hp1 hp2 hp':Hp}
theorem jN(g i f:Nat){M:MF}{T:TypeId}{l:List D}(k:List D)(z:dr hp f=some [.multi M])(B:Ab f env=some env')(A:A9 f hp=some hp1)(v:Ce f hp1=some hp2)(u:cj hp2 g i=some (.rowD T 1 l))(b:k.length=l.length)(o:∀(j:Nat) x y,l[j]? =some x->k[j]? =some y->qs M x y)(C:(∀x∈l,x.one=true)/\∀y∈k,y.one=true)(a:Ba hp2 g i (.rowD T 1 k)=some hp')(h:CK P F c Q ⟨n,env',hp'⟩):CK P F c Q ⟨n,env,hp⟩:=
 λs r w t=>h s r w (t.melt g i f z B A v u b o C a)
end
theorem SR.weakRow{F:Fr}{s:AS}{I:Nat->Nat->Value}{B:Act}{w:World}(L:SR F s I B w)(g i:Nat){T:TypeId}{f k:List D}{r:Hp}(M:cj s.hp g i=some (.rowD T 1 f))(b:k.length=f.length)(E:∀(j:Nat) x y,f[j]? =some x->k[j]? =some y->∀w O v,AZ w O x v->AZ w O y v)(A:(∀x∈f,x.one=true)/\∀y∈k,y.one=true)(l:Ba s.hp g i (.rowD T 1 k)=some r):SR F ⟨s.n,s.env,r⟩ I B w:=by
 have a:∀z:D,z.one=true->z.cells=[z]:=λz R=>by
  cases z with
  | agg U=>simp[D.one] at R
  | _=>rfl
 refine L.write g i (.rowD T 1 f) (.rowD T 1 k) M (BA l) Z Z Z Z (λ_ _=>rfl) (λ_ _ e=>by cases e) λo=>?_;obtain ⟨N,Q,J,S⟩:=L.heap.sim g i _ M;refine ⟨N,by rw[b];exact Q,⟨by rw[b];exact J.1,λy C=>by rw[a y (A.2 y C)];rfl,λj y G q c h=>?_⟩,λy C c h=>by rw[a y (A.2 y C),ξ] at h;rw[h];exact A.2 y C⟩;have t:j<f.length:=by rw[<-b];exact (φ.1 G).1
 have K:f[j]? =some f[j]:=ω t;rw[a y (A.2 y (ϖ G))] at h
 cases q with
 | succ q=>cases h
 | zero=>
  injection h with h
  subst h;obtain ⟨u,d1,d2,d3⟩:=J.2.2 j _ K 0 _ (by rw[a _ (A.1 _ (ϑ t))];rfl);refine ⟨u,d1,d2,?_⟩;have H:=o (.d y) u (.d (E j _ _ K G _ _ _ d3))
  cases H with | d H=>exact H
section
variable{P:Program}{F:Fr}{Q:Exit->AS->Prop}{c:Code}{n:Nat}{env:List (Nat×AV)}{hp hp':Hp}
theorem SW(g i:Nat){T:TypeId}{k:List D}(f:List D)(t:cj hp g i=some (.rowD T 1 k))(b:f.length=k.length)(l:∀(j:Nat) x y,k[j]? =some x->f[j]? =some y->∀w O v,AZ w O x v->AZ w O y v)(u:(∀x∈k,x.one=true)/\∀y∈f,y.one=true)(a:Ba hp g i (.rowD T 1 f)=some hp')(h:CK P F c Q ⟨n,env,hp'⟩):CK P F c Q ⟨n,env,hp⟩:=
 λr o w s=>h r o w (s.weakRow g i t b l u a)
end
variable{a:Nat->List Nat}{c:Nat}{g:List (List Nat)}{f:Nat->Nat}{h:List (List Int)}{i:Nat->List Nat}{j:List Nat}{k:List (Nat×Nat)}{o:Nat}{S:TS}{s:Nat}{t:Option Nat}{u:Nat->Nat}{w:Nat}{x:Nat->Hd}{y:Nat}{z:List (Nat×Nat)}{K:Nat->Nat}{A:Nat->Int}{B:Nat}{C:List (Nat×Nat)}{E:List Nat}{F G:Nat}{H:Nat->Nat}{M:MF}{I:Nat}
structure OD (M:MF) (n:Nat) (hs:Nat->Hd) (ls:Nat->List Nat):Prop where
 at_:∀j,j<n->BX M (hs j) 3 1 ((ls j).map AY)
 inj:∀j k b c c',j<n->k<n->hs j=some (b,c)->hs k=some (b,c')->j=k
abbrev lA(n:Nat)(hs:Nat->Hd)(ls:Nat->List Nat):List D:=(List.range n).map λj=>ji (hs j) (ls j).length
theorem LB(h:F<c):(lA c x i)[F]? =some (ji (x F) (i F).length):=by simp[h]
theorem Fz(n:Nat)(b:Nat->Hd)(a:Nat->List Nat):(lA n b a).length=n:=by simp
theorem UZ{h:Hd}:(lA c x i).set F (ji h j.length)=lA c (BH x F h) (BH i F j):=by grind[OK,H5,MJ]
theorem OD.zero(n:Nat):OD (λ_=>none) n (λ_=>none) (λ_=> []):=⟨λ_ _=>rfl,λ_ _ _ _ _ _ _ h=>by cases h⟩
theorem OD.app(h:OD M c x i)(D:F<c){b:Nat}(G:Bo M (x F) b=none)(E:(j.map AY).length<=B):
  OD (Bh (Bo M (x F)) b (.row 3 1 B (j.map AY))) c (BH x F (some (b,B))) (BH i F j):=by
 have u:∀k,k<c->k≠F->∀f s,x k=some (f,s)->f≠b/\Bh (Bo M (x F)) b (.row 3 1 B (j.map AY)) f=M f:=by
  intro k g v f s e;have a:=h.at_ k g;rw[e] at a;have z:∀o,x F≠some (f,o):=λo t=>v (h.inj k F f s o g D e t);refine ⟨λH=>?_,?_⟩
  .subst H;have:=K4 a.2 z
   grind
  .rw[l9 G a.2 z,a.2]
 refine ⟨λk g=>?_,λk y K J I g w C t=>?_⟩
 .by_cases e:k=F
  .subst e;rw[MJ,MJ];exact ⟨E,H3 _ _ _⟩
  .rw[H5 e,H5 e];have a:=h.at_ k g
   match hh:x k,a with
   | none,a=>exact a
   | some (f,s),a=>exact ⟨a.1,by rw[(u k g e f s hh).2];exact a.2⟩
 .by_cases A:k=F<;>by_cases r:y=F
  .rw[A,r]
  .grind[MJ,H5]
  .grind[MJ,H5]
  .rw[H5 A] at C;rw[H5 r] at t;exact h.inj k y K J I g w C t
def gr(n:Nat)(ls:Nat->List Nat):List (List Nat):=(List.range n).map ls
theorem W2(n:Nat)(a:Nat->List Nat):(gr n a).length=n:=by simp[gr]
theorem V8(h:s<c):gf (gr c i) s=i s:=by
 rw[Fu (by rw[W2];exact h)];simp[gr]
theorem OD.melt(h:OD M c x i):∀(j:Nat) b y,(lA c x i)[j]? =some b->((gr c i).map j0)[j]? =some y->qs M b y:=by
 intro j b y f g;have k:j<c:=by have:=(φ.1 f).1;rwa [Fz] at this
 rw[LB k] at f;injection f with f
 rw[bb (by rw[W2];exact k),V8 k] at g;injection g with g
 subst f g;exact .inr ⟨x j,3,(i j).map AY,by rw[χ],h.at_ j k,λz l=>by obtain ⟨a,_,rfl⟩:=Γ.1 l;rfl,Z⟩
theorem LJ(n:Nat)(f:Nat->Hd)(b:Nat->List Nat):∀x∈lA n f b,x.one=true:=λx c=>by
 obtain ⟨a,_,rfl⟩:=Γ.1 c;rfl
theorem fJ(g:List (List Nat)):∀x∈g.map j0,x.one=true:=λx b=>by
 obtain ⟨a,_,rfl⟩:=Γ.1 b;rfl
theorem VA(n:Nat):∀(j:Nat) x y,(List.replicate n (D.sl (some true) []))[j]? =some x->(lA n (λ_=>none) (λ_=> []))[j]? =some y->∀w O v,AZ w O x v->AZ w O y v:=by
 intro j x y a b w O v g;have f:j<n:=by have:=(φ.1 a).1;rwa [List.length_replicate] at this
 rw[LB f] at b;injection b with b
 have c:x=D.sl (some true) []:=by rw[List.getElem?_replicate,ϱ f] at a;injection a with a;exact a.symm
 subst c b;exact g.nrm1
theorem Yk(n:Nat):∀x∈List.replicate n (D.sl (some true) []),x.one=true:=λx a=>by rw[(List.mem_replicate.1 a).2];rfl
theorem uF(g:List (List Nat))(K:Nat->Nat):∃a,S4 g K a/\∀y,¬DZ g a y:=by
 have j:∀(m:Nat) (l:List Nat),S4 g K l->g.length-l.length<=m->∃a,S4 g K a/\∀y,¬DZ g a y:=by
  intro m
  induction m with
  | zero=>
   intro l h t;refine ⟨l,h,λy c=>?_⟩;obtain ⟨A,w⟩:=Jf h;have:=cP (nA.2 ⟨c.2.1,A⟩) (m:=List.range g.length) λx o=>Ω.2 ((jt.1 o).elim (λe=>e▸c.1) (w x))
   grind
  | succ m s=>
   intro l h t
   by_cases v:∃y,DZ g l y
   .have f:∀(b:Nat) y,DZ g l y->K y<=b->∃x,DZ g l x/\∀z,DZ g l z->K x<=K z:=by
     intro b
     induction b with
     | zero=>intro y c B;exact ⟨y,c,λz _=>by omega⟩
     | succ b r=>
      grind
    obtain ⟨y,c⟩:=v;obtain ⟨x,o,k⟩:=f (K y) y c (Θ _);refine s (l++ [x]) (V7 h o k) ?_
    grind
   grind
 exact j _ [] (λi u=>by simp at u) (Θ _)
theorem Mc(g:List (List Nat))(K:Nat->Nat):S4 g K (kr g K)/\∀y,¬DZ g (kr g K) y:=Classical.epsilon_spec (p:=λa=>S4 g K a/\∀y,¬DZ g a y) (uF g K)
theorem o4{g:List (List Nat)}{K:Nat->Nat}(h:o<(kr g K).length):gs (kr g K) o<g.length:=(Jf (Mc g K).1).2 _ (EO h)
theorem fH(g:List (List Nat))(K:Nat->Nat):(kr g K).length<=g.length:=by
 obtain ⟨c,b⟩:=Jf (Mc g K).1;have:=cP c (m:=List.range g.length) λx a=>Ω.2 (b x a)
 grind
def nM(of:Nat->Nat)(n:Nat):Nat->Nat->Nat
 | 0=>λ_=>0
 | d+1=>BH (nM of n d) (of (n-1-d)) (n-1-d)
theorem Iz(a:Nat->Nat)(n:Nat):∀d,d<=n->∀c,(∃v,n-d<=v/\v<n/\a v=c)->a (nM a n d c)=c/\nM a n d c<n/\∀v,n-d<=v->v<n->a v=c->nM a n d c<=v
 | 0,_,c,⟨v,r,i,_⟩=>by omega
 | d+1,t,c,⟨v,r,i,h⟩=>by
  unfold nM
  by_cases e:c=a (n-1-d)
  .subst e;rw[MJ];exact ⟨Z,by omega,λv o _ _=>by omega⟩
  .rw[H5 e];have o:v≠n-1-d:=λf=>e (by rw[<-h,f]);obtain ⟨l,k,j⟩:=Iz a n d (by omega) c ⟨v,by omega,i,h⟩;refine ⟨l,k,λu s b g=>j u ?_ b g⟩;have:u≠n-1-d:=λf=>e (by rw[<-g,f]);omega
def We(of:Nat->Nat)(n cnt:Nat):List Nat:=(List.range cnt).map (nM of n n)
theorem OV{cnt:Nat}(h:B<cnt):gs (We f c cnt) B=nM f c c B:=by grind[We,Qi]
theorem oq(a:Nat->Nat)(n cnt:Nat):(We a n cnt).length=cnt:=by simp[We]
theorem dx(n:Nat)(f:Nat->Nat):rowN n f=((List.range n).map f).map AY:=by rw[jw];rfl
theorem tX{cnt:Nat}(h:kx c a f cnt):∀g b,g<cnt->b<cnt->gs (We f c cnt) g=gs (We f c cnt) b->g=b:=by
 intro g b k j e;rw[OV k,OV j] at e;obtain ⟨v,l,i⟩:=h.use g k;obtain ⟨u,r,o⟩:=h.use b j;have s:=(Iz f c c (Θ _) g ⟨v,by omega,l,i⟩).1
 grind[Iz]
def Z3(of:Nat->Nat)(a:Nat)(l:List Nat):List Nat:=(l.filter λx=>decide (of a≠of x)).map of
def O2(g:List (List Nat))(of:Nat->Nat)(i k c:Nat):List Nat:=((List.range i).flatMap λa=>if of a=c then Z3 of a (gf g a) else [])++if of i=c then Z3 of i ((gf g i).take k) else []
theorem iO(g:List (List Nat))(a:Nat->Nat):O2 g a 0 0=λ_=> []:=by funext c;simp[O2,Z3]
theorem Z0(g:List (List Nat))(a:Nat->Nat)(i:Nat):O2 g a i (gf g i).length=O2 g a (i+1) 0:=by grind[O2,ko,Z3]
theorem Vp{a:Nat}(b:o<j.length):Z3 f a (j.take (o+1))=Z3 f a (j.take o)++if f a≠f (gs j o) then [f (gs j o)] else []:=by grind[Z3,ψ,Qi]
theorem iP{of:Nat->Nat}(a:o<(gf g s).length)(h:of s≠of (gs (gf g s) o)):BH (O2 g of s o) (of s) (O2 g of s o (of s)++ [of (gs (gf g s) o)])=O2 g of s (o+1):=by grind[MJ,O2,Vp,H5]
theorem iQ{of:Nat->Nat}(a:o<(gf g s).length)(h:¬of s≠of (gs (gf g s) o)):O2 g of s o=O2 g of s (o+1):=by
 funext c
 unfold O2;rw[Vp a,ν h,kY]
def KP(g:List (List Nat))(i:Nat):Nat:=((List.range i).map λa=>(gf g a).length).sum
theorem Z2(b:Nat->Nat)(a:Nat)(l:List Nat):(Z3 b a l).length<=l.length:=by unfold Z3;rw[χ];exact lE _ _
theorem Z1(g:List (List Nat))(b:Nat->Nat)(i k c:Nat):(O2 g b i k c).length<=KP g i+((gf g i).take k).length:=by
 have f:∀m,((List.range m).flatMap λa=>if b a=c then Z3 b a (gf g a) else []).length<=KP g m:=by
  intro m
  induction m with
  | zero=>exact κ _
  | succ m h=>
   unfold KP at h⊢;rw[ko,List.flatMap_append,Δ,jy,mc,List.flatMap_singleton,nU,List.sum_singleton]
   grind[Z2]
 grind[O2,Z2]
theorem Qr(g:List (List Nat)){i j:Nat}(h:i<=j):KP g i<=KP g j:=by
 induction j with
 | zero=>
  have:i=0:=by omega
  subst this;exact Θ _
 | succ j a=>
  grind[KP,ko]
structure GT (g:List (List Nat)):Prop where
 gb:GB g
 tot:KP g g.length<=1048576
def Ln(g:List (List Nat))(of:Nat->Nat)(cnt:Nat):List (List Nat):=gr cnt (O2 g of g.length 0)
theorem uP{cnt:Nat}(o:GT g)(h:kx g.length (gf g) f cnt):GB (Ln g f cnt):=by
 have t:=o.gb.n;have s:=h.le;refine ⟨by rw[Ln,W2];omega,λl i=>?_,λl i x b=>?_⟩
 .obtain ⟨c,_,rfl⟩:=Γ.1 i;have:=Z1 g f g.length 0 c;have:=o.tot
  simp at*;omega
 .obtain ⟨c,_,rfl⟩:=Γ.1 i;rw[Ln,W2]
  have j:∀a l,a<g.length->(∀x∈l,x<g.length)->x∈Z3 f a l->x<cnt:=λa l _ i b=>by
   unfold Z3 at b;obtain ⟨y,k,rfl⟩:=Γ.1 b;exact h.lt y (i y (Φ.1 k).1)
  unfold O2 at b;rcases υ.1 b with b | b
  .obtain ⟨a,r,b⟩:=mI.1 b
   split at b
   .exact j a _ (Ω.1 r) (λy k=>o.gb.suc (Ω.1 r) k) b
   .cases b
  grind[Z3]
def Du(seq:List Nat):Nat->Nat->Nat
 | 0=>λ_=>0
 | k+1=>BH (Du seq k) (gs seq k) k
theorem Yx(a:List Nat){cnt:Nat}(b:0<cnt)(f:a.length<=cnt):∀k,k<=a.length->∀c,Du a k c<cnt
 | 0,_,c=>b
 | k+1,g,c=>by
  unfold Du
  by_cases e:c=gs a k
  .subst e;rw[MJ];omega
  .rw[H5 e];exact Yx a b f k (by omega) c
noncomputable def l0(g:List (List Nat))(of:Nat->Nat)(cnt:Nat):List Nat:=kr (Ln g of cnt) (gs (We of g.length cnt))
noncomputable def kM(g:List (List Nat))(of:Nat->Nat)(cnt:Nat):Nat->Nat:=Du (l0 g of cnt) (l0 g of cnt).length
def GW(no:Nat->Nat)(i c:Nat):List Nat:=(List.range i).filter λv=>decide (no v=c)
def ob(of no:Nat->Nat)(i v:Nat):Nat:=if v<i then no v else of v
theorem ap(a:Nat->Nat)(i:Nat):BH (GW a i) (a i) (GW a i (a i)++ [i])=GW a (i+1):=by grind[MJ,GW,ko,H5]
theorem fD(a:Nat->Nat)(i c:Nat):(GW a i c).length<=i:=by grind[GW]
theorem fO(b a:Nat->Nat)(i:Nat):BH (ob b a i) i (a i)=ob b a (i+1):=by grind[MJ,ob,H5]
structure CN (n:Nat) (suc:Nat->List Nat) (no:Nat->Nat) (cnt:Nat):Prop where
 lt:∀v,v<n->no v<cnt
 scc:∀i j,i<n->j<n->(no i=no j↔Rh suc i j/\Rh suc j i)
 use:∀c,c<cnt->∃v,v<n/\no v=c
 top:∀u v,u<n->v<n->v∈suc u->no u<=no v
 mn:∀c,c<cnt->∀i,i<n->c<=no i->(∀k,k<n->c<=no k->Rh suc k i->Rh suc i k)->∃j,j<n/\no j=c/\j<=i
theorem CN.rh{cnt:Nat}(h:CN c a u cnt)(j:∀y,y<c->∀b∈a y,b<c)(i:I<c)(k:Rh a I y):y<c/\u I<=u y:=by
 induction k with
 | refl=>exact ⟨i,Θ _⟩
 | step _ e f=>
  have g:=j _ f.1 _ e;exact ⟨g,jp f.2 (h.top _ _ f.1 g e)⟩
theorem CN.crit{cnt:Nat}(h:CN c a u cnt)(f:∀v,v<c->∀y∈a v,y<c)(j:s<c)(o:u s=B):∀k,k<c->B<=u k->Rh a k s->Rh a s k:=λk b l g=>by
 have:=(h.rh f b g).2;exact ((h.scc s k j b).1 (by omega)).1
theorem sD(p:Nat->Prop):∀(m x:Nat),p x->x<=m->∃y,p y/\∀z,p z->y<=z:=by
 intro m
 induction m with
 | zero=>intro x a c;exact ⟨x,a,λz _=>by omega⟩
 | succ m b=>
  grind
theorem QC{n:Nat}{g:Nat->List Nat}{t a:Nat->Nat}{cnt f:Nat}(h:CN n g t cnt)(B:CN n g a f)(E:∀v,v<n->∀y∈g v,y<n):
  ∀c,c<=cnt->c<=f->∀v,v<n->∀d,d<c->(t v=d↔a v=d)
 | 0,_,_,v,_,d,O=>by omega
 | c+1,S,R,v,s,d,O=>by
  have C:=QC h B E c (by omega) (by omega)
  by_cases e:d<c
  .exact C v s d e
  .have e:d=c:=by omega
   subst e
   have b:∀v,v<n->(d<=t v↔d<=a v):=λv s=>by
    constructor
    .intro Q;rcases Nat.lt_or_ge (a v) d with r | r
     .have:=(C v s _ r).2 rfl;omega
     .exact r
    .intro Q;rcases Nat.lt_or_ge (t v) d with r | r
     .have:=(C v s _ r).1 rfl;omega
     .exact r
   obtain ⟨x,M,D⟩:=h.use d (by omega);obtain ⟨i,⟨A,l⟩,H⟩:=sD (λy=>y<n/\t y=d) x x ⟨M,D⟩ (Θ _);obtain ⟨j,G,w,N⟩:=B.mn d (by omega) i A ((b i A).1 (by omega)) λk u o F=>h.crit E A l k u ((b k u).2 o) F;obtain ⟨L,J,z,K⟩:=h.mn d (by omega) j G ((b j G).2 (by omega)) λk u o F=>B.crit E G w k u ((b k u).1 o) F;have:=H L ⟨J,z⟩;have I:i=j:=by omega
   subst I;rw[<-l,h.scc v i s A,l,<-w,B.scc v i s A]
theorem qB{cnt b:Nat}(h:CN c a u cnt)(f:CN c a H b)(l:∀v,v<c->∀y∈a v,y<c):cnt=b/\∀v,v<c->u v=H v:=by
 have g:∀{u H:Nat->Nat} {cnt b:Nat},CN c a u cnt->CN c a H b->cnt<=b:=by
  intro u H cnt b h f;rcases Nat.lt_or_ge b cnt with j | k
  .obtain ⟨v,i,o⟩:=h.use b j;have r:=f.lt v i;have:=(QC h f l b (by omega) (Θ _) v i (H v) r).2 rfl;omega
  .exact k
 have e:cnt=b:=Nat.le_antisymm (g h f) (g f h);subst e;exact ⟨Z,λv i=>((QC h f l cnt (Θ _) (Θ _) v i (H v) (f.lt v i)).2 Z)⟩
theorem T5{cnt x:Nat}(o:B<cnt):x∈gf (Ln g f cnt) B↔∃a,a<g.length/\f a=B/\∃y∈gf g a,f a≠f y/\f y=x:=by
 rw[Ln,V8 o];unfold O2 Z3;rw[List.take_zero];simp only[List.filter_nil,List.map_nil,ite_self,kY,mI,Ω]
 constructor
 .rintro ⟨a,l,j⟩
  split at j
  .rename_i e
   obtain ⟨y,i,rfl⟩:=Γ.1 j;obtain ⟨h,b⟩:=Φ.1 i;exact ⟨a,l,e,y,h,lK b,Z⟩
  .cases j
 .rintro ⟨a,l,e,y,i,k,rfl⟩;refine ⟨a,l,?_⟩;rw[ϱ e];exact Γ.2 ⟨y,Φ.2 ⟨i,Υ k⟩,Z⟩
theorem Yy{a:List Nat}(b:a.Nodup):∀m,m<=a.length->∀k,k<m->Du a m (gs a k)=k
 | 0,_,k,c=>by omega
 | m+1,g,k,c=>by
  unfold Du
  by_cases e:k=m
  .subst e;rw[MJ]
  .rw[H5,Yy b m (by omega) k (by omega)];rw[Qi (by omega),Qi (by omega)];intro f;exact e ((List.getElem_inj b).1 f)
theorem pv(O:GB g){cnt:Nat}(h:kx g.length (gf g) f cnt){K:Nat->Nat}{j:List Nat}(r:∀y,¬DZ (Ln g f cnt) j y):∀c,c<cnt->c∈j:=by
 let Rc:Nat->Nat->Prop:=λd c=>∃u v,u<g.length/\v<g.length/\f u=d/\f v=c/\Rh (gf g) u v
 have dec:∀c,DecidablePred λd=>Rc d c:=λc d=>Classical.propDecidable _
 let b:Nat->Nat:=λc=>((List.range cnt).filter λd=> @decide (Rc d c) (dec c d)).length
 have C:∀k c,k<cnt->c∈gf (Ln g f cnt) k->b k<b c:=by
  intro k c G o;obtain ⟨a,s,rfl,y,w,E,rfl⟩:=(T5 G).1 o;have i:=O.suc s w
  have:=cP (l:=f y::(List.range cnt).filter λd=> @decide (Rc d (f a)) (dec (f a) d)) (m:=(List.range cnt).filter λd=> @decide (Rc d (f y)) (dec (f y) d)) (nA.2 ⟨λr=>by
   obtain ⟨_,J⟩:=Φ.1 r;obtain ⟨u,v,B,A,M,L,D⟩:= @of_decide_eq_true _ (dec _ _) J;have R:=(h.scc u y B i).1 M;have I:=(h.scc v a A s).1 L
   exact E ((h.scc a y s i).2 ⟨Rh.one w,R.2.trans (D.trans I.1)⟩),List.nodup_range.filter _⟩) (λx z=>by
   rcases jt.1 z with rfl | z
   .exact Φ.2 ⟨Ω.2 (h.lt y i), @decide_eq_true _ (dec _ _) ⟨y,y,i,i,Z,Z,.refl y⟩⟩
   .obtain ⟨S,J⟩:=Φ.1 z;obtain ⟨u,v,B,A,M,L,D⟩:= @of_decide_eq_true _ (dec _ _) J;have I:=(h.scc v a A s).1 L
    exact Φ.2 ⟨S, @decide_eq_true _ (dec _ _) ⟨u,y,B,i,M,Z,D.trans (I.1.trans (Rh.one w))⟩⟩)
  grind
 have t:∀(m c:Nat),b c<=m->c<cnt->c∈j:=by
  intro m
  induction m with
  | zero=>
   intro c Q o;refine Classical.byContradiction λF=>r c ⟨by rw[Ln,W2];exact o,F,λk G _ H=>?_⟩
   grind[Ln,W2]
  | succ m T=>
   intro c Q o;refine Classical.byContradiction λF=>r c ⟨by rw[Ln,W2];exact o,F,λk G N H=>?_⟩
   grind[Ln,W2]
 exact λc o=>t (b c) c (Θ _) o
theorem Xn(hg:GT g){cnt:Nat}(h:kx g.length (gf g) f cnt):CN g.length (gf g) (λv=>kM g f cnt (f v)) cnt:=by
 obtain ⟨N,h2⟩:=Mc (Ln g f cnt) (gs (We f g.length cnt));have W:kr (Ln g f cnt) (gs (We f g.length cnt))=l0 g f cnt:=rfl;rw[W] at N h2;have hM:∀c,kM g f cnt c=Du (l0 g f cnt) (l0 g f cnt).length c:=λ_=>rfl;have r:=pv hg.gb h (K:=gs (We f g.length cnt)) h2;obtain ⟨C,o⟩:=Jf N;have z:(Ln g f cnt).length=cnt:=by rw[Ln,W2]
 rw[z] at o
 obtain ⟨b,A⟩:∃b,l0 g f cnt=b:=⟨_,Z⟩
 rw[A] at N h2 r C o;simp only[A] at hM
 have hlen:b.length=cnt:=Nat.le_antisymm (by have:=cP C (m:=List.range cnt) λx T=>Ω.2 (o x T);rwa [kp] at this)
  (by have:=cP (List.nodup_range (n:=cnt)) (m:=b) λx T=>r x (Ω.1 T);rwa [kp] at this)
 have G:∀k,k<cnt->kM g f cnt (gs b k)=k:=λk t=>by rw[hM];exact Yy C _ (Θ _) k (by omega)
 have l:∀c,c<cnt->∃k,k<cnt/\gs b k=c/\kM g f cnt c=k:=λc F=>by
  obtain ⟨k,t,rfl⟩:=mK.1 (r c F)
  grind[Qi]
 have J:∀c d,c<cnt->c<=kM g f cnt d->d<cnt->d∉b.take c:=λc d F hcd hd hm=>by
  obtain ⟨k,t,e⟩:=mK.1 hm;rw[η] at t;rw[List.getElem_take,<-Qi (by omega)] at e
  grind
 refine ⟨λv B=>?_,λi j s hj=>?_,λc F=>?_,λu v V B he=>?_,λc F i s E hcr=>?_⟩
 .obtain ⟨k,t,_,e⟩:=l (f v) (h.lt v B);omega
 .rw[<-h.scc i j s hj]
  constructor
  .intro e;obtain ⟨k,_,O,e2⟩:=l (f i) (h.lt i s);obtain ⟨m,_,R,e4⟩:=l (f j) (h.lt j hj);have e:kM g f cnt (f i)=kM g f cnt (f j):=e;rw[<-O,<-R,show k=m by omega]
  .intro e;show kM g f cnt (f i)=kM g f cnt (f j);rw[e]
 .obtain ⟨v,B,e⟩:=h.use (gs b c) (o _ (EO (by omega)));exact ⟨v,B,by show kM g f cnt (f v)=c;rw[e];exact G c F⟩
 .show kM g f cnt (f u)<=kM g f cnt (f v)
  by_cases e:f u=f v
  .rw[e];exact Θ _
  .obtain ⟨p,hp,O,e2⟩:=l (f v) (h.lt v B);have w:=(N p (by omega)).1;rw[O] at w;have D:f u∈b.take p:=Classical.byContradiction λhn=>w.2.2 (f u) (by rw[z];exact h.lt u V) hn ((T5 (h.lt u V)).2 ⟨u,V,Z,v,he,e,Z⟩);obtain ⟨k,t,R⟩:=mK.1 D;rw[η] at t;rw[List.getElem_take,<-Qi (by omega)] at R;rw[<-R,G k (by omega),e2];omega
 .have E:c<=kM g f cnt (f i):=E
  have w:DZ (Ln g f cnt) (b.take c) (f i):=by
   refine ⟨by rw[z];exact h.lt i s,J c _ F E (h.lt i s),λk t Y D=>?_⟩;rw[z] at t;obtain ⟨a,Q,rfl,y,hy,X,I⟩:=(T5 t).1 D;have S:=hg.gb.suc Q hy
   have hca:c<=kM g f cnt (f a):=by
    rcases Nat.lt_or_ge (kM g f cnt (f a)) c with hl | hl
    .obtain ⟨m,hm,O,e2⟩:=l (f a) (h.lt a Q);exact (Y (mK.2 ⟨m,by rw[η];omega,by rw[List.getElem_take,<-Qi (by omega)];exact O⟩)).elim
    .exact hl
   have H:=(h.scc y i S s).1 I;have M:Rh (gf g) a i:=(Rh.one hy).trans H.1;have:=(h.scc a i Q s).2 ⟨M,hcr a Q hca M⟩;exact X (by rw[this,I])
  have hK:=(N c (by omega)).2 _ w;have L:gs b c<cnt:=o _ (EO (by omega));rw[OV L,OV (h.lt i s)] at hK;obtain ⟨v,B,U⟩:=h.use _ L;obtain ⟨q1,q2,_⟩:=Iz f g.length g.length (Θ _) (gs b c) ⟨v,by omega,B,U⟩;obtain ⟨_,_,q3⟩:=Iz f g.length g.length (Θ _) (f i) ⟨i,by omega,s,Z⟩;exact ⟨_,q2,by show kM g f cnt (f _)=c;rw[q1];exact G c F,jp hK (q3 i (by omega) s Z)⟩
abbrev ZQ(l:List Int):D:= .sl none (l.map AE)
abbrev sB(g:List (List Int)):D:= .sl none (g.map ZQ)
def MQ(g:List (List Int))(i:Nat):Nat:=((g.take i).map List.length).sum
def bw(n:Nat)(l:List Int):Prop:=∃x∈l,¬(0<=x/\x<(n:Int))
instance (n:Nat) (l:List Int):Decidable (bw n l):=inferInstanceAs (Decidable (∃x∈l,¬(0<=x/\x<(n:Int))))
def WP(g:List (List Int)):Int:=if 65536<g.length\/1048576<MQ g g.length then 8 else if ∃l∈g,bw g.length l then 2 else 0
theorem MP(a:s<h.length):MQ h (s+1)=MQ h s+h[s].length:=by
 unfold MQ;rw[ψ a,jy,mc];simp
theorem YN{g:List (List Int)}(h:∀l∈g,l.length<=2000000):∀i,i<=g.length->MQ g i<=i*2000000
 | 0,_=>by simp[MQ]
 | i+1,a=>by
  have:=YN h i (by omega);have:=h g[i] (ϑ (by omega));rw[MP (by omega)];omega
theorem yC{l:List Int}(h:o<l.length):(l.map AE)[o]? =some (AE l[o]):=AP h
theorem sC(a:s<h.length):(h.map ZQ)[s]? =some (ZQ h[s]):=AP a
theorem wr(a:65536<h.length\/1048576<MQ h h.length):(8:Int)=WP h:=by unfold WP;rw[ϱ a]
theorem wu(c:¬65536<h.length)(b:¬1048576<MQ h h.length)(a:∃l∈h,bw h.length l):(2:Int)=WP h:=by grind[WP]
theorem wv(c:¬65536<h.length)(b:¬1048576<MQ h h.length)(a:¬∃l∈h,bw h.length l):(0:Int)=WP h:=by grind[WP]
theorem io(g:List (List Int))(R:g.length<=1000000)(w:∀l∈g,l.length<=2000000):AI prog 133 [.d (sB g)] (AE (WP g)):=by
 refine As func133 Z Z ntmps133 Z Z Z λF V=>(AD (AF (AB Z Z (AC (AD (AF (AB Z Z (AC ?_))))))));refine AD (AD (AF (ch Z Z (J (I2 Z (χ ..) R3 Z) (ch Z Z (AC (AX (FQ (α:=Nat) (λk=>⟨50,[(0,.d (sB g)),(3,(.d (AY (MQ g k)))),(10,(.d (sB g))),(11,(.d (AY g.length))),(12,(.d (AY k)))],[]⟩) (λk=>k<=g.length) (λk=>g.length-k) (0) (κ _) (Zn ⟨Z,Z,Z,Z,Z,trivial⟩) ?_))))))));intro k S;refine AD (AF (J (At Z Z Z) (AC (AD (A5 Z (λs=>?_) (λs=>?_))))))
 .refine AU (AD (AX (AD ?_)));have c:k<g.length:=BF s;have Q:=YN w k (by omega);have B:=w _ (ϑ c);have O:=MP c;refine AF (J (Al (k) Z Z (Z) (sC c) R3 Z DQ Z) (J (BZ Z Z BL Z) (AB Z Z (AC (AF (ch Z Z (ch Z Z ?_)))))));refine J (I2 Z (χ ..) E0 Z) (J (Ad Z Z (Ξ _ (by omega)) Z) (Q6 19 (.d (AY (MQ g (k+1)))) Z (eqv (jq AE (by omega))) (AB Z Z (AC (AF (J (Ad Z Z (Ξ _ (by omega)) Z) (ch Z Z (AC ?_))))))));exact ⟨k+1,by omega,by omega,⟨Z,Z,λ_ _=>S3.get (l:=[(0,_),(3,_),(10,_),(11,_),(12,_)]) ⟨Z,Z,Z,Z,Z,trivial⟩⟩⟩
 .refine Aq (AD (AD ?_));have E:k=g.length:=by have:=s;omega
  subst E;refine AF (ch Z Z (J (I2 Z (χ ..) R3 Z) (J (H4 Z Z Z) (ch Z Z (C7 24 Z (λM=>?_) (λM=>?_))))))
  .refine AN Z Z Z Z ?_;refine AN Z Z Z Z (J (B8 Z Z Z Z) (AC (CM Z Z (AD (AF (AB Z Z (AC (A4 ?_))))))));exact ⟨_,[],[],A2 Z,Z,Z,eqv (jq AE (wr (by omega))),Z⟩
  .refine AT Z Z Z (ch Z Z (AT Z Z Z (J (H4 Z Z Z) (J (Bx Z Z Z Z) (AC (A5 Z (λL=>?_) (λL=>?_)))))))
   .refine AD (AF (AB Z Z (AC (A4 ?_))));exact ⟨_,[],[],A2 Z,Z,Z,eqv (jq AE (wr (by omega))),Z⟩
   .refine AU (AD (AD ?_));have h:¬65536<g.length:=by omega
    have f:¬1048576<MQ g g.length:=by omega
    refine AF (ch Z Z (J (I2 Z (χ ..) R3 Z) (ch Z Z (AC (AX (FQ (α:=Nat) (λi=>⟨50,[(0,.d (sB g)),(28,(.d (sB g))),(29,(.d (AY g.length))),(30,(.d (AY i)))],[]⟩) (λi=>i<=g.length/\∀l∈g.take i,¬bw g.length l) (λi=>g.length-i) (0) (⟨κ _,λl w=>by simp at w⟩) (Zn ⟨Z,Z,Z,Z,trivial⟩) ?_))))));rintro i ⟨U,N⟩;refine AD (AF (J (At Z Z Z) (AC (AD (A5 Z (λr=>?_) (λr=>?_))))))
    .refine AU (AD (AX (AD ?_)));have a:i<g.length:=BF r;have B:=w _ (ϑ a);refine AF (J (Al (i) Z Z (Z) (sC a) R3 Z DQ Z) (J (BZ Z Z BL Z) (AB Z Z ?_)));refine AC (AD (AF (ch Z Z (J (I2 Z (χ ..) E0 Z) (ch Z Z (AC (AX (FQ (α:=Nat) (λj=>⟨50,[(0,.d (sB g)),(28,(.d (sB g))),(29,(.d (AY g.length))),(30,(.d (AY i))),(34,(.d (ZQ g[i]))),(35,(.d (AY g[i].length))),(36,(.d (AY j)))],[]⟩) (λj=>j<=g[i].length/\∀x∈g[i].take j,0<=x/\x<(g.length:Int)) (λj=>g[i].length-j) (0) (⟨κ _,λx y=>by simp at y⟩) (Zn ⟨Z,Z,Z,Z,Z,Z,Z,trivial⟩) ?_))))))));rintro j ⟨T,y⟩;refine AD (AF (J (At Z Z Z) (AC (AD (A5 Z (λo=>?_) (λo=>?_))))))
     .refine AU (AD (AX (AD ?_)));have b:j<g[i].length:=BF o;refine AF (J (Al (j) Z Z (Z) (yC b) E0 Z BK Z) ?_);refine J (BZ Z Z Ai Z) (AB Z Z (AC (AD (AF (ch Z Z (J (At Z Z Z) (ch Z Z (C7 42 Z (λK=>?_) (λK=>?_)))))))))
      .refine AN Z Z Z Z (AN Z Z Z Z (AN Z Z Z Z ?_));refine AN Z Z Z Z (J (B8 Z Z Z Z) (AC (CM Z Z (AD (AF (AB Z Z (AC (A4 ?_))))))));exact ⟨_,[],[],A2 Z,Z,Z,eqv (jq AE (wu h f ⟨g[i],ϑ a,g[i][j],ϑ b,by omega⟩)),Z⟩
      .refine AT Z Z Z (ch Z Z ?_);refine AT Z Z Z (ch Z Z (AT Z Z Z (J (I2 Z (χ ..) R3 Z) (AT Z Z Z (J (EE Z Z Z) (J (Bx Z Z Z Z) (AC (A5 Z (λI=>?_) (λI=>?_)))))))))
       .refine AD (AF (AB Z Z (AC (A4 ?_))));exact ⟨_,[],[],A2 Z,Z,Z,eqv (jq AE (wu h f ⟨g[i],ϑ a,g[i][j],ϑ b,by omega⟩)),Z⟩
       .refine AU (AF (J (Ad Z Z (Ξ _ (by omega)) Z) (ch Z Z (AC ?_))));exact ⟨j+1,⟨by omega,λx t=>by rw[ψ b] at t;exact (υ.1 t).elim (y x) λe=>by rw[ξ.1 e];exact ⟨by omega,by omega⟩⟩,by omega,⟨Z,Z,λ_ _=>S3.get (l:=[(0,_),(28,_),(29,_),(30,_),(34,_),(35,_),(36,_)]) ⟨Z,Z,Z,Z,Z,Z,Z,trivial⟩⟩⟩
     .refine Aq ?_;have G:j=g[i].length:=by have:=o;omega
      have u:¬bw g.length g[i]:=λ⟨x,A,z⟩=>z (y x (by rw[G,kV];exact A));refine AF (J (Ad Z Z (Ξ _ (by omega)) Z) (ch Z Z (AC ?_)));exact ⟨i+1,⟨by omega,λl v=>by rw[ψ a] at v;exact (υ.1 v).elim (N l) λe=>by rw[ξ.1 e];exact u⟩,by omega,⟨Z,Z,λ_ _=>S3.get (l:=[(0,_),(28,_),(29,_),(30,_)]) ⟨Z,Z,Z,Z,trivial⟩⟩⟩
    .refine Aq (AD (AF (AB Z Z (AC (A4 ?_)))));have H:i=g.length:=by have:=r;omega
     exact ⟨_,[],[],A2 Z,Z,Z,eqv (jq AE (wv h f (λ⟨l,D,C⟩=>N l (by rw[H,kV];exact D) C))),Z⟩
theorem YR(h:TB c a w S k y o)(l:o=(a y).length)(s:S.low y≠S.idx y):
  ∃b u f,k=b++ [(u,f)]/\TH c a w {S with low:=BH S.low u (min (S.low u) (S.low y)),cs:=k} none:=by
 subst l;have g:=Wn h;have j:=(h.ti.lw y g.2.1).1;obtain ⟨b,u,f,e,i⟩:=n9 h.ti h.hcs (by omega);exact ⟨b,u,f,e,i,h.k1,h.old,.inl h.rt⟩
theorem YQ{jn jm:List Nat}(h:TB c a w S k y o)(l:o=(a y).length)(j:S.low y=S.idx y)(g:S.st=jn++y::jm):
  TH c a w {S with of:=λx=>if x∈y::jm then (S.cnt:Int) else S.of x,st:=jn,cs:=k,cnt:=S.cnt+1} none/\∀b u f,k=b++ [(u,f)]->BH S.low u (min (S.low u) (S.low y))=S.low:=by
 subst l;obtain ⟨t,s⟩:=n8 h.ti h.hcs j g;refine ⟨⟨s,h.k1,h.old,.inl h.rt⟩,λb u f e=>funext λx=>?_⟩
 by_cases i:x=u
 .subst i;have:=t (x,f) (by rw[e];exact mG _ (ξ.2 Z));rw[MJ]
  grind
 .rw[H5 i]
theorem sa{b:Nat}(h:TB c a w S (z++ [(I,b)]) y o):I<c/\y≠I:=by
 have g:(I,b)∈S.cs:=by rw[h.hcs];exact mJ _ (mG _ (ξ.2 Z))
 refine ⟨h.ti.lt I ((h.ti.st I).1 (h.ti.csm _ g)).1,λe=>?_⟩;have f:=h.ti.css;rw[h.hcs] at f
 grind
theorem cx{jn jm:List Nat}(h:TI c a S t)(b:S.st=jn++y::jm):y∉jm:=by
 have f:=h.srt;rw[b,rA] at f;intro g;exact ml _ ((lx.1 f.2.1).1 y g)
theorem wh{m j:List (Nat×Nat)}{x:Nat×Nat}(h:o=C.length):((C++ [x]++m++j).map bd)[o]? =some (bd x):=by
 subst h;simp
theorem yB{a c j:List Nat}(h:o=(a++c).length):((a++(c++ [G])++j).map AY)[o]? =some (AY G):=by grind
theorem wQ:(IX c (λx=>if x∈E then (B:Int) else A x)).set G (AY B)=IX c (λx=>if x∈G::E then (B:Int) else A x):=by grind[OK]
theorem ee{a jm:List Nat}(h:a++ [G]++E=y::jm)(b:G≠y):a++G::E=y::jm/\a≠ []:=by grind
theorem oQ{b jm:List Nat}(h:b++ [G]++E=y::jm)(f:G=y)(g:y∉jm):b=[]/\E=jm:=by
 subst f
 cases b with
 | nil=>simp at h;exact ⟨Z,h⟩
 | cons a c=>
  grind
theorem SJ{c:Type}{l:List c}(h:l≠ []):∃a b,l=a++ [b]:=by
 rcases List.eq_nil_or_concat l with e | ⟨a,b,e⟩
 .grind
 grind
theorem ng{g:List Nat}(h:TH c a w S t)(j:S.cs=k++ [(y,o)]/\t=none)(i:∃f,g=S.st++f):
  ∃b:TS,mu c a b=mu c a S/\TB c a w b k y o/\S.idx=b.idx/\S.low=b.low/\S.of=b.of/\S.st.length=b.st.length/\S.cnt=b.cnt/\S.clk=b.clk/\∃f,g=b.st++f:=by grind[sc]
theorem dT(h:TI c a S t):S.st.length<=c:=by
 have:=h.num;have:=(UH h).1;omega
theorem Ur{f:Nat->Nat}(h:∀v,v<s->f v≠0)(a:f s≠0):∀v,v<s+1->f v≠0:=by grind
theorem nf(h:TI c a S none)(g:S.cs=[])(j:s<c)(l:S.idx s=0)(b:∀v,v<s->S.idx v≠0):TH c a s S (some s):=
 ⟨n7 h g j l,λf k=>(by rw[g] at k;cases k),b,.inr Z⟩
theorem wj(h:TI c a S t)(e:S.cs++pend t=C):C.length<=c+1:=by
 have f:=(UH h).2;have b:=dT h;rw[<-e,Δ];have:(pend t).length<=1:=by cases t<;>simp[pend]
 omega
theorem cv(h:TH c a w S t)(b:S.cs++pend t=[]):TI c a S none/\S.cs=[]/\S.idx w≠0:=by
 cases t with
 | some v=>simp[pend] at b
 | none=>exact ⟨h.ti,by simpa [pend] using b,h.rt.resolve_right λe=>by cases e⟩
structure PF (n:Nat) (suc:Nat->List Nat) (r:Nat) (S:TS) (cs0:List (Nat×Nat)) (v:Nat) (low:Nat->Nat):Prop where
 a:low v=S.low v
 b:low v≠S.idx v->TH n suc r {S with low:=low,cs:=cs0} none
 c:∀jn jm,low v=S.idx v->S.st=jn++v::jm->TH n suc r {S with low:=low,of:=λx=>if x∈v::jm then (S.cnt:Int) else S.of x,st:=jn,cs:=cs0,cnt:=S.cnt+1} none
theorem oW{j:Nat}(h:TB c a w S (z++ [(I,j)]) y o)(l:o=(a y).length)(f:y≠I):
  ∃b,BH S.low I (min (S.low I) (S.low y))=b/\PF c a w S (z++ [(I,j)]) y b:=by
 refine ⟨_,Z,⟨H5 f,λi=>?_,λjn jm i g=>?_⟩⟩
 .grind[H5,YR,List.append_inj_right']
 .rw[H5 f] at i;obtain ⟨t,s⟩:=YQ h l i g
  grind
theorem oX(h:TB c a w S k y o)(i:o=(a y).length)(u:k=[]):
  ∃b,S.low=b/\PF c a w S k y b:=by
 refine ⟨_,Z,⟨Z,λg=>?_,λjn jm g f=>(YQ h i g f).1⟩⟩;obtain ⟨l,s,j,e,t⟩:=YR h i g
 simp_all
theorem s5(a:∀v,v<o->A v= -1):∀v,v<o+1->BH A o (-1) v= -1:=by grind[MJ,H5]
theorem WD(g:List (List Nat))(hg:GB g):AO prog 180 [.d (Mr g)] [] λr H'=>∃of cnt,kx g.length (gf g) of cnt/\r= .tup [.own 2 0 g.length,.d (AY cnt)]/\H'=[(2,[.rowD 3 1 (rowN g.length of)])]:=by
 have hn:=hg.n;refine As func180 Z Z ntmps180 Z Z Z λF Q=>(AD (AF (AB Z Z (AB Z Z (AC (AD (AF (ch Z Z ?_))))))));refine J (I2 Z (χ ..) R3 Z) (AB Z Z (AC (AD (Bq [[],[0],[],[2],[],[4],[0,1],[0,1,2,3,6],rg 8] mixed Z (B2 (A7 4 Z Z (Cv [21] [0] [(22,_)] Z Z (λ_=>Cg (FZ 0 Ao Z Z Z (by omega) sY Z Z Z Z)) (.inr ⟨22,_,Z,Z,Z,Z,Z⟩) Z Z Z Z Z (A7 4 Z Z ?_))))))));refine Cv [23] [1] [(24,_)] Z Z (λ_=>Cg (FZ 1 Ao Z Z Z (by omega) sY Z Z Z Z)) (.inr ⟨24,_,Z,Z,Z,Z,Z⟩) Z Z Z Z Z (A7 4 Z Z (Cv [25] [2] [(26,_)] Z Z (λ_=>Cg (FZ 2 Ao Z Z Z (by omega) sY Z Z Z Z)) (.inr ⟨26,_,Z,Z,Z,Z,Z⟩) Z Z Z Z Z (AK [22] Z (J5 Z Z) (AK [24] Z (J5 Z Z) (BV 8 Z Z Z (A0 9 Z Z (AB Z Z (AC ⟨Z,?_⟩))))))));refine Bb (AD (AD ?_));rw[xa];refine AF (ch Z Z (J (SZ Z E0 Z) (ch Z Z (AC (AX (BC (α:=Nat×(Nat->Int)) (λq=>⟨214,[(0,.d (Mr g)),(5,(.own 0 0 g.length)),(6,(.own 1 0 g.length)),(7,(.own 2 0 g.length)),(28,(.d (AY g.length))),(29,(.d (AY q.1)))],[(0,[.rowD 3 1 (IX g.length λ_=>0)]),(1,[.rowD 3 1 (IX g.length λ_=>0)]),(2,[.rowD 3 1 (IX g.length q.2)])]⟩) (λq=>q.1<=g.length/\∀v,v<q.1->q.2 v= -1) (λq=>g.length-q.1) ((0,λ_=>0)) (⟨κ _,λv h=>absurd h (nH _)⟩) (AR Q [0,1,2] Z Z ⟨Z,Z,Z,Z,Z,Z,trivial⟩) ?_))))));rintro ⟨k,f⟩ ⟨hk,hf⟩;dsimp only at hk hf⊢;refine AD (AF (J (At Z Z Z) (AC (AD (A5 Z (λh30=>?_) (λh30=>?_))))))
 .refine AU (AD (AX (AD ?_)));have A:k<g.length:=BF h30;refine AF (ch Z Z (AB Z Z (AC (AF ?_))));refine ch Z Z (ch Z Z (J (D1 (k) Z Z (Z) (A) Z E0 BK Z) (V (Zp Z Z Z Z Z (by rw[UY];exact A) dy Z BK) (AC (AF (J (Ad Z Z (Ξ _ (by omega)) Z) (ch Z Z (AC ?_))))))));exact ⟨(k+1,BH f k (-1)),⟨A,s5 hf⟩,by show g.length-(k+1)<g.length-k;omega,AR Q [0,1,2] Z (Z) ⟨Z,Z,Z,Z,Z,Z,trivial⟩⟩
 .refine Aq (AD ?_);have hke:k=g.length:=by have:=h30;omega
  subst hke;have hfe:IX g.length f=IX g.length (λ_=> -1):=kQ λv hv=>by rw[hf v (Ω.1 hv)]
  rw[hfe];refine AF (AB Z Z ?_);skip;refine AC (AD (AF (AB Z Z (AB Z Z (AC (AD ?_))))));refine AD (AF (ch Z Z (J (I2 Z (χ ..) R3 Z) (ch Z Z (AC (AX (IU 9 3 Ao Z Z Z Z (BC (α:=Nat×TS×List Nat) (λq=>⟨214,[(0,.d (Mr g)),(5,(.own 0 0 g.length)),(6,(.own 1 0 g.length)),(7,(.own 2 0 g.length)),(9,(.own 3 0 q.2.1.st.length)),(10,(.d (AY q.2.1.cnt))),(11,(.d (AY q.2.1.clk))),(37,(.d (AY g.length))),(38,(.d (AY q.1)))],[(0,[.rowD 3 1 (rowN g.length q.2.1.idx)]),(1,[.rowD 3 1 (rowN g.length q.2.1.low)]),(2,[.rowD 3 1 (IX g.length q.2.1.of)]),(3,[.rowD 3 1 (q.2.2.map AY)])]⟩) (λq=>q.1<=g.length/\TI g.length (gf g) q.2.1 none/\q.2.1.cs=[]/\(∀v,v<q.1->q.2.1.idx v≠0)/\∃W,q.2.2=q.2.1.st++W) (λq=>g.length-q.1) ((0,⟨λ_=>0,λ_=>0,λ_=> -1,[],[],0,0⟩,[])) (⟨κ _,n5 _ _,Z,λv h=>absurd h (nH _),[],Z⟩) (AR Q [0,1,2,3] Z Z ⟨Z,Z,Z,Z,Z,Z,Z,Z,Z,trivial⟩) ?_))))))));rintro ⟨i,S,E⟩ ⟨hi,hti,hcs,I,C⟩;dsimp only at hi hti hcs I C⊢;refine AD (AF (J (At Z Z Z) (AC (AD (A5 Z (λh39=>?_) (λh39=>?_))))))
  .refine AU (AD (AX (AD ?_)));have hil:i<g.length:=BF h39;refine AF (ch Z Z (AB Z Z (AC (AD ?_))));refine AD (AF (ch Z Z (ch Z Z (J (D1 (i) Z Z (Z) (hil) Z E0 BK Z) (J (E1 Z Z (O9 hil) Z Ai Z) (J (DJ Z Z Z) (AC (A5 Z (λh45=>?_) (λh45=>?_)))))))))
   .refine Aq ?_
    first | have hE:=cv y (hfr▸List.length_eq_zero_iff.1 (by omega)) | skip
    refine AF (J (Ad Z Z (Ξ _ (by omega)) Z) (ch Z Z (AC ?_)));exact ⟨(i+1,S,E),⟨hil,hti,hcs,Ur I (λe2=>h45 (jq Int.ofNat e2)),C⟩,by show g.length-(i+1)<g.length-i;omega,AR Q [0,1,2,3] Z (Z) ⟨Z,Z,Z,Z,Z,Z,Z,Z,Z,trivial⟩⟩
   .refine AU (AD ?_);have h0:S.idx i=0:=Int.ofNat.inj (nB.1 h45);refine AF (ch Z Z (J (Dz rC r7 Z Z Z) (V (CF 4 d8 Z Z Z Z Z Z Z Z) (AB Z Z (AC (AX (BC (α:=TS×Option Nat×List (Nat×Nat)×List Nat×List (Nat×Nat)) (λq=>⟨214,[(0,.d (Mr g)),(5,(.own 0 0 g.length)),(6,(.own 1 0 g.length)),(7,(.own 2 0 g.length)),(9,(.own 3 0 q.1.st.length)),(10,(.d (AY q.1.cnt))),(11,(.d (AY q.1.clk))),(13,(.own 4 0 q.2.2.1.length)),(37,(.d (AY g.length))),(38,(.d (AY i)))],[(0,[.rowD 3 1 (rowN g.length q.1.idx)]),(1,[.rowD 3 1 (rowN g.length q.1.low)]),(2,[.rowD 3 1 (IX g.length q.1.of)]),(3,[.rowD 3 1 (q.2.2.2.1.map AY)]),(4,[.rowD 318 2 (q.2.2.2.2.map bd)])]⟩) (λq=>TH g.length (gf g) i q.1 q.2.1/\q.2.2.1=q.1.cs++pend q.2.1/\(∃W,q.2.2.2.1=q.1.st++W)/\∃U,q.2.2.2.2=q.2.2.1++U) (λq=>mu g.length (gf g) q.1) ((S,some i,[(i,0)],E,[(i,0)])) (⟨nf hti hcs hil h0 I,by rw[hcs];rfl,C,[],Z⟩) (AR Q [0,1,2,3,4] Z Z ⟨Z,Z,Z,Z,Z,Z,Z,Z,Z,Z,trivial⟩) ?_)))))));rintro ⟨S,p,fr,E,r4⟩ ⟨y,hfr,C,U,hr4⟩;dsimp only at y hfr C hr4⊢;have hclk:=UH y.ti;refine AD (AD (AF (ch Z Z (J (SZ Z cW Z) (J (H4 Z Z Z) (AC (A5 Z (λh51=>?_) (λh51=>?_))))))))
    .refine AU (AX (AD ?_));have hne:S.cs++pend p≠ []:=λe=>by rw[hfr,e] at h51;exact absurd h51 (by decide)
     obtain ⟨o,v,k,hcs2,s,hk0,hk1⟩:=nc y hne;have hfrl:=wj y.ti hcs2;have hfr2:=hfr.trans hcs2;subst hfr2;have hlen1:(((o++ [(v,k)]).length:Nat):Int)-1=(o.length:Int):=by simp
     have hlen2:o.length<(o++ [(v,k)]).length:=by simp
     subst hr4;refine AF (ch Z Z (ch Z Z (J (SZ Z cW Z) (J (ME Z Z (Ξ _ (by omega)) Z) (J (D1 (o.length) Z Z (hlen1) (hlen2) Z cW dB Z) (AB Z Z (AC (AD ?_))))))));refine AD (AF (ch Z Z (J (cI Z Z) (J (Zr Z L3 Z Z Z) (J (E1 Z Z (Mt Z) Z Ai Z) (J (Fa Z Z Z) (AC (A5 Z (λh61=>?_) (λh61=>?_)))))))));refine AD ?_;obtain ⟨hcs3,hp3⟩:=hk0 (Int.ofNat.inj h61);have hcl:=hclk.1;refine AF (ch Z Z (J (Ad Z Z (Ξ _ (by omega)) Z) (Q6 63 (.d (AY (S.clk+1))) Z (eqv (jq AE (by omega))) (AB Z Z (AC (AD (Bq [[],[],[1],[1,2],[1,2,3],[],[],[6],[6,7],[6,7,8],[],[],[0,1,2,3,4,6,7,8,9,10],[0,1,2,3,4,6,7,8,9,10,12],rg 14,rg 15] mixed Z (B2 ?_))))))));refine A7 5 Z Z (A7 14 Z Z (AK [65] Z (cI Z Z) (AK [66] Z (Zr Z F6 Z Z Z) (Ay [67] Z Z (λ_=>Aa (E1 Z Z (Mt Z) Z Ai Z)) (A7 6 Z Z (A7 14 Z Z (AK [70] Z (cI Z Z) (AK [71] Z (Zr Z F6 Z Z Z) ?_))))))));refine Ay [72] Z Z (λ_=>Aa (E1 Z Z (Mt Z) Z Ai Z)) (A7 11 Z Z (A7 11 Z Z (Ay [64,68] Z Z (λ_=>Aa (D1 (v) Z Z (Z) (s) Z E0 BK Z)) (Cv [76,74] [0] [] Z Z (λ_=>Cg (Zp Z Z Z Z Z (by rw[EK];exact s) EJ Z BK)) (.inl ⟨Z,Z⟩) Z Z Z Z Z (BV 14 Z Z Z (A0 15 Z Z (J (D1 (v) Z Z (Z) (s) Z E0 BK Z) (AC ⟨Z,?_⟩))))))));refine A0 16 Z Z (V (Zp Z Z Z Z Z (by rw[EK];exact s) EJ Z BK) (AC ⟨Z,?_⟩));refine Bb ?_;obtain ⟨W,M⟩:=C;subst M;have hstl:=dT y.ti;refine AF (ch Z Z (ch Z Z (J (cI Z Z) (J (Zr Z F6 Z Z Z) (J (E1 Z Z (Mt Z) Z Ai Z) (V (CF 21 Ao Z Z Z Z Z Z Z Z) (V (Hb Z Z Z (by simp) Z Z (by simp) Ao (by omega) Z Z (rJ S.st W) Z Z) (AB Z Z ?_))))))));subst hp3;have X:=cw y;have hmu0:mu g.length (gf g) _=mu g.length (gf g) S:=fi (S:=S) (l:=BH S.low v (S.clk+1)) (st:=S.st++ [v]) (c:=S.clk+1) s (y.ti.pnd v Z).2.1
     obtain ⟨a,D⟩:∃a:TS,a=⟨BH S.idx v (S.clk+1),BH S.low v (S.clk+1),S.of,S.st++ [v],S.cs++ [(v,0)],S.cnt,S.clk+1⟩:=⟨_,Z⟩
     have e1:BH S.idx v (S.clk+1)=a.idx:=by rw[D]
     have e2:BH S.low v (S.clk+1)=a.low:=by rw[D]
     have e3:S.of=a.of:=by rw[D]
     have e4:S.st.length+1=a.st.length:=by rw[D];simp
     have e5:S.cnt=a.cnt:=by rw[D]
     have e6:S.clk+1=a.clk:=by rw[D]
     have z:∃W,S.st++ [v]=a.st++W:=⟨[],by rw[D,kY]⟩
     obtain ⟨E,hr3e⟩:∃E,S.st++ [v]=E:=⟨_,Z⟩
     rw[<-D] at X hmu0;rw[e1,e2,e3,e4,e5,e6,hr3e];rw[hr3e] at z;have N:=hmu0;have b:TB g.length (gf g) i a o v k:=by rw[hcs3,<-Int.ofNat.inj h61] at X;exact X
     refine AC ?_
     rotate_left
     obtain ⟨a,N,b,e1,e2,e3,e4,e5,e6,z⟩:=ng y (hk1 λe=>h61 (jq Int.ofNat e)) C;rw[e1,e2,e3,e4,e5,e6];refine AU ?_
     all_goals
      refine AD (AD ?_);refine Bq [[],[0],[0,1],[0,1,2],[],[],[5],[5,6],[5,6,7],[4,5,6,7,8],[4,5,6,7,8,9],[4,5,6,7,8,9,10],rg 12] mixed Z (B2 (A7 14 Z Z (AK [85] Z (cI Z Z) (AK [86] Z (Zr Z L3 Z Z Z) (Ay [87] Z Z (λ_=>Aa (E1 Z Z (Mt Z) Z Ai Z)) (A7 0 Z Z (A7 14 Z Z (AK [90] Z (cI Z Z) ?_))))))));refine AK [91] Z (Zr Z F6 Z Z Z) (Ay [92] Z Z (λ_=>Aa (E1 Z Z (Mt Z) Z Ai Z)) (AK [89,93] Z (Al (v) Z Z (Z) (bb s) R3 Z DQ Z) (AK [94] Z (BZ Z Z BL Z) (AK [95] Z (I2 Z (χ ..) E0 Z) (BV 12 Z Z Z (A0 13 Z Z (J (At Z Z Z) (AC ⟨Z,?_⟩))))))));refine Bb (A5 Z (λh97=>?_) (λh97=>?_))
      .refine AD ?_;have A:k<(gf g v).length:=BF h97;have B:gs (gf g v) k<g.length:=hg.suc s (EO A);have hgn:=Pi A;have hjk:(gf g v)[k]? =some (gs (gf g v) k):=fU A
       obtain ⟨j,hje⟩:∃j,gs (gf g v) k=j:=⟨_,Z⟩
       rw[hje] at B hgn hjk;have hsl:=hg.len s;refine Bq [[],[],[1],[1,2],[1,2,3],rg 5,rg 6,[],[7],[7,8],[7,8,9],rg 11,rg 12,rg 13] mixed Z (B2 (A7 0 Z Z (A7 14 Z Z (AK [99] Z (cI Z Z) (AK [100] Z (Zr Z F6 Z Z Z) (Ay [101] Z Z (λ_=>Aa (E1 Z Z (Mt Z) Z Ai Z)) (AK [98,102] Z (Al (v) Z Z (Z) (bb s) R3 Z DQ Z) ?_)))))));refine AK [103] Z (BZ Z Z BL Z) (A7 14 Z Z (AK [105] Z (cI Z Z) (AK [106] Z (Zr Z L3 Z Z Z) (Ay [107] Z Z (λ_=>Aa (E1 Z Z (Mt Z) Z Ai Z)) (BV 11 Z Z Z (A0 12 Z Z (J (Al (k) Z Z (Z) (hgn) E0 Z BK Z) (AC ⟨Z,?_⟩))))))));refine A0 13 Z Z (J (BZ Z Z Ai Z) (AC ⟨Z,?_⟩));refine A0 14 Z Z (AB Z Z (AC ⟨Z,?_⟩));refine Bb (AD (AF (ch Z Z (J (cI Z Z) (J (Zr Z L3 Z Z Z) ?_)))));refine J (E1 Z Z (Mt Z) Z Ai Z) (J (Ad Z Z (Ξ _ (by omega)) Z) (Q6 115 (.d (AY (k+1))) Z (eqv (jq AE (by omega))) (J (cI Z Z) (J (Zr Z L3 Z Z Z) (V (Qw (z':=bd (v,k+1)) Z Z Z Z (Mt Z) Z (Θ 2) (x6 Z) Z Z BK) (AC (AD (AD ?_))))))));rw[show (o++ [(v,k)]).length=(o++ [(v,k+1)]).length by simp] at hfrl⊢;refine AF (ch Z Z (ch Z Z (J (D1 (j) Z Z (Z) (B) Z E0 BK Z) (J (E1 Z Z (O9 B) Z Ai Z) (J (Fa Z Z Z) (AC (A5 Z (λL=>?_) (λL=>?_))))))))
       .refine AF ?_;refine ch Z Z (ch Z Z (J (Dz rC r7 Z Z Z) (V (CF 22 d8 Z Z Z Z Z Z Z Z) (V (Hb Z Z Z (by simp) Z Z (by simp) d8 (by omega) Z Z (vZ (x:=(j,0)) (o++ [(v,k+1)]) U) Z Z) (Q6 127 (.own 4 0 (o++ [(v,k+1)]++ [(j,0)]).length) Z (by simp) (AB Z Z (AC (Aq ?_))))))));exact ⟨(⟨a.idx,a.low,a.of,a.st,o++ [(v,k+1)],a.cnt,a.clk⟩,some j,o++ [(v,k+1)]++ [(j,0)],E,o++ [(v,k+1)]++ [(j,0)]),⟨sd b hjk B (Int.ofNat.inj L),Z,z,[],(kY _).symm⟩,by rw[<-N];exact XZ b.hcs A,AR Q [0,1,2,3,4] Z (Z) ⟨Z,Z,Z,Z,Z,Z,Z,Z,Z,Z,trivial⟩⟩
       .refine AD (AF (ch Z Z (ch Z Z (J (D1 (j) Z Z (Z) (B) Z E0 BK Z) (J (E1 Z Z (dz B) Z Ai Z) (J (At Z Z Z) (AC (A5 Z (λh132=>?_) (λh132=>?_)))))))))
        .refine Bq [[],[],[1],[1,2],[1,2,3],[],[],[6],[6,7],[6,7,8],[5,6,7,8,9],[5,6,7,8,9,10],[],[],[12,13],[12,13,14],[5,6,7,8,9,10,11,12,13,14,15],rg 17,rg 18] mixed Z (B2 (A7 6 Z Z (A7 14 Z Z (AK [134] Z (cI Z Z) ?_))));refine AK [135] Z (Zr Z F6 Z Z Z) (Ay [136] Z Z (λ_=>Aa (E1 Z Z (Mt Z) Z Ai Z)) (A7 6 Z Z (A7 14 Z Z (AK [139] Z (cI Z Z) (AK [140] Z (Zr Z F6 Z Z Z) (Ay [141] Z Z (λ_=>Aa (E1 Z Z (Mt Z) Z Ai Z)) (Ay [138,142] Z Z (λ_=>Aa (D1 (v) Z Z (Z) (s) Z E0 BK Z)) (Ay [143] Z Z (λ_=>Aa (E1 Z Z (O9 s) Z Ai Z)) ?_))))))));refine A7 5 Z Z (A7 15 Z Z (Ay [145,146] Z Z (λ_=>Aa (D1 (j) Z Z (Z) (B) Z E0 BK Z)) (Ay [147] Z Z (λ_=>Aa (E1 Z Z (O9 B) Z Ai Z)) (AK [144,148] Z (Sc Z Z (tU _ _) Z) (BV 17 Z Z Z (A0 18 Z Z (J (D1 (v) Z Z (Z) (s) Z E0 BK Z) (AC ⟨Z,?_⟩))))))));refine A0 19 Z Z (V (Zp Z Z Z Z Z (by rw[EK];exact s) EJ Z BK) (AC ⟨Z,?_⟩));refine Bb (Aq ?_);exact ⟨(⟨a.idx,BH a.low v (min (a.low v) (a.idx j)),a.of,a.st,o++ [(v,k+1)],a.cnt,a.clk⟩,none,o++ [(v,k+1)],E,o++ [(v,k+1)]++U),⟨se b hjk B (λe=>L (jq Int.ofNat e)) h132,(kY _).symm,z,U,Z⟩,by rw[<-N];exact XZ b.hcs A,AR Q [0,1,2,3,4] Z (Z) ⟨Z,Z,Z,Z,Z,Z,Z,Z,Z,Z,trivial⟩⟩
        .refine AU (Aq ?_);exact ⟨(⟨a.idx,a.low,a.of,a.st,o++ [(v,k+1)],a.cnt,a.clk⟩,none,o++ [(v,k+1)],E,o++ [(v,k+1)]++U),⟨nj b hjk B (λe=>L (jq Int.ofNat e)) h132,(kY _).symm,z,U,Z⟩,by rw[<-N];exact XZ b.hcs A,AR Q [0,1,2,3,4] Z (Z) ⟨Z,Z,Z,Z,Z,Z,Z,Z,Z,Z,trivial⟩⟩
      .refine AU (AD ?_);have hke:k=(gf g v).length:=by have:=(Wn b).2.2.2;have:=h97;omega
       refine AF (ch Z Z (J (cI Z Z) (J (Zr Z F6 Z Z Z) (J (E1 Z Z (Mt Z) Z Ai Z) (AB Z Z ?_)))));refine AC (AD (AF (ch Z Z (ch Z Z (J (SZ Z cW Z) (J (ME Z Z (Ξ _ (by omega)) Z) (J (J4 o.length Z Z hlen1 (by simp) Z cW dB Z) (AB Z Z ?_))))))));refine AC (AD (AD (AF (ch Z Z (J (SZ Z cW Z) (J (H4 Z Z Z) (AC (A5 Z (λh162=>?_) (λh162=>?_)))))))));refine AD ?_;obtain ⟨R,⟨u,ku⟩,hcu⟩:=SJ (l:=o) (λe=>by rw[e] at h162;exact absurd h162 (by decide));subst hcu;obtain ⟨hun,hvu⟩:=sa b;have hlen3:(((R++ [(u,ku)]).length:Nat):Int)-1=(R.length:Int):=by simp
       have hlen4:R.length<(R++ [(u,ku)]).length:=by simp
       refine AF (ch Z Z (ch Z Z (J (SZ Z cW Z) (J (ME Z Z (Ξ _ (by omega)) Z) (J (D1 (R.length) Z Z (hlen3) (hlen4) Z cW dB Z) (J (Zr Z F6 Z Z Z) (J (E1 Z Z (wh Z) Z Ai Z) (AB Z Z ?_))))))));refine AC (Bq [[],[],[],[],[2,3],[2,3,4],[],[],[6,7],[6,7,8],[2,3,4,5,6,7,8,9],rg 11,rg 12] mixed Z (B2 (A7 6 Z Z (A7 17 Z Z (A7 6 Z Z (A7 17 Z Z (Ay [172,173] Z Z (λ_=>Aa (D1 (u) Z Z (Z) (hun) Z E0 BK Z)) (Ay [174] Z Z (λ_=>Aa (E1 Z Z (O9 hun) Z Ai Z)) ?_))))))));refine A7 6 Z Z (A7 16 Z Z (Ay [176,177] Z Z (λ_=>Aa (D1 (v) Z Z (Z) (s) Z E0 BK Z)) (Ay [178] Z Z (λ_=>Aa (E1 Z Z (O9 s) Z Ai Z)) (AK [175,179] Z (Sc Z Z (tU _ _) Z) (BV 11 Z Z Z (A0 12 Z Z (J (D1 (u) Z Z (Z) (hun) Z E0 BK Z) (AC ⟨Z,?_⟩))))))));refine A0 13 Z Z (V (Zp Z Z Z Z Z (by rw[EK];exact hun) EJ Z BK) (AC ⟨Z,?_⟩));refine Bb ?_
       rotate_left
       refine AU ?_
       all_goals
        refine AD (AD ?_)
        first | (obtain ⟨H,G,hPX⟩:=oW b hke hvu;rw[G];obtain ⟨t,hcX⟩:∃l,R++ [(u,ku)]=l:=⟨_,Z⟩;rw[hcX] at b hPX⊢) | (obtain ⟨H,G,hPX⟩:=oX b hke (List.length_eq_zero_iff.1 (by omega));rw[G];obtain ⟨t,hcX⟩:∃l,o=l:=⟨_,Z⟩;rw[hcX] at b hPX⊢)
        refine Bq [[],[],[0,1],[0,1,2],[],[],[4,5],[4,5,6],rg 8] mixed Z (B2 (A7 6 Z Z (A7 16 Z Z (Ay [182,183] Z Z (λ_=>Aa (D1 (v) Z Z (Z) (s) Z E0 BK Z)) ?_))));refine Ay [184] Z Z (λ_=>Aa (E1 Z Z (O9 s) Z Ai Z)) (A7 5 Z Z (A7 16 Z Z (Ay [186,187] Z Z (λ_=>Aa (D1 (v) Z Z (Z) (s) Z E0 BK Z)) (Ay [188] Z Z (λ_=>Aa (E1 Z Z (O9 s) Z Ai Z)) (BV 8 Z Z Z (A0 9 Z Z (J (DJ Z Z Z) (AC ⟨Z,?_⟩))))))));refine Bb (A5 Z (λh190=>?_) (λh190=>?_))
        .refine Aq ?_;exact ⟨(⟨a.idx,H,a.of,a.st,t,a.cnt,a.clk⟩,none,t,E,t++ [(v,k)]++U),⟨hPX.b (λe=>h190 (jq Int.ofNat e)),(kY _).symm,z,[(v,k)]++U,lh _ _ _⟩,by rw[<-N];exact fj b.hcs,AR Q [0,1,2,3,4] Z (Z) ⟨Z,Z,Z,Z,Z,Z,Z,Z,Z,Z,trivial⟩⟩
        .refine AU (AD (AX ?_));obtain ⟨jn,jm,hst⟩:=List.append_of_mem (Wn b).2.1;obtain ⟨W,M⟩:=z;have hndp:=cx b.ti hst;have hof:IX g.length a.of=IX g.length (λx=>if x∈([]:List Nat) then (a.cnt:Int) else a.of x):=(by simp);rw[hof,show a.st.length=(jn++(v::jm)).length by rw[hst]];have Y:=dT b.ti;have hstv:∀x∈jn++v::jm,x<g.length:=(λx hx=>b.ti.lt x ((b.ti.st x).1 (by rw[hst];exact hx)).1);rw[hst] at M Y;refine BC (α:=List Nat×List Nat) (λq=>⟨214,[(0,.d (Mr g)),(5,(.own 0 0 g.length)),(6,(.own 1 0 g.length)),(7,(.own 2 0 g.length)),(9,(.own 3 0 (jn++q.1).length)),(10,(.d (AY a.cnt))),(11,(.d (AY a.clk))),(13,(.own 4 0 t.length)),(16,(.d (AY v))),(37,(.d (AY g.length))),(38,(.d (AY i)))],[(0,[.rowD 3 1 (rowN g.length a.idx)]),(1,[.rowD 3 1 (rowN g.length H)]),(2,[.rowD 3 1 (IX g.length (λx=>if x∈q.2 then (a.cnt:Int) else a.of x))]),(3,[.rowD 3 1 (E.map AY)]),(4,[.rowD 318 2 ((t++ [(v,k)]++U).map bd)])]⟩) (λq=>q.1++q.2=v::jm/\q.1≠ []) (λq=>q.1.length) ((v::jm,[])) (⟨kY _,λe=>by cases e⟩) (AR Q [0,1,2,3,4] Z Z ⟨Z,Z,Z,Z,Z,Z,Z,Z,Z,Z,Z,trivial⟩) ?_;rintro ⟨c,dn⟩ ⟨O,hcne⟩;dsimp only at O hcne⊢;refine AX (AD ?_);obtain ⟨T,w,hcw⟩:=SJ hcne;subst hcw;have hws:jn++v::jm++W=jn++(T++ [w])++(dn++W):=by rw[<-O];simp
         have hwn:w<g.length:=hstv w (by rw[<-O];simp);have hl6:(jn++(T++ [w])).length<=g.length:=by rw[<-O] at Y;simp at Y⊢;omega
         have hl7:(((jn++(T++ [w])).length:Nat):Int)-1=((jn++T).length:Int):=by simp<;>omega
         have hl8:(jn++T).length<(jn++(T++ [w])).length:=by simp
         have hl9:(jn++T).length<=(E.map AY).length:=by rw[M,hws];simp<;>omega
         have hgw:(E.map AY)[(jn++T).length]? =some (AY w):=by rw[M,hws];exact yB rfl
         refine AF (ch Z Z (ch Z Z (J (SZ Z E0 Z) (J (ME Z Z (Ξ _ (by omega)) Z) (J (D1 ((jn++T).length) Z Z (hl7) (hl8) Z E0 BK Z) (J (E1 Z Z (hgw) Z Ai Z) (AB Z Z ?_)))))));refine AC (AD (AF (ch Z Z (ch Z Z (J (SZ Z E0 Z) (J (ME Z Z (Ξ _ (by omega)) Z) (J (J4 (jn++T).length Z Z hl7 hl9 Z E0 BK Z) (AB Z Z ?_))))))));skip;refine AC (AD (AF (ch Z Z (ch Z Z (ch Z Z (J (D1 (w) Z Z (Z) (hwn) Z E0 BK Z) ?_))))));refine V (Zp Z Z Z Z Z (by rw[UY];exact hwn) wQ Z BK) (AC (AD (AF (ch Z Z (ch Z Z (J (Fa Z Z Z) (AC (A5 Z (λK=>?_) (λK=>?_)))))))))
         .refine Aq ?_;obtain ⟨hc0,hdn⟩:=oQ O (Int.ofNat.inj K) hndp;subst hc0;rw[kY,hdn,Int.ofNat.inj K];have hcl3:=b.ti.num;have hcl4:=(UH b.ti).1;refine AF (ch Z Z (J (Ad Z Z (Ξ _ (by omega)) Z) (Q6 210 (.d (AY (a.cnt+1))) Z (eqv (jq AE (by omega))) (AB Z Z (AC ?_)))));exact ⟨(⟨a.idx,H,λx=>if x∈v::jm then (a.cnt:Int) else a.of x,jn,t,a.cnt+1,a.clk⟩,none,t,E,t++ [(v,k)]++U),⟨hPX.c jn jm (Int.ofNat.inj (nB.1 h190)) hst,(kY _).symm,⟨v::jm++W,by rw[M];simp⟩,[(v,k)]++U,lh _ _ _⟩,by rw[<-N];exact fj b.hcs,AR Q [0,1,2,3,4] Z (Z) ⟨Z,Z,Z,Z,Z,Z,Z,Z,Z,Z,trivial⟩⟩
         .refine AU ?_;exact ⟨(T,w::dn),ee O (λe=>K (jq Int.ofNat e)),by show T.length<(T++ [w]).length;simp,AR Q [0,1,2,3,4] Z (Z) ⟨Z,Z,Z,Z,Z,Z,Z,Z,Z,Z,Z,trivial⟩⟩
    .refine Aq ?_
     first | have hE:=cv y (hfr▸List.length_eq_zero_iff.1 (by omega)) | skip
     refine AF (J (Ad Z Z (Ξ _ (by omega)) Z) (ch Z Z (AC ?_)));exact ⟨(i+1,S,E),⟨hil,hE.1,hE.2.1,Ur y.old hE.2.2,C⟩,by show g.length-(i+1)<g.length-i;omega,AR Q [0,1,2,3] Z (Z) ⟨Z,Z,Z,Z,Z,Z,Z,Z,Z,trivial⟩⟩
  .refine Aq (AD ?_);have hin:i=g.length:=by have:=h39;omega
   subst hin;obtain ⟨hof,hofe⟩:=cu hti hcs I;have hre:IX g.length S.of=rowN g.length (λv=>(S.of v).toNat):=kQ λv hv=>jq AE (hofe v (Ω.1 hv));rw[hre];refine AF (ch Z Z (ch Z Z (AB Z Z (AB Z Z (AC (A4 ?_))))));exact ⟨_,[2],_,A2 Z,Z,Z,_,_,hof,Z,Z⟩
abbrev HL(lst:List Nat):Hp:=[(5,[.blk 28 [.own 6 0 lst.length]]),(6,[.rowD 3 1 (lst.map AY)])]
theorem ot(c:List Nat)(a b:Nat)(g:a<c.length)(f:b<c.length):AO prog 182 [.d (AY a),.d (AY b),.ptr 5 0 0] (HL c) λr h=>r= .d (Am (decide (gs c a<gs c b)))/\h=HL c:=by
 refine As func182 Z Z ntmps182 Z Z Z λF i=>(AD ?_);refine AF (AB Z Z (AC (AD (Bq [[],[],[0,1],[0,1,2],[],[],[4,5],[4,5,6],rg 8,rg 9] mixed Z (B2 (Ay [2] Z Z (λ_=>Aa (AQ Z Z Z BL Z)) (A7 0 Z Z (Ay [6,7] Z Z (λ_=>Aa (D1 (a) Z Z (Z) (g) Z E0 BK Z)) ?_))))))));refine Ay [8] Z Z (λ_=>Aa (E1 Z Z (Pi g) Z Ai Z)) (Ay [2] Z Z (λ_=>Aa (AQ Z Z Z BL Z)) (A7 1 Z Z (Ay [10,11] Z Z (λ_=>Aa (D1 (b) Z Z (Z) (f) Z E0 BK Z)) (Ay [12] Z Z (λ_=>Aa (E1 Z Z (Pi f) Z Ai Z)) (BV 8 Z Z Z (A0 9 Z Z (J (At Z Z Z) (AC ⟨Z,?_⟩))))))));refine A0 10 Z Z (AB Z Z (AC ⟨Z,?_⟩));refine Bb (A4 ?_);exact ⟨_,[5,6],_,A2 Z,Z,Z,yF Int.ofNat_lt,Z⟩
abbrev Ns(lst:List Nat)(l j:List Nat):Hp:=[(1,[.blk 323 [.own 2 0 l.length,.fn 182 [.ptr 5 0 0]]]),(2,[.rowD 3 1 ((l++j).map AY)]),(5,[.blk 28 [.own 6 0 lst.length]]),(6,[.rowD 3 1 (lst.map AY)])]
theorem V9{a:List Nat}(h:s<j.length):((j++a).map AY)[s]? =some (AY (gs j s)):=by
 rw[Pi (by rw[Δ];omega),Yz h]
theorem X4(a:List Nat)(l j:List Nat):AO prog 223 [.ptr 1 0 0] (Ns a l j) λr b=>r= .d (AY l.length)/\b=Ns a l j:=by
 refine As func223 Z Z ntmps223 Z Z Z λF c=>(AD (AF (AB Z Z (AC (AD ?_)))));refine AF (ch Z Z (J (MC Z Z) (J (AM Z Zo Z Z Z) (J (AQ Z Z Z BL Z) (J (SZ Z E0 Z) (AB Z Z (AC (A4 ?_))))))));exact ⟨_,[1,2,5,6],_,A2 Z,Z,Z,Z,Z⟩
theorem Sx(c:List Nat)(l j:List Nat)(i:∀x∈l,x<c.length)(a b:Nat)(h:a<l.length)(g:b<l.length):AO prog 296 [.ptr 1 0 0,.d (AY a),.d (AY b)] (Ns c l j) λr k=>r= .d (Am (decide (gs c (gs l a)<gs c (gs l b))))/\k=Ns c l j:=by
 have f:=ot c (gs l a) (gs l b) (i _ (EO h)) (i _ (EO g));refine As func296 Z Z ntmps296 Z Z Z λF o=>(AD (AF ?_));refine AB Z Z (AC (AD (Bq [[],[0],[0,1],[0,1,2],[],[4],[4,5],[4,5,6],[],[4,5,6,7,8],[4,5,6,7,8,9],[],[11],[11,12],[11,12,13],[],[11,12,13,14,15],[11,12,13,14,15,16],rg 18,rg 19] mixed Z (B2 (A7 0 Z Z (AK [7] Z (MC Z Z) (AK [8] Z (AM Z pL Z Z Z) (Ay [9] Z Z (λ_=>Aa (AQ Z Z Z wM Z)) ?_))))))));refine A7 0 Z Z (AK [11] Z (MC Z Z) (AK [12] Z (AM Z Zo Z Z Z) (Ay [13] Z Z (λ_=>Aa (AQ Z Z Z BL Z)) (A7 1 Z Z (Ay [14,15] Z Z (λ_=>Aa (D1 (a) Z Z (Z) (h) Z E0 BK Z)) (Ay [16] Z Z (λ_=>Aa (E1 Z Z (V9 h) Z Ai Z)) (A7 0 Z Z (AK [18] Z (MC Z Z) ?_))))))));refine AK [19] Z (AM Z Zo Z Z Z) (Ay [20] Z Z (λ_=>Aa (AQ Z Z Z BL Z)) (A7 2 Z Z (Ay [21,22] Z Z (λ_=>Aa (D1 (b) Z Z (Z) (g) Z E0 BK Z)) (Ay [23] Z Z (λ_=>Aa (E1 Z Z (V9 g) Z Ai Z)) (BV 18 Z Z Z (A0 19 Z Z (V (cM f Z [5,6] ⟨Z,Z,trivial⟩ Z Z Z Z Z Z Z Z Z) (AC ⟨Z,?_⟩))))))));refine A0 20 Z Z (AB Z Z (AC ⟨Z,?_⟩));refine Bb (A4 ?_);exact ⟨_,[1,2,5,6],_,A2 Z,Z,Z,Z,Z⟩
theorem Sa(c:List Nat)(l j:List Nat)(a b:Nat)(g:a<l.length)(f:b<l.length):AO prog 299 [.ptr 1 0 0,.d (AY a),.d (AY b)] (Ns c l j) λr k=>r= .tup []/\k=Ns c (NV l a b) j:=by
 have i:a<(l++j).length:=by rw[Δ];omega
 have h:b<((l++j).set a (gs l b)).length:=by rw[kn,Δ];omega
 refine As func299 Z Z ntmps299 Z Z Z λF o=>(Bq [[],[0],[0,1],[0,1,2],[],[],[5],[5,6],[5,6,7],[],[],[10],[10,11],[10,11,12],[],[10,11,12,13,14],[10,11,12,13,14,15],[],[17],[17,18],[17,18,19],[],[17,18,19,20,21],[17,18,19,20,21,22],[0,1,2,3,4,5,6,7,8,10,11,12,13,14,15,16,17,18,19,20,21,22,23],[0,1,2,3,4,5,6,7,8,10,11,12,13,14,15,16,17,18,19,20,21,22,23,24],rg 26,rg 27] mixed Z (B2 (A7 0 Z Z (AK [6] Z (MC Z Z) (AK [7] Z (AM Z Zo Z Z Z) ?_)))));refine Ay [8] Z Z (λ_=>Aa (AQ Z Z Z BL Z)) (A7 1 Z Z (A7 0 Z Z (AK [11] Z (MC Z Z) (AK [12] Z (AM Z Zo Z Z Z) (Ay [13] Z Z (λ_=>Aa (AQ Z Z Z BL Z)) (A7 2 Z Z (A7 0 Z Z (AK [16] Z (MC Z Z) ?_))))))));refine AK [17] Z (AM Z Zo Z Z Z) (Ay [18] Z Z (λ_=>Aa (AQ Z Z Z BL Z)) (A7 2 Z Z (Ay [19,20] Z Z (λ_=>Aa (D1 (b) Z Z (Z) (f) Z E0 BK Z)) (Ay [21] Z Z (λ_=>Aa (E1 Z Z (V9 f) Z Ai Z)) (A7 0 Z Z (AK [23] Z (MC Z Z) (AK [24] Z (AM Z Zo Z Z Z) (Ay [25] Z Z (λ_=>Aa (AQ Z Z Z BL Z)) ?_))))))));refine A7 1 Z Z (Ay [26,27] Z Z (λ_=>Aa (D1 (a) Z Z (Z) (g) Z E0 BK Z)) (Ay [28] Z Z (λ_=>Aa (E1 Z Z (V9 g) Z Ai Z)) (Ay [9,10] Z Z (λ_=>Aa (D1 (a) Z Z (Z) (g) Z E0 BK Z)) (Cv [30,22] [2] [] Z Z (λ_=>Cg (HB (emb:=AY) (l++j) (gs l b) Z Z Z Z Z Z i Z BK)) (.inl ⟨Z,Z⟩) Z Z Z Z Z (BV 26 Z Z Z (A0 27 Z Z (J (D1 (b) Z Z (Z) (f) Z E0 BK Z) (AC ⟨Z,?_⟩))))))));refine A0 28 Z Z (V (HB (emb:=AY) ((l++j).set a (gs l b)) (gs l a) Z Z Z Z Z Z h Z BK) (AC ⟨Z,?_⟩));refine Bb ?_;exact ⟨_,[1,2,5,6],_,A2 Z,Z,Z,Z,by rw[Ns,OC,<-xZ g f]⟩
theorem fo(a:List Nat)(l j:List Nat)(x:Nat)(c:l.length<=1000000):AO prog 298 [.ptr 1 0 0,.d (.raw (.iface 3 (.int .i64 (x:Int))))] (Ns a l j) λr b=>r= .tup []/\b=Ns a (l++ [x]) []:=by
 refine As func298 Z Z ntmps298 Z Z Z λF f=>(Bq [[],[],[1],[1,2],[1,2,3],[],[5],[5,6],[1,2,3,4,5,6,7],rg 9,rg 10,rg 11] mixed Z (B2 (A7 0 Z Z (A7 0 Z Z (AK [5] Z (MC Z Z) (AK [6] Z (AM Z Zo Z Z Z) ?_))))));refine Ay [7] Z Z (λ_=>Aa (AQ Z Z Z BL Z)) (A7 1 Z Z (AK [9] Z (Or Z vr Z Z) (Cv [10] [20] [(11,_)] Z Z (λ_=>Cg (CF 20 Ao Z Z Z Z Z Z Z Z)) (.inr ⟨11,_,Z,Z,Z,Z,Z⟩) Z Z Z Z Z (Cv [8,11] [1,2,5,6,20] [(12,_)] Z Z (λ_=>Cg (Hb Z Z Z (by simp) Z Z (by simp) Ao (by omega) Z Z (rJ l j) Z Z)) (.inr ⟨12,_,Z,Z,Z,Z,Z⟩) Z Z Z Z Z (BV 9 Z Z Z (A0 10 Z Z (J (MC Z Z) (AC ⟨Z,?_⟩))))))));refine A0 11 Z Z (J (AM Z Zo Z Z Z) (AC ⟨Z,?_⟩));refine A0 12 Z Z (V (Bi Z Z Z Z Z Z Z DQ) (AC ⟨Z,?_⟩));refine Bb ?_;exact ⟨_,[1,2,5,6],_,A2 Z,Z,Z,Z,by rw[Ns];simp⟩
theorem oi(a:List Nat)(l j:List Nat)(g:l≠ [])(f:l.length<=1000000):AO prog 297 [.ptr 1 0 0] (Ns a l j) λr i=>r= .d (.raw (.iface 3 (.int .i64 (gs l (l.length-1):Int))))/\i=Ns a (l.take (l.length-1)) ([gs l (l.length-1)]++j):=by
 have h:0<l.length:=m8.2 g;have b:((l.length:Int)-1)=((l.length-1:Nat):Int):=by omega
 have c:l.length-1<=((l++j).map AY).length:=by rw[χ,Δ];omega
 refine As func297 Z Z ntmps297 Z Z Z λF k=>(AD (AF (AB Z Z ?_)));refine AC (AD (Bq [[],[0],[0,1],[0,1,2],[],[4],[4,5],[4,5,6],[4,5,6,7],[4,5,6,7,8],rg 10,rg 11,rg 12] mixed Z (B2 (A7 0 Z Z (AK [4] Z (MC Z Z) (AK [5] Z (AM Z Zo Z Z Z) (Ay [6] Z Z (λ_=>Aa (AQ Z Z Z BL Z)) (A7 0 Z Z ?_))))))));refine AK [8] Z (MC Z Z) (AK [9] Z (AM Z Zo Z Z Z) (Ay [10] Z Z (λ_=>Aa (AQ Z Z Z BL Z)) (AK [11] Z (SZ Z E0 Z) (AK [12] Z (ME Z Z (Ξ _ (by omega)) Z) (BV 10 Z Z Z (A0 11 Z Z (J (D1 (l.length-1) Z Z (b) (by omega) Z E0 BK Z) (AC ⟨Z,?_⟩))))))));refine A0 12 Z Z (J (E1 Z Z (V9 (by omega)) Z Ai Z) (AC ⟨Z,?_⟩));refine A0 13 Z Z (AB Z Z (AC ⟨Z,?_⟩));refine Bb (AD ?_);refine Bq [[],[],[1],[1,2],[1,2,3],[],[5],[5,6],[5,6,7],[5,6,7,8],[5,6,7,8,9],[1,2,3,4,5,6,7,8,9,10],rg 12,rg 13,rg 14] mixed Z (B2 (A7 0 Z Z (A7 0 Z Z (AK [17] Z (MC Z Z) (AK [18] Z (AM Z Zo Z Z Z) (Ay [19] Z Z (λ_=>Aa (AQ Z Z Z BL Z)) (A7 0 Z Z (AK [21] Z (MC Z Z) ?_))))))));refine AK [22] Z (AM Z Zo Z Z Z) (Ay [23] Z Z (λ_=>Aa (AQ Z Z Z BL Z)) (AK [24] Z (SZ Z E0 Z) (AK [25] Z (ME Z Z (Ξ _ (by omega)) Z) (Ay [20,26] Z Z (λ_=>Aa (J4 (l.length-1) Z Z b c Z E0 BK Z)) (BV 12 Z Z Z (A0 13 Z Z (J (MC Z Z) (AC ⟨Z,?_⟩))))))));refine A0 14 Z Z (J (AM Z Zo Z Z Z) (AC ⟨Z,?_⟩));refine A0 15 Z Z (V (Bi Z Z Z Z Z Z Z DQ) (AC ⟨Z,?_⟩));refine Bb (AD (AF (ch Z Z (J (Gd vr Z Z) (AB Z Z (AC (A4 ?_)))))));exact ⟨_,[1,2,5,6],_,A2 Z,Z,Z,Z,by rw[Ns,xh h,η,Nat.min_eq_left (by omega)]⟩
theorem vq(i:Nat)(h:i<=1000000):IntKind.i64.wrap (Int.tdiv ((i:Int)-1) 2)=(((i-1) / 2:Nat):Int):=by
 rw[xf];exact Ξ _ (by omega)
theorem vU(a:List Nat)(l j:List Nat)(k:Nat)(C:k<l.length)(w:l.length<=1000000)(B:∀x∈l,x<a.length):AO prog 262 [.ifc 321 none 1 0,.d (AY k)] (Ns a l j) λr E=>r= .tup []/\E=Ns a (UG (gs a) k l k) j:=by
 refine As func262 Z Z ntmps262 Z Z Z λF z=>(AX (BC (α:=Nat×List Nat×Nat) (λq=>⟨23,[(0,.ifc 321 none 1 0),(1,(.d (AY q.2.2)))],Ns a q.2.1 j⟩) (λq=>q.2.2<=q.1/\q.2.2<q.2.1.length/\q.2.1.length<=1000000/\UG (gs a) q.1 q.2.1 q.2.2=UG (gs a) k l k/\∀x∈q.2.1,x<a.length) (λq=>q.2.2) ((k,l,k)) (⟨Θ _,C,w,Z,B⟩) (AR z [1,2,5,6] Z Z ⟨Z,Z,trivial⟩) ?_));rintro ⟨f,m,i⟩ ⟨v,c,s,b,o⟩;dsimp only at v c s b⊢;have g:(i-1) / 2<m.length:=by omega
 refine AX (AD (AF (ch Z Z (J (ME Z Z (Ξ _ (by omega)) Z) (J (sh Z Z (by omega) (vq i (by omega)) Z) (AB Z Z ?_))))));refine AC (AD (AD (AF (ch Z Z (ch Z Z (J (Fa Z Z Z) (ch Z Z (C7 11 Z (λu=>?_) (λu=>?_)))))))))
 .refine AN Z Z Z Z (AN Z Z Z Z (AN Z Z Z Z (AN Z Z Z Z (AN Z Z Z Z (J (B8 Z Z Z Z) (AC (CM Z Z (Aq ?_))))))));have D:i=0:=by omega
  exact ⟨_,[1,2,5,6],_,A2 Z,Z,Z,Z,by rw[<-b,D,cg]⟩
 .refine AT Z Z Z (ch Z Z (AT Z Z Z (ch Z Z ?_)));refine AT Z Z Z (ch Z Z (AT Z Z Z (V (Eo fy (Sx a m j o i ((i-1) / 2) c g) Z [1,2,5,6] ⟨Z,Z,Z,Z,trivial⟩ Z Z Z Z Z Z Z Z Z) (AT Z Z Z (J (Jq Z Z) (J (Bx Z Z Z Z) (AC (A5 Z (λh=>?_) (λh=>?_)))))))))
  .refine Aq ?_;exact ⟨_,[1,2,5,6],_,A2 Z,Z,Z,Z,by rw[<-b,ci (by simpa using h)]⟩
  .refine AU (AD ?_);have y:i≠0:=λe=>by subst e;exact u rfl
   have t:(gs a) (gs m i)<(gs a) (gs m ((i-1) / 2)):=nB.1 h;refine AF ?_;refine ch Z Z (ch Z Z (ch Z Z (V (Eo fx (Sa a m j ((i-1) / 2) i g c) Z [1,2,5,6] ⟨Z,Z,Z,Z,trivial⟩ Z Z Z Z Z Z Z Z Z) (AC (AF (ch Z Z (AB Z Z (AC ?_))))))));exact ⟨(f-1,NV m ((i-1) / 2) i,(i-1) / 2),⟨by show (i-1) / 2<=f-1;omega,by show _<(NV _ _ _).length;rw[OC];exact g,by show (NV _ _ _).length<=_;rw[OC];exact s,by show UG _ (f-1) _ _=_;rw[<-b,<-s6 y t,show f-1+1=f by omega],λx A=>o x ((Fq g c).mem_iff.1 A)⟩,by show (i-1) / 2<i;omega,AR z [1,2,5,6] Z (Z) ⟨Z,Z,trivial⟩⟩
theorem uS(b:2*s+2<c)(a:K (gs j (2*s+2))<K (gs j (2*s+1))):Ts K c j s=2*s+2:=ϱ ⟨b,a⟩
theorem iV(h:¬(2*s+2<c/\K (gs j (2*s+2))<K (gs j (2*s+1)))):Ts K c j s=2*s+1:=ν h
theorem p8(a:List Nat)(l j:List Nat)(k n:Nat)(L:k<l.length)(H:n<=l.length)(B:l.length<=1000000)(I:∀x∈l,x<a.length):AO prog 263 [.ifc 321 none 1 0,.d (AY k),.d (AY n)] (Ns a l j) λr N=>(∃b:Bool,r= .d (Am b))/\N=Ns a (Pz (gs a) n (n-k) l k) j:=by
 refine As func263 Z Z ntmps263 Z Z Z λF E=>(AD (AF (AB Z Z ?_)));refine AC (AD (AF (ch Z Z (AB Z Z (AC (AD (AX (BC (α:=Nat×List Nat×Nat) (λq=>⟨48,[(0,.ifc 321 none 1 0),(1,.d (AY k)),(2,.d (AY n)),(7,(.d (AY q.2.2)))],Ns a q.2.1 j⟩) (λq=>n<=q.1+q.2.2/\q.2.2<q.2.1.length/\q.2.1.length<=1000000/\n<=q.2.1.length/\Pz (gs a) n q.1 q.2.1 q.2.2=Pz (gs a) n (n-k) l k/\∀x∈q.2.1,x<a.length) (λq=>n-q.2.2) ((n-k,l,k)) (⟨by show n<=n-k+k;omega,L,B,H,Z,I⟩) (AR E [1,2,5,6] Z Z ⟨Z,Z,Z,Z,trivial⟩) ?_))))))));rintro ⟨f,m,i⟩ ⟨A,g,v,u,c,s⟩;dsimp only at A g v u c⊢;refine AX (AD (AF (ch Z Z (J (si Z Z (Ξ _ (by omega)) Z) (J (Ad Z Z (Ξ _ (by omega)) Z) (AB Z Z (AC ?_)))))));refine AD (AD (Xx 8 (.d (AY (2*i+1))) Z (eqv (jq AE (by omega))) (AF (ch Z Z (ch Z Z (J (EE Z Z Z) (ch Z Z (C7 18 Z (λz=>?_) (λz=>?_)))))))))
 .refine AN Z Z Z Z (AN Z Z Z Z (J (B8 Z Z Z Z) (AC (CM Z Z ?_))));refine Aq (AD (AF (ch Z Z (ch Z Z (J (H4 Z Z Z) (AB Z Z (AC (A4 ?_))))))));exact ⟨_,[1,2,5,6],_,A2 Z,Z,Z,⟨_,Z⟩,by rw[<-c,p9 (by omega)]⟩
 .refine AT Z Z Z (ch Z Z (AT Z Z Z (J (At Z Z Z) (J (Bx Z Z Z Z) (AC (Cq Z (kC (by omega)) (AU (AD ?_))))))));have w:¬n<=2*i+1:=by have:=z;omega
  have M:=uR (K:=(gs a)) (l:=m) w;have o:Ts (gs a) n m i<m.length:=by omega
  refine AF ?_;refine ch Z Z (AB Z Z (AC (AD (AD (AF (ch Z Z (J (Ad Z Z (Ξ _ (by omega)) Z) (AB Z Z ?_))))))));refine AC (AD (Xx 10 (.d (AY (2*i+2))) Z (eqv (jq AE (by omega))) (AF (ch Z Z (ch Z Z (J (At Z Z Z) (ch Z Z (C7 28 Z (λD=>?_) (λD=>?_)))))))));refine AT Z Z Z (ch Z Z ?_);refine AT Z Z Z (ch Z Z (AT Z Z Z (ch Z Z (AT Z Z Z (V (Eo fy (Sx a m j s (2*i+2) (2*i+1) (by omega) (by omega)) Z [1,2,5,6] ⟨Z,Z,Z,Z,trivial⟩ Z Z Z Z Z Z Z Z Z) (J (B8 Z Z Z Z) (AC (A5 Z (λC=>?_) (λC=>?_)))))))));refine AF (ch Z Z (AB Z Z (AC ?_)))
  rotate_left
  refine AU ?_
  rotate_left
  refine AN Z Z Z Z (AN Z Z Z Z (AN Z Z Z Z (AN Z Z Z Z (J (Bx Z Z Z Z) (AC (Cq Z Z (AU ?_)))))))
  all_goals
   refine AD (AD ?_);refine Xx 9 (.d (AY (Ts (gs a) n m i))) Z (eqv (jq AY (by first | exact (uS (by omega) (by assumption)).symm | exact (iV (λh=>by omega)).symm | exact (iV (λh=>absurd h.2 (by assumption))).symm))) (AF (ch Z Z (ch Z Z (ch Z Z (V (Eo fy (Sx a m j s (Ts (gs a) n m i) i o g) Z [1,2,5,6] ⟨Z,Z,Z,Z,trivial⟩ Z Z Z Z Z Z Z Z Z) (J (Jq Z Z) (AC (A5 Z (λt=>?_) (λt=>?_)))))))))
   .refine Aq (AD (AF (ch Z Z (ch Z Z (J (H4 Z Z Z) (AB Z Z (AC (A4 ?_))))))));exact ⟨_,[1,2,5,6],_,A2 Z,Z,Z,⟨_,Z⟩,by rw[<-c,iY t]⟩
   .refine AU (AD ?_);have y:(gs a) (gs m (Ts (gs a) n m i))<(gs a) (gs m i):=nB.1 t;refine AF ?_;refine ch Z Z (ch Z Z (ch Z Z (V (Eo fx (Sa a m j i (Ts (gs a) n m i) g o) Z [1,2,5,6] ⟨Z,Z,Z,Z,trivial⟩ Z Z Z Z Z Z Z Z Z) (AC (AF (ch Z Z (AB Z Z (AC ?_))))))));exact ⟨(f-1,NV m i (Ts (gs a) n m i),Ts (gs a) n m i),⟨by show n<=f-1+Ts _ n m i;omega,by show _<(NV _ _ _).length;rw[OC];exact o,by show (NV _ _ _).length<=_;rw[OC];exact v,by show _<=(NV _ _ _).length;rw[OC];exact u,by show Pz _ n (f-1) _ _=_;rw[<-c,<-uT w y,show f-1+1=f by omega],λx G=>s x ((Fq g o).mem_iff.1 G)⟩,by show n-Ts _ n m i<n-i;omega,AR E [1,2,5,6] Z (Z) ⟨Z,Z,Z,Z,trivial⟩⟩
theorem V2(a:List Nat)(l j:List Nat)(x:Nat)(h:l.length<=999999)(i:∀x∈l,x<a.length)(g:x<a.length):AO prog 222 [.ifc 321 none 1 0,.d (.raw (.iface 3 (.int .i64 (x:Int))))] (Ns a l j) λr k=>r= .tup []/\k=Ns a (Nf (gs a) l x) []:=by
 have c:(l++ [x]).length=l.length+1:=by simp
 have b:((l.length+1:Nat):Int)-1=((l.length:Nat):Int):=by omega
 refine As func222 Z Z ntmps222 Z Z Z λF o=>(AD (AF (ch Z Z (ch Z Z (V (Eo wW (fo a l j x (by omega)) Z [1,2,5,6] ⟨Z,Z,Z,Z,trivial⟩ Z Z Z Z Z Z Z Z Z) ?_)))));refine AC (AF (ch Z Z (ch Z Z (V (Eo wX (X4 a (l++ [x]) []) Z [1,2,5,6] ⟨Z,Z,Z,Z,trivial⟩ Z Z Z Z Z Z Z Z Z) (J (ME Z Z (Ξ _ (by omega)) Z) (Q6 10 (.d (AY l.length)) Z (eqv (jq AE (by rw[c];exact b))) (V (FX (vU a (l++ [x]) [] l.length (by omega) (by omega) (λy f=>(υ.1 f).elim (i y) λe=>ξ.1 e▸g)) Z [1,2,5,6] ⟨Z,Z,Z,Z,trivial⟩ Z Z Z Z Z Z Z Z Z) (AC ?_))))))));exact ⟨_,[1,2,5,6],_,A2 Z,Z,Z,Z,Z⟩
theorem pC(a:List Nat)(l j:List Nat)(f:l≠ [])(s:l.length<=999999)(t:∀x∈l,x<a.length):AO prog 224 [.ifc 321 none 1 0] (Ns a l j) λr u=>r= .d (.raw (.iface 3 (.int .i64 (gs l 0:Int))))/\u=Ns a (Qc (gs a) l) ([gs l 0]++j):=by
 have i:0<l.length:=m8.2 f;have o:=OC l 0 (l.length-1);have c:=Hv (gs a) f;have g:LZ (gs a) l≠ []:=λe=>by rw[e] at c;simp at c;omega
 have b:gs (LZ (gs a) l) ((LZ (gs a) l).length-1)=gs l 0:=by rw[c];exact Pf (gs a) f
 have h:=(p8 a (NV l 0 (l.length-1)) j 0 (l.length-1) (by omega) (by omega) (by omega) (λy k=>t y ((Fq i (by omega)).mem_iff.1 k))).top;refine As func224 Z Z ntmps224 Z Z Z λF v=>(AD (AF (AB Z Z (AC ?_))));refine AD (AF (ch Z Z (V (Eo wX (X4 a l j) Z [1,2,5,6] ⟨Z,Z,Z,Z,trivial⟩ Z Z Z Z Z Z Z Z Z) (J (ME Z Z (Ξ _ (by omega)) Z) (AB Z Z (AC (AD (Xx 3 (.d (AY (l.length-1))) Z (eqv (jq AE (by omega))) ?_))))))));refine AF (ch Z Z (ch Z Z (V (Eo fx (Sa a l j 0 (l.length-1) i (by omega)) Z [1,2,5,6] ⟨Z,Z,Z,Z,trivial⟩ Z Z Z Z Z Z Z Z Z) (AC (AD (AF (ch Z Z (ch Z Z ?_))))))));refine V (FX h Z [1,2,5,6] ⟨Z,Z,Z,Z,trivial⟩ Z Z Z Z Z Z Z Z Z) (AC (AD (AF (ch Z Z (V (Eo xu (oi a (LZ (gs a) l) j g (by omega)) Z [1,2,5,6] ⟨Z,Z,Z,Z,trivial⟩ Z Z Z Z Z Z Z Z Z) (AB Z Z (AC (A4 ?_))))))));exact ⟨_,[1,2,5,6],_,A2 Z,Z,Z,by rw[b],by rw[b,c];rfl⟩
theorem fE(c:List Nat)(g:List (List Nat))(K:GB g)(hK:∀a b,a<g.length->b<g.length->(gs c) a=(gs c) b->a=b)(u:g.length=c.length):AO prog 181 [.d (Mr g),.fn 182 [.ptr 5 0 0]] (HL c) λr H'=>r= .d (.tup [j0 (kr g (gs c)),Am (decide ((kr g (gs c)).length=g.length))])/\H'=(HL c):=by
 have hn:=K.n;refine As func181 Z Z ntmps181 Z Z Z λF v=>(AD (AF (AB Z Z (AB Z Z (AC ?_)))));refine AD (AF (ch Z Z (J (I2 Z (χ ..) R3 Z) (V (FZ 0 Ao Z Z Z (by omega) sY Z Z Z Z) (AB Z Z (AC (AD (AD ?_))))))));rw[vm];refine AF (ch Z Z (J (I2 Z (χ ..) R3 Z) (ch Z Z (AC (AX (BC (α:=Nat×List Nat) (λq=>⟨102,[(0,.d (Mr g)),(1,.fn 182 [.ptr 5 0 0]),(6,(.own 0 0 g.length)),(21,(.d (Mr g))),(22,(.d (AY g.length))),(23,(.d (AY q.1)))],[(0,[.rowD 3 1 (q.2.map AY)])]++HL c⟩) (λq=>q.1<=g.length/\CW g q.1 0 q.2) (λq=>g.length-q.1) ((0,List.replicate g.length 0)) (⟨κ _,pj g⟩) (AR v [0,5,6] Z Z ⟨Z,Z,Z,Z,Z,Z,trivial⟩) ?_))))));rintro ⟨i,w⟩ ⟨hi,D⟩;dsimp only at hi D⊢;refine AD (AF (J (At Z Z Z) (AC (AD (A5 Z (λS=>?_) (λS=>?_))))))
 .refine AU (AD (AX (AD ?_)));have h:i<g.length:=BF S;have hsl:=K.len h;refine AF (J (Al (i) Z Z (Z) (bb h) R3 Z DQ Z) (J (BZ Z Z BL Z) (AB Z Z ?_)));refine AC (AD (AF (ch Z Z (J (I2 Z (χ ..) E0 Z) (ch Z Z (AC (AX (BC (α:=Nat×List Nat) (λq=>⟨102,[(0,.d (Mr g)),(1,.fn 182 [.ptr 5 0 0]),(6,(.own 0 0 g.length)),(21,(.d (Mr g))),(22,(.d (AY g.length))),(23,(.d (AY i))),(27,(.d (j0 (gf g i)))),(28,(.d (AY (gf g i).length))),(29,(.d (AY q.1)))],[(0,[.rowD 3 1 (q.2.map AY)])]++HL c⟩) (λq=>q.1<=(gf g i).length/\CW g i q.1 q.2) (λq=>(gf g i).length-q.1) ((0,w)) (⟨κ _,D⟩) (AR v [0,5,6] Z Z ⟨Z,Z,Z,Z,Z,Z,Z,Z,Z,trivial⟩) ?_))))))));rintro ⟨k,w⟩ ⟨hk,D⟩;dsimp only at hk D⊢;refine AD (AF (J (At Z Z Z) (AC (AD (A5 Z (λR=>?_) (λR=>?_))))))
  .refine AU (AD (AX (AD ?_)));have s:k<(gf g i).length:=BF R;have B:=pk K D h s;have u:gs (gf g i) k<g.length:=by rw[<-D.len];exact B.1
   refine AF ?_;refine J (Al (k) Z Z (Z) (Pi s) E0 Z BK Z) (J (BZ Z Z Ai Z) (AB Z Z (AC (AF (ch Z Z (ch Z Z (J (D1 (gs (gf g i) k) Z Z (Z) (u) Z E0 BK Z) (J (E1 Z Z (Pi B.1) Z Ai Z) ?_))))))));refine J (Ad Z Z (Ξ _ (by omega)) Z) (Q6 37 (.d (AY (gs w (gs (gf g i) k)+1))) Z (eqv (jq AE (by omega))) (J (D1 (gs (gf g i) k) Z Z (Z) (u) Z E0 BK Z) (V (HB (emb:=AY) w (gs w (gs (gf g i) k)+1) Z Z Z Z Z Z B.1 Z BK) (AC (AF (J (Ad Z Z (Ξ _ (by omega)) Z) (ch Z Z (AC ?_))))))));exact ⟨(k+1,w.set (gs (gf g i) k) (gs w (gs (gf g i) k)+1)),⟨s,B.2.2⟩,by show (gf g i).length-(k+1)<(gf g i).length-k;omega,AR v [0,5,6] Z (Z) ⟨Z,Z,Z,Z,Z,Z,Z,Z,Z,trivial⟩⟩
  .refine Aq ?_;have hke:k=(gf g i).length:=by have:=R;omega
   subst hke;refine AF (J (Ad Z Z (Ξ _ (by omega)) Z) (ch Z Z (AC ?_)));exact ⟨(i+1,w),⟨h,uY D⟩,by show g.length-(i+1)<g.length-i;omega,AR v [0,5,6] Z (Z) ⟨Z,Z,Z,Z,Z,Z,trivial⟩⟩
 .refine Aq (AD ?_);have I:i=g.length:=by have:=S;omega
  subst I;obtain ⟨Y,hwd⟩:=uZ D;refine AF (ch Z Z (J (Dz vH vv Z Z Z) (V (ns 1 Z Z Z Z Z Z Z) (AB Z Z (AC (AD ?_))))));refine AD (D0 1 0 0 2 Ao Z Z Z Z Z Z Z (AF (ch Z Z (J (SZ Z E0 Z) (ch Z Z (AC (AX (BC (α:=Nat×List Nat×List Nat) (λq=>⟨102,[(0,.d (Mr g)),(1,.fn 182 [.ptr 5 0 0]),(6,(.own 0 0 g.length)),(11,(.ptr 1 0 0)),(44,(.own 0 0 g.length)),(45,(.d (AY g.length))),(46,(.d (AY q.1)))],Ns c q.2.1 q.2.2++ [(0,[.rowD 3 1 (w.map AY)])]⟩) (λq=>q.1<=g.length/\FI (gs c) w q.1 q.2.1) (λq=>g.length-q.1) ((0,[],[])) (⟨κ _,pI _ w⟩) (AR v [1,2,5,6,0] Z Z ⟨Z,Z,Z,Z,Z,Z,Z,trivial⟩) ?_))))))));rintro ⟨i,l,j⟩ ⟨hi,E⟩;dsimp only at hi E⊢;have hfl:=E.le;refine AD (AF (J (At Z Z Z) (AC (AD (A5 Z (λQ=>?_) (λQ=>?_))))))
  .refine AU (AD (AX (AD ?_)));have h:i<g.length:=BF Q;refine AF (ch Z Z (J (D1 (i) Z Z (Z) (h) Z E0 BK Z) (J (E1 Z Z (Pi (by rw[Y];exact h)) Z Ai Z) ?_)));refine AB Z Z (AB Z Z (AC (AD (AF (ch Z Z (J (Fa Z Z Z) (AC (A5 Z (λO=>?_) (λO=>?_)))))))))
   .refine AF (ch Z Z ?_);refine J (H9 eY Z Z) (ch Z Z (J (Gd vr Z Z) (V (FX (V2 c l j i (by omega) (λx H=>by rw[<-u];have:=((E.mem x).1 H).1;omega) (by rw[<-u];exact h)) Z [1,2,5,6] ⟨Z,Z,Z,Z,trivial⟩ Z Z Z Z Z Z Z Z Z) (AC (AF (J (Ad Z Z (Ξ _ (by omega)) Z) (ch Z Z (AC ?_))))))));exact ⟨(i+1,Nf (gs c) l i,[]),⟨h,pK E (Int.ofNat.inj O)⟩,by show g.length-(i+1)<g.length-i;omega,AR v [1,2,5,6,0] Z (Z) ⟨Z,Z,Z,Z,Z,Z,Z,trivial⟩⟩
   .refine AU (AF (J (Ad Z Z (Ξ _ (by omega)) Z) (ch Z Z (AC ?_))));exact ⟨(i+1,l,j),⟨h,pJ E (λe=>O (jq Int.ofNat e))⟩,by show g.length-(i+1)<g.length-i;omega,AR v [1,2,5,6,0] Z (Z) ⟨Z,Z,Z,Z,Z,Z,Z,trivial⟩⟩
  .refine Aq (AD ?_);have I:i=g.length:=by have:=Q;omega
   subst I;have hoi:=oa Y hwd E.nd E.mem E.hp;refine AF (AB Z Z (AC (AD (AX (IU 14 7 Ao Z Z Z Z (BC (α:=List Nat×List Nat×List Nat×List Nat) (λq=>⟨102,[(0,.d (Mr g)),(1,.fn 182 [.ptr 5 0 0]),(6,(.own 0 0 g.length)),(11,(.ptr 1 0 0)),(14,(.own 7 0 q.2.2.2.length))],Ns c q.2.1 q.2.2.1++ [(0,[.rowD 3 1 (q.1.map AY)]),(7,[.rowD 3 1 (q.2.2.2.map AY)])]⟩) (λq=>OI g (gs c) q.1 q.2.1 q.2.2.2 []) (λq=>g.length-q.2.2.2.length) ((w,l,j,[])) (hoi) (AR v [1,2,5,6,0,7] Z Z ⟨Z,Z,Z,Z,Z,trivial⟩) ?_))))));rintro ⟨w,l,j,f⟩ T;dsimp only at T⊢;have hol:=rn T;refine AD (AD (AF (ch Z Z (V (FX (X4 c l j) Z [1,2,5,6] ⟨Z,Z,Z,Z,trivial⟩ Z Z Z Z Z Z Z Z Z) (J (H4 Z Z Z) (AC (A5 Z (λN=>?_) (λN=>?_))))))))
   .refine AU (AX (AD ?_));have C:l≠ []:=λe=>by subst e;exact absurd N (by decide)
    have ho1:=tL T C;have H:gs l 0<g.length:=T.lt _ (υ.2 (.inr (EO (m8.2 C))));have hol1:f.length+1<=g.length:=by have:=m8.2 C;omega
    refine AF (ch Z Z (J (H9 eY Z Z) (V (FX (pC c l j C (by omega) (λz hz=>by rw[<-u];exact T.lt z (υ.2 (.inr hz)))) Z [1,2,5,6] ⟨Z,Z,Z,Z,trivial⟩ Z Z Z Z Z Z Z Z Z) (J (Or Z vr Z Z) (AB Z Z (AC (AD ?_)))))))
    obtain ⟨x,hxe⟩:∃x,gs l 0=x:=⟨_,Z⟩
    rw[hxe] at ho1 H⊢;refine AF (ch Z Z (ch Z Z (V (CF 21 Ao Z Z Z Z Z Z Z Z) (V (DN (emb:=AY) f [x] Z Z Z Z Z Z Z Z Ao (by show (f.length+1)*8<=_;omega) Z Z Z Z) (AB Z Z (AC (AD (AF ?_))))))));refine ch Z Z (ch Z Z (J (Al (x) Z Z (Z) (bb H) R3 Z DQ Z) (J (BZ Z Z BL Z) (J (I2 Z (χ ..) E0 Z) (ch Z Z (AC (AX (BC (α:=Nat×List Nat×List Nat×List Nat) (λq=>⟨102,[(0,.d (Mr g)),(1,.fn 182 [.ptr 5 0 0]),(6,(.own 0 0 g.length)),(11,(.ptr 1 0 0)),(14,(.own 7 0 (f++ [x]).length)),(73,(.d (j0 (gf g x)))),(74,(.d (AY (gf g x).length))),(75,(.d (AY q.1)))],Ns c q.2.2.1 q.2.2.2++ [(0,[.rowD 3 1 (q.2.1.map AY)]),(7,[.rowD 3 1 ((f++ [x]).map AY)])]⟩) (λq=>q.1<=(gf g x).length/\OI g (gs c) q.2.1 q.2.2.1 (f++ [x]) ((gf g x).drop q.1)) (λq=>(gf g x).length-q.1) ((0,w,Qc (gs c) l,[x]++j)) (⟨κ _,ho1⟩) (AR v [1,2,5,6,0,7] Z Z ⟨Z,Z,Z,Z,Z,Z,Z,Z,trivial⟩) ?_))))))));rintro ⟨k,w,l,j⟩ ⟨hk,o⟩;dsimp only at hk o⊢;refine AD (AF (J (At Z Z Z) (AC (AD (A5 Z (λM=>?_) (λM=>?_))))))
    .refine AU (AD (AX (AD ?_)));have s:k<(gf g x).length:=BF M;have hsl2:=K.len H;have t:gs (gf g x) k<g.length:=K.suc H (EO s);rw[iU s] at o;obtain ⟨hw1,W,U⟩:=tN o t;have hol2:=rn o;have X:=o.len;have hgn:=Pi s
     obtain ⟨y,hye⟩:∃y,gs (gf g x) k=y:=⟨_,Z⟩
     rw[hye] at t hw1 W U hgn o;have G:y<w.length:=by rw[X];exact t
     have hwb:gs w y<=100000000000:=by have:=tJ K o t (by rw[lX];have:=K.len H;omega);omega
     refine AF (J (Al (k) Z Z (Z) (hgn) E0 Z BK Z) (J (BZ Z Z Ai Z) (AB Z Z (AC (AD (AF ?_))))));refine ch Z Z (ch Z Z (J (D1 (y) Z Z (Z) (t) Z E0 BK Z) (J (E1 Z Z (Pi G) Z Ai Z) (J (ME Z Z (Ξ _ (by omega)) Z) (Q6 83 (.d (AY (gs w y-1))) Z (eqv (jq AE (by omega))) (J (D1 (y) Z Z (Z) (t) Z E0 BK Z) (V (HB (emb:=AY) w (gs w y-1) Z Z Z Z Z Z G Z BK) (AC ?_))))))));refine AD (AF (ch Z Z (ch Z Z (J (D1 (y) Z Z (Z) (t) Z E0 BK Z) (J (E1 Z Z (uI G) Z Ai Z) (J (Fa Z Z Z) (AC (A5 Z (λL=>?_) (λL=>?_)))))))))
     .have A:gs w y-1=0:=Int.ofNat.inj L;refine AF (ch Z Z ?_);refine J (H9 eY Z Z) (ch Z Z (J (Gd vr Z Z) (V (FX (V2 c l j y (by rw[Δ,ζ] at hol2;omega) (λz hz=>by rw[<-u];exact o.lt z (υ.2 (.inr hz))) (by rw[<-u];exact t)) Z [1,2,5,6] ⟨Z,Z,Z,Z,trivial⟩ Z Z Z Z Z Z Z Z Z) (AC (AF (J (Ad Z Z (Ξ _ (by omega)) Z) (ch Z Z (AC ?_))))))));exact ⟨(k+1,w.set y (gs w y-1),Nf (gs c) l y,[]),⟨s,W A⟩,by show (gf g x).length-(k+1)<(gf g x).length-k;omega,AR v [1,2,5,6,0,7] Z (Z) ⟨Z,Z,Z,Z,Z,Z,Z,Z,trivial⟩⟩
     .have A:gs w y-1≠0:=λe=>L (jq Int.ofNat e);refine AU (AF (J (Ad Z Z (Ξ _ (by omega)) Z) (ch Z Z (AC ?_))));exact ⟨(k+1,w.set y (gs w y-1),l,j),⟨s,U A⟩,by show (gf g x).length-(k+1)<(gf g x).length-k;omega,AR v [1,2,5,6,0,7] Z (Z) ⟨Z,Z,Z,Z,Z,Z,Z,Z,trivial⟩⟩
    .refine Aq ?_;exact ⟨(w,l,j,f++ [x]),tK o (show k=(gf g x).length by have:=M;omega),by show g.length-(f++ [x]).length<g.length-f.length;rw[Δ,ζ];omega,AR v [1,2,5,6,0,7] Z (Z) ⟨Z,Z,Z,Z,Z,trivial⟩⟩
   .refine Aq (AD ?_);have hl0:l=[]:=List.length_eq_zero_iff.1 (by have:=N;omega);have hE:=tM (hl0▸T);have hoe:=o5 hK hE.1 hE.2;refine Fb (emb:=AY) 14 7 f Z Z Z Z Z Z Z (AF (ch Z Z ?_));refine ch Z Z (J (BU Z E0 Z) (ch Z Z (J (BU Z R3 Z) (J (Fa Z Z Z) (AB Z Z (AB Z Z (AC (A4 ?_))))))));exact ⟨_,[5,6],_,A2 Z,Z,Z,by rw[hoe];exact jq (λb=>AV.d (.tup [j0 f,Am b])) (decide_eq_decide.2 Int.ofNat_inj),Z⟩
theorem WC(g:List (List Nat))(W:GT g):AO prog 134 [.d (Mr g)] [] λr H'=>∃of cnt,kx g.length (gf g) of cnt/\r= .tup [.own 10 0 cnt,.d (j0 ((List.range g.length).map λv=>kM g of cnt (of v)))]/\H'=[(10,[.rowD 28 1 ((gr cnt (GW (λv=>kM g of cnt (of v)) g.length)).map j0)])]:=by
 have hn:=W.gb.n;refine As func134 Z Z ntmps134 Z Z Z λF A=>(AD (AF (AB Z Z (AB Z Z (AC (AD (AF (ch Z Z ?_))))))));refine DA (YB (WD g W.gb) Z [2] ⟨Z,trivial⟩ Z Z Z Z (λr H' ⟨of,cnt,h1,h2,h3⟩=>by subst h2 h3;exact ⟨Z,Z,Z⟩) Z) Z ?_;rintro _ ⟨r,H',⟨of,cnt,t,rfl,rfl⟩,rfl⟩;refine ch Z Z (J (D3 Z Z Z) (J (D3 Z Z Z) (AB Z Z (AB Z Z (AC (AD ?_))))));have hcn:=t.le;refine AF (ch Z Z (V (FZ 6 Ao Z Z Z (by omega) sY Z Z Z Z) (V (CP 5 vI Z Z Z Z) (V (Bi Z Z Z Z Z Z Z DQ) (AC (AD (AD ?_)))))));rw[sy];refine AF (ch Z Z (J (I2 Z (χ ..) R3 Z) (J (ME Z Z (Ξ _ (by omega)) Z) (Q6 29 (.d (AE ((g.length:Int)-1-((0:Nat):Int)))) Z (eqv (jq AE (by omega))) (AB Z Z (AC (AX (BC (α:=Nat) (λd=>⟨142,[(0,.d (Mr g)),(4,(.own 2 0 g.length)),(5,(.d (AY cnt))),(6,(.ptr 5 0 0)),(7,(.d (AE ((g.length:Int)-1-(d:Int)))))],[(2,[.rowD 3 1 (rowN g.length of)]),(5,[.blk 28 [.own 6 0 cnt]]),(6,[.rowD 3 1 (rowN cnt (nM of g.length d))])]⟩) (λd=>d<=g.length) (λd=>g.length-d) (0) (κ _) (AR A [2,5,6] Z Z ⟨Z,Z,Z,Z,Z,trivial⟩) ?_))))))));intro d hd;refine AD (AD (AF (ch Z Z (J (EE Z Z Z) (AC (A5 Z (λh31=>?_) (λh31=>?_)))))))
 .refine AU (AD (AX ?_));have Q:g.length-1-d<g.length:=by omega
  refine Xx 7 (.d (AY (g.length-1-d))) Z (eqv (jq AE (by omega))) ?_;have hoc:=t.lt _ Q;refine Bq [[],[],[],[1,2],[1,2,3],[],rg 6,rg 7] mixed Z (B2 (Ay [6] Z Z (λ_=>Aa (AQ Z Z Z BL Z)) ?_));refine A7 4 Z Z (A7 7 Z Z (Ay [35,36] Z Z (λ_=>Aa (D1 (g.length-1-d) Z Z (Z) (Q) Z E0 BK Z)) (Ay [37] Z Z (λ_=>Aa (E1 Z Z (O9 Q) Z Ai Z)) (A7 7 Z Z (BV 6 Z Z Z (A0 7 Z Z (J (D1 (of (g.length-1-d)) Z Z (Z) (hoc) Z E0 BK Z) (AC ⟨Z,?_⟩))))))));refine A0 8 Z Z (V (Zp Z Z Z Z Z (by rw[EK];exact hoc) EJ Z BK) (AC ⟨Z,?_⟩));refine Bb (AF (ch Z Z (J (ME Z Z (Ξ _ (by omega)) Z) (Q6 33 (.d (AE ((g.length:Int)-1-((d+1:Nat):Int)))) Z (eqv (jq AE (by omega))) (AB Z Z (AC ?_))))));exact ⟨d+1,by omega,by omega,AR A [2,5,6] Z (Z) ⟨Z,Z,Z,Z,Z,trivial⟩⟩
 .refine Aq (AD ?_);have hdn:d=g.length:=by omega
  subst hdn;refine AF (ch Z Z (V (FZ 7 Y9 Z Z Z (by omega) vT Z Z Z Z) (AB Z Z (AC (AD (AD ?_))))));refine SW 7 0 (lA cnt (λ_=>none) (λ_=> [])) Z (by rw[Fz,List.length_replicate]) (VA cnt) ⟨Yk _,LJ _ _ _⟩ Z (IK 40 Z Z Z (AF (ch Z Z (J (I2 Z (χ ..) R3 Z) (ch Z Z (AC (AX (BC (α:=Nat×MF×(Nat->Hd)) (λq=>⟨142,[(0,.d (Mr g)),(4,(.own 2 0 g.length)),(5,(.d (AY cnt))),(6,(.ptr 5 0 0)),(8,(.own 7 0 cnt)),(43,(.d (Mr g))),(44,(.d (AY g.length))),(45,(.d (AY q.1)))],[(2,[.rowD 3 1 (rowN g.length of)]),(5,[.blk 28 [.own 6 0 cnt]]),(6,[.rowD 3 1 (rowN cnt (nM of g.length g.length))]),(7,[.rowD 28 1 (lA cnt q.2.2 (O2 g of q.1 0))]),(40,[.multi q.2.1])]⟩) (λq=>q.1<=g.length/\OD q.2.1 cnt q.2.2 (O2 g of q.1 0)) (λq=>g.length-q.1) ((0,λ_=>none,λ_=>none)) (⟨κ _,by rw[iO];exact OD.zero _⟩) (AR A [2,5,6,7,40] Z Z ⟨Z,Z,Z,Z,Z,Z,Z,Z,trivial⟩) ?_))))))));rintro ⟨i,M,G⟩ ⟨hi,z⟩;dsimp only at hi z⊢;refine AD (AF (J (At Z Z Z) (AC (AD (A5 Z (λU=>?_) (λU=>?_))))))
  .refine AU (AD (AX (AD ?_)));have l:i<g.length:=BF U;have s:=t.lt i l;refine AF (ch Z Z (J (Al (i) Z Z (Z) (bb l) R3 Z DQ Z) (J (BZ Z Z BL Z) (AB Z Z (AB Z Z ?_)))));refine AC (AD (AF (ch Z Z (J (I2 Z (χ ..) E0 Z) (ch Z Z (AC (AX (BC (α:=Nat×MF×(Nat->Hd)) (λq=>⟨142,[(0,.d (Mr g)),(4,(.own 2 0 g.length)),(5,(.d (AY cnt))),(6,(.ptr 5 0 0)),(8,(.own 7 0 cnt)),(9,(.d (AY i))),(43,(.d (Mr g))),(44,(.d (AY g.length))),(45,(.d (AY i))),(50,(.d (j0 (gf g i)))),(51,(.d (AY (gf g i).length))),(52,(.d (AY q.1)))],[(2,[.rowD 3 1 (rowN g.length of)]),(5,[.blk 28 [.own 6 0 cnt]]),(6,[.rowD 3 1 (rowN cnt (nM of g.length g.length))]),(7,[.rowD 28 1 (lA cnt q.2.2 (O2 g of i q.1))]),(40,[.multi q.2.1])]⟩) (λq=>q.1<=(gf g i).length/\OD q.2.1 cnt q.2.2 (O2 g of i q.1)) (λq=>(gf g i).length-q.1) ((0,M,G)) (⟨κ _,z⟩) (AR A [2,5,6,7,40] Z Z ⟨Z,Z,Z,Z,Z,Z,Z,Z,Z,Z,Z,Z,trivial⟩) ?_))))))));rintro ⟨k,M,G⟩ ⟨hk,z⟩;dsimp only at hk z⊢;refine AD (AF (J (At Z Z Z) (AC (AD (A5 Z (λT=>?_) (λT=>?_))))))
   .refine AU (AD (AX (AD ?_)));have o:k<(gf g i).length:=BF T;have hgn:=Pi o;have hsl:=W.gb.len l;have D:gs (gf g i) k<g.length:=W.gb.suc l (EO o);have H:=iP (of:=of) o;have I:=iQ (of:=of) o
    obtain ⟨j,hje⟩:∃j,gs (gf g i) k=j:=⟨_,Z⟩
    rw[hje] at hgn D H I;have hln:=Z1 g of i k (of i);have hlt:=jp (Qr g (Nat.le_of_lt l)) W.tot;have hlt2:((gf g i).take k).length<=1048576:=by rw[η];omega
    refine AF (J (Al (k) Z Z (Z) (hgn) E0 Z BK Z) ?_);refine J (BZ Z Z Ai Z) (AB Z Z (AC (AD (Bq [[],[],[0,1],[0,1,2],[],[],[4,5],[4,5,6],rg 8] mixed Z (B2 (A7 4 Z Z (A7 9 Z Z (Ay [56,57] Z Z (λ_=>Aa (D1 (i) Z Z (Z) (l) Z E0 BK Z)) ?_))))))));refine Ay [58] Z Z (λ_=>Aa (E1 Z Z (O9 l) Z Ai Z)) (A7 4 Z Z (A7 12 Z Z (Ay [60,61] Z Z (λ_=>Aa (D1 (j) Z Z (Z) (D) Z E0 BK Z)) (Ay [62] Z Z (λ_=>Aa (E1 Z Z (O9 D) Z Ai Z)) (BV 8 Z Z Z (A0 9 Z Z (J (DJ Z Z Z) (AC ⟨Z,?_⟩))))))));refine Bb (A5 Z (λS=>?_) (λS=>?_))
    .have w:=H (λe=>S (jq Int.ofNat e));refine Bq [[],[],[],[1,2],[1,2,3],[],[],[],[6,7],[6,7,8],[5,6,7,8,9],[5,6,7,8,9,10],[],[],[12,13],[12,13,14],[12,13,14,15],[5,6,7,8,9,10,11,12,13,14,15,16],rg 18,rg 19] mixed Z (B2 (A7 8 Z Z (A7 4 Z Z (A7 9 Z Z (A1 [66,67] [2] Z Z (λ_=>Aa (D1 (i) Z Z (Z) (l) Z E0 BK Z)) (A1 [68] [2] Z Z (λ_=>Aa (E1 Z Z (O9 l) Z Ai Z)) ?_))))));refine A7 8 Z Z (A7 4 Z Z (A7 9 Z Z (A1 [71,72] [2] Z Z (λ_=>Aa (D1 (i) Z Z (Z) (l) Z E0 BK Z)) (A1 [73] [2] Z Z (λ_=>Aa (E1 Z Z (O9 l) Z Ai Z)) (A1 [70,74] [7] Z Z (λ_=>Aa (D1 (of i) Z Z (Z) (s) Z R3 DQ Z)) (A1 [75] [7] Z Z (λ_=>Aa (E1 Z Z (LB s) Z BL Z)) (A7 4 Z Z (A7 12 Z Z ?_))))))));refine A1 [77,78] [2] Z Z (λ_=>Aa (D1 (j) Z Z (Z) (D) Z E0 BK Z)) (A1 [79] [2] Z Z (λ_=>Aa (E1 Z Z (O9 D) Z Ai Z)) (Cv [80] [21] [(81,_)] Z Z (λ_=>Cg (CF 21 Ao Z Z Z Z Z Z Z Z)) (.inr ⟨81,_,Z,Z,Z,Z,Z⟩) Z Z Z Z Z (Cv [76,81] [60,40,21] [(82,_)] Z Z (λ_=>Cg (Hc 76 60 40 (z.at_ (of i) s) Z Z (by rw[χ]) Z Z Z Z Z (DN (emb:=AY) (O2 g of i k (of i)) [of j] Z Z Z Z Z Z Z Z Ao (by show ((O2 g of i k (of i)).length+1)*8<=_;omega) Z Z Z Z))) (.inr ⟨82,_,Z,Z,Z,Z,Z⟩) Z Z Z Z Z (BV 18 Z Z Z (A0 19 Z Z (Fh 82 60 40 A Z Z Z (by rw[χ]) (by simp) Z Z Z Z Z Z Z (λ_ _=>rfl) λb c hb hc=>(J (D1 (of i) Z Z (Z) (s) Z R3 DQ Z) (AC ⟨Z,?_⟩))))))));refine A0 20 Z Z (V (Zp Z Z Z Z Z (by rw[Fz];exact s) (UZ (h:=some (b,c))) Z DQ) (AC ⟨Z,?_⟩));refine Bb (AF (J (Ad Z Z (Ξ _ (by omega)) Z) (ch Z Z (AC ?_))));exact ⟨(k+1,Bh (Bo M (G (of i))) b (.row 3 1 c ((O2 g of i k (of i)++ [of j]).map AY)),BH G (of i) (some (b,c))),⟨o,by have:=z.app s hb hc;rw[w] at this;exact this⟩,by show (gf g i).length-(k+1)<(gf g i).length-k;omega,AR A [2,5,6,7,40] Z (by rw[w];rfl) ⟨Z,Z,Z,Z,Z,Z,Z,Z,Z,Z,Z,Z,trivial⟩⟩
    .have Y:=I (λh=>S (λe=>h (Int.ofNat.inj e)));refine AU (AF (J (Ad Z Z (Ξ _ (by omega)) Z) (ch Z Z (AC ?_))));exact ⟨(k+1,M,G),⟨o,by rw[<-Y];exact z⟩,by show (gf g i).length-(k+1)<(gf g i).length-k;omega,AR A [2,5,6,7,40] Z (by rw[<-Y];rfl) ⟨Z,Z,Z,Z,Z,Z,Z,Z,Z,Z,Z,Z,trivial⟩⟩
   .refine Aq ?_;have hke:k=(gf g i).length:=by have:=T;omega
    subst hke;refine AF (J (Ad Z Z (Ξ _ (by omega)) Z) (ch Z Z (AC ?_)));exact ⟨(i+1,M,G),⟨l,by rw[<-Z0];exact z⟩,by show g.length-(i+1)<g.length-i;omega,AR A [2,5,6,7,40] Z (by rw[Z0];rfl) ⟨Z,Z,Z,Z,Z,Z,Z,Z,trivial⟩⟩
  .refine Aq (AD ?_);have N:i=g.length:=by have:=U;omega
   subst N;refine jN 7 0 40 ((Ln g of cnt).map j0) Z Z Z Z Z (by rw[χ,Ln,W2,Fz]) z.melt ⟨LJ _ _ _,fJ _⟩ Z (Fb (emb:=j0) 8 7 (Ln g of cnt) Z Z Z (W2 _ _).symm Z Z Z ?_);rw[dx cnt];have hll:=oq of g.length cnt;have hob:=fE (We of g.length cnt) (Ln g of cnt) (uP W t) (by rw[Ln,W2];exact tX t) (by rw[Ln,W2,hll]);rw[<-We,show (AV.own 6 0 cnt)= .own 6 0 (We of g.length cnt).length by rw[hll]];refine AF (ch Z Z ?_);refine J (uk Z Z) (V (FX hob Z [5,6] ⟨Z,Z,trivial⟩ Z Z Z Z Z Z Z Z Z) (ch Z Z (J (Cc Z Z Z) (J (Cc Z Z Z) (AB Z Z (AB Z Z (AC (AD ?_))))))));have hsq:kr (Ln g of cnt) (gs (We of g.length cnt))=l0 g of cnt:=rfl;have y:=fH (Ln g of cnt) (gs (We of g.length cnt));have B:∀k,k<(l0 g of cnt).length->gs (l0 g of cnt) k<cnt:=λk hk=>by have:=o4 (g:=Ln g of cnt) (K:=gs (We of g.length cnt)) hk;rwa [Ln,W2] at this
   rw[Ln,W2,<-Ln] at y;rw[hsq] at y⊢;refine AF (ch Z Z (V (FZ 9 Ao Z Z Z (by omega) sY Z Z Z Z) (AB Z Z (AC (AD (AD ?_))))));rw[sy]
   obtain ⟨a,C⟩:∃a,l0 g of cnt=a:=⟨_,Z⟩
   rw[C] at y B⊢;refine AF (ch Z Z (J (I2 Z (χ ..) E0 Z) (ch Z Z (AC (AX (BC (α:=Nat) (λk=>⟨142,[(0,.d (Mr g)),(4,(.own 2 0 g.length)),(5,(.d (AY cnt))),(15,(.own 9 0 cnt)),(94,(.d (j0 a))),(95,(.d (AY a.length))),(96,(.d (AY k)))],[(2,[.rowD 3 1 (rowN g.length of)]),(9,[.rowD 3 1 (rowN cnt (Du a k))])]⟩) (λk=>k<=a.length) (λk=>a.length-k) (0) (κ _) (AR A [2,9] Z Z ⟨Z,Z,Z,Z,Z,Z,Z,trivial⟩) ?_))))));intro k hk;refine AD (AF (J (At Z Z Z) (AC (AD (A5 Z (λR=>?_) (λR=>?_))))))
   .refine AU (AD (AX (AD ?_)));have o:k<a.length:=BF R;refine AF (ch Z Z (J (Al (k) Z Z (Z) (Pi o) E0 Z BK Z) (J (BZ Z Z Ai Z) (AB Z Z (AB Z Z (AC (AF (ch Z Z ?_))))))));refine ch Z Z (ch Z Z (J (D1 (gs a k) Z Z (Z) (B k o) Z E0 BK Z) (V (Zp Z Z Z Z Z (by rw[EK];exact B k o) EJ Z BK) (AC (AF (J (Ad Z Z (Ξ _ (by omega)) Z) (ch Z Z (AC ?_))))))));exact ⟨k+1,o,by omega,AR A [2,9] Z (Z) ⟨Z,Z,Z,Z,Z,Z,Z,trivial⟩⟩
   .refine Aq (AD ?_);have hks:k=a.length:=by have:=R;omega
    subst hks;refine AF (ch Z Z (V (FZ 10 Ih Z Z Z (by omega) vT Z Z Z Z) (AB Z Z (AC (AD (AD (SW 10 0 (lA cnt (λ_=>none) (λ_=> [])) Z (by rw[Fz,List.length_replicate]) (VA cnt) ⟨Yk _,LJ _ _ _⟩ Z (IK 40 Z Z Z ?_))))))));have hno:∀v,v<g.length->Du a a.length (of v)<cnt:=λv hv=>Yx a (Nat.lt_of_le_of_lt (κ _) (t.lt v hv)) y _ (Θ _) _;refine AF (ch Z Z (J (I2 Z (χ ..) R3 Z) (ch Z Z (AC (AX (BC (α:=Nat×MF×(Nat->Hd)) (λq=>⟨142,[(0,.d (Mr g)),(4,(.own 2 0 g.length)),(15,(.own 9 0 cnt)),(18,(.own 10 0 cnt)),(109,(.d (AY g.length))),(110,(.d (AY q.1)))],[(2,[.rowD 3 1 (rowN g.length (ob of (λv=>Du a a.length (of v)) q.1))]),(9,[.rowD 3 1 (rowN cnt (Du a a.length))]),(10,[.rowD 28 1 (lA cnt q.2.2 (GW (λv=>Du a a.length (of v)) q.1))]),(40,[.multi q.2.1])]⟩) (λq=>q.1<=g.length/\OD q.2.1 cnt q.2.2 (GW (λv=>Du a a.length (of v)) q.1)) (λq=>g.length-q.1) ((0,λ_=>none,λ_=>none)) (⟨κ _,OD.zero _⟩) (AR A [2,9,10,40] Z Z ⟨Z,Z,Z,Z,Z,Z,trivial⟩) ?_))))));rintro ⟨i,M,G⟩ ⟨hi,z⟩;dsimp only at hi z⊢;refine AD (AF (J (At Z Z Z) (AC (AD (A5 Z (λE=>?_) (λE=>?_))))))
    .refine AU (AD (AX (AD ?_)));have l:i<g.length:=BF E;have s:=t.lt i l;have w:=ap (λv=>Du a a.length (of v)) i;have L:=fO of (λv=>Du a a.length (of v)) i;have u:=hno i l;have hofi:ob of (λv=>Du a a.length (of v)) i i=of i:=ν (ml _);have hofj:ob of (λv=>Du a a.length (of v)) (i+1) i=Du a a.length (of i):=ϱ (mN _);have hgo:=O9 (f:=ob of (λv=>Du a a.length (of v)) i) l;have O:=O9 (f:=ob of (λv=>Du a a.length (of v)) (i+1)) l;rw[hofi] at hgo;have hrg:=O9 (f:=Du a a.length) s
     first | dsimp only at w L | skip
     obtain ⟨x,X⟩:∃x,Du a a.length (of i)=x:=⟨_,Z⟩
     rw[hofj,X] at O;rw[X] at w L u hrg;have hln:=fD (λv=>Du a a.length (of v)) i x;refine AF (ch Z Z (AB Z Z (AC ?_)));refine AD (AF (ch Z Z (ch Z Z (ch Z Z (ch Z Z (ch Z Z (J (D1 (i) Z Z (Z) (l) Z E0 BK Z) (J (E1 Z Z (hgo) Z Ai Z) ?_))))))));refine J (D1 (of i) Z Z (Z) (s) Z E0 BK Z) (J (E1 Z Z (hrg) Z Ai Z) (J (D1 (i) Z Z (Z) (l) Z E0 BK Z) (V (Zp Z Z Z Z Z (by rw[EK];exact l) (EJ.trans (by rw[L])) Z BK) (AC (Bq [[],[],[],[1,2],[1,2,3],[],[],[],[6,7],[6,7,8],[5,6,7,8,9],[5,6,7,8,9,10],[],[12],[5,6,7,8,9,10,11,12,13],rg 15,rg 16] mixed Z (B2 (A7 18 Z Z (A7 4 Z Z ?_))))))));refine A7 19 Z Z (A1 [124,125] [2] Z Z (λ_=>Aa (D1 (i) Z Z (Z) (l) Z E0 BK Z)) (A1 [126] [2] Z Z (λ_=>Aa (E1 Z Z (O) Z Ai Z)) (A7 18 Z Z (A7 4 Z Z (A7 19 Z Z (A1 [129,130] [2] Z Z (λ_=>Aa (D1 (i) Z Z (Z) (l) Z E0 BK Z)) (A1 [131] [2] Z Z (λ_=>Aa (E1 Z Z (O) Z Ai Z)) (A1 [128,132] [10] Z Z (λ_=>Aa (D1 (x) Z Z (Z) (u) Z R4 DQ Z)) ?_))))))));refine A1 [133] [10] Z Z (λ_=>Aa (E1 Z Z (LB u) Z BL Z)) (A7 19 Z Z (Cv [135] [21] [(136,_)] Z Z (λ_=>Cg (CF 21 Ao Z Z Z Z Z Z Z Z)) (.inr ⟨136,_,Z,Z,Z,Z,Z⟩) Z Z Z Z Z (Cv [134,136] [60,40,21] [(137,_)] Z Z (λ_=>Cg (Hc 134 60 40 (z.at_ x u) Z Z (by rw[χ]) Z Z Z Z Z (DN (emb:=AY) (GW (λv=>Du a a.length (of v)) i x) [i] Z Z Z Z Z Z Z Z Ao (by show ((GW (λv=>Du a a.length (of v)) i x).length+1)*8<=_;omega) Z Z Z Z))) (.inr ⟨137,_,Z,Z,Z,Z,Z⟩) Z Z Z Z Z (BV 15 Z Z Z (A0 16 Z Z (Fh 137 60 40 A Z Z Z (by rw[χ]) (by simp) Z Z Z Z Z Z Z (λ_ _=>rfl) λb c hb hc=>(J (D1 (x) Z Z (Z) (u) Z R4 DQ Z) (AC ⟨Z,?_⟩))))))));refine A0 17 Z Z (V (Zp Z Z Z Z Z (by rw[Fz];exact u) (UZ (h:=some (b,c))) Z DQ) (AC ⟨Z,?_⟩));refine Bb (AF (J (Ad Z Z (Ξ _ (by omega)) Z) (ch Z Z (AC ?_))));exact ⟨(i+1,Bh (Bo M (G x)) b (.row 3 1 c ((GW (λv=>Du a a.length (of v)) i x++ [i]).map AY)),BH G x (some (b,c))),⟨l,by have:=z.app u hb hc;rw[w] at this;exact this⟩,by show g.length-(i+1)<g.length-i;omega,AR A [2,9,10,40] Z (by rw[w];rfl) ⟨Z,Z,Z,Z,Z,Z,trivial⟩⟩
    .refine Aq (AD ?_);have N:i=g.length:=by have:=E;omega
     subst N;have hof:rowN g.length (ob of (λv=>Du a a.length (of v)) g.length)=((List.range g.length).map λv=>Du a a.length (of v)).map AY:=by rw[jw];exact kQ λv hv=>jq AY (ϱ (Ω.1 hv))
     rw[hof];refine jN 10 0 40 ((gr cnt (GW (λv=>Du a a.length (of v)) g.length)).map j0) Z Z Z Z Z (by rw[χ,W2,Fz]) z.melt ⟨LJ _ _ _,fJ _⟩ Z (Fb (emb:=AY) 4 2 ((List.range g.length).map λv=>Du a a.length (of v)) Z Z Z (by simp) Z Z Z (AF (ch Z Z (ch Z Z (AB Z Z (AB Z Z (AC (A4 ?_))))))));exact ⟨_,[10],_,A2 Z,Z,Z,of,cnt,t,by unfold kM;rw[C],by unfold kM;rw[C]⟩
noncomputable def pw(g:List (List Nat)):(Nat->Nat)×Nat:=Classical.epsilon λp=>CN g.length (gf g) p.1 p.2
noncomputable def nL(g:List (List Nat)):Nat->Nat:=(pw g).1
noncomputable def ln(g:List (List Nat)):Nat:=(pw g).2
theorem T7(f:GB g){cnt:Nat}(h:CN g.length (gf g) u cnt):CN g.length (gf g) (nL g) (ln g)/\cnt=ln g/\∀v,v<g.length->u v=nL g v:=by
 have a:CN g.length (gf g) (pw g).1 (pw g).2:=Classical.epsilon_spec (p:=λp:(Nat->Nat)×Nat=>CN g.length (gf g) p.1 p.2) ⟨(u,cnt),h⟩;exact ⟨a,qB h a λv c y b=>f.suc c b⟩
noncomputable def kE(g:List (List Nat)):List (List Nat):=gr (ln g) (GW (nL g) g.length)
noncomputable def yR(g:List (List Nat)):List Nat:=(List.range g.length).map (nL g)
theorem XW(h:∀v,v<c->u v=H v):GW u c=GW H c:=by grind[GW,lr]
theorem WB(g:List (List Nat))(b:GT g):AO prog 134 [.d (Mr g)] [] λr h=>r= .tup [.own 10 0 (ln g),.d (j0 (yR g))]/\h=[(10,[.rowD 28 1 ((kE g).map j0)])]:=
 (WC g b).mono λr h ⟨c,cnt,a,j,o⟩=>by
  obtain ⟨_,s,f⟩:=T7 b.gb (Xn b a);have k:=XW f;have l:(List.range g.length).map (λv=>kM g c cnt (c v))=yR g:=kQ λv i=>f v (Ω.1 i);rw[j,o,k,l,s];exact ⟨Z,Z⟩
def rI(g:List (List Nat)):List (List Int):=g.map (List.map Int.ofNat)
theorem s9(g:List (List Nat)):sB (rI g)=Mr g:=by simp[*,rI]
theorem Kp(g:List (List Nat)):(rI g).length=g.length:=by simp[rI]
theorem YP(g:List (List Nat)):∀i,i<=g.length->MQ (rI g) i=KP g i
 | 0,_=>rfl
 | i+1,b=>by
  have a:=YP g i (by omega);rw[MP (by rw[Kp];omega),a];unfold KP;rw[ko,jy,mc,nU,List.sum_singleton,Fu (by omega)]
  simp[rI]
theorem u4(a:GT g):WP (rI g)=0:=by
 have j:=a.gb.n;have i:=a.tot;refine (wv (by rw[Kp];omega) (by rw[Kp,YP g _ (Θ _)];omega) ?_).symm;rintro ⟨l,h,x,c,k⟩;obtain ⟨m,f,rfl⟩:=Γ.1 h;obtain ⟨y,b,rfl⟩:=Γ.1 c;have:=a.gb.lt m f y b
 grind[Kp]
theorem oE{g:List (List Nat)}{l:List Nat}(h:l∈g):l.length<=KP g g.length:=by
 obtain ⟨i,a,rfl⟩:=mK.1 h
 have b:KP g (i+1)=KP g i+g[i].length:=by
  grind[KP,ko,Fu]
 have:=Qr g (i:=i+1) (j:=g.length) (by omega);omega
theorem qM(g:List (List Nat))(a:GT g):AI prog 133 [.d (Mr g)] (AE 0):=by
 have i:=a.gb.n;have f:=a.tot
 have h:=io (rI g) (by rw[Kp];omega) λl c=>by
  obtain ⟨m,b,rfl⟩:=Γ.1 c;rw[χ];have:=oE b;omega
 rw[s9,u4 a] at h;exact h
theorem T8(g:List (List Nat))(a:GT g):AO prog 80 [.d (Mr g)] [] λr b=>r= .tup [.own 10 0 (ln g),.d (AE 0)]/\b=[(10,[.rowD 28 1 ((kE g).map j0)])]:=by
 refine As func80 Z Z ntmps80 Z Z Z λF c=>?_;refine AD (AF (AB Z Z (AB Z Z (AC (AD (AD (AF (ch Z Z ?_))))))));refine J (Aj (qM g a) Z Z) (AB Z Z (AC (AD (AF (ch Z Z (J (DJ Z Z Z) (AC (Cq Z (kC (by decide)) ?_))))))));refine AU (AD (AF (ch Z Z (V (FX (WB g a) Z [10] ⟨Z,trivial⟩ Z Z Z Z Z Z Z Z Z) (ch Z Z (J (D3 Z Z Z) (J (D3 Z Z Z) (AB Z Z ?_))))))));refine AB Z Z (AC (AD (AF (ch Z Z (AB Z Z (AB Z Z (AC (A4 ?_))))))));exact ⟨_,[10],_,A2 Z,Z,Z,Z,Z⟩
theorem eG(a:Nat->List Nat)(v:Nat):∃y,(Rh a v y/\Rh a y v)/\∀z,Rh a v z/\Rh a z v->y<=z:=sD (λu=>Rh a v u/\Rh a u v) v v ⟨.refl v,.refl v⟩ (Θ _)
noncomputable def lB(suc:Nat->List Nat)(v:Nat):Nat:=Classical.choose (eG suc v)
theorem HK(a:Nat->List Nat)(v:Nat):(Rh a v (lB a v)/\Rh a (lB a v) v)/\∀z,Rh a v z/\Rh a z v->lB a v<=z:=Classical.choose_spec (eG a v)
theorem Yd:lB a s=lB a F↔Rh a s F/\Rh a F s:=by
 obtain ⟨c,g⟩:=HK a s;obtain ⟨b,f⟩:=HK a F
 constructor
 .intro e;rw[<-e] at b;exact ⟨c.1.trans b.2,b.1.trans c.2⟩
 .intro h;exact Nat.le_antisymm (g _ ⟨h.1.trans b.1,b.2.trans h.2⟩) (f _ ⟨h.2.trans c.1,c.2.trans h.1⟩)
theorem di(n:Nat)(a:Nat->List Nat):∃l cnt,kx n a l cnt:=by
 let b:=(List.range n).filter λv=>decide (lB a v=v)
 have o:b.Nodup:=List.nodup_range.filter _;have g:∀v,lB a v<=v:=λv=>(HK a v).2 v ⟨.refl v,.refl v⟩;have h:∀v,lB a (lB a v)=lB a v:=λv=>Yd.2 ⟨(HK a v).1.2,(HK a v).1.1⟩;have k:∀v,v<n->lB a v∈b:=λv f=>Φ.2 ⟨Ω.2 (Nat.lt_of_le_of_lt (g v) f),Υ (h v)⟩;refine ⟨λv=>b.idxOf (lB a v),b.length,⟨λv f=>mr (k v f),λi j r t=>?_,λc s=>?_,?_⟩⟩
 .rw[<-Yd]
  constructor
  .intro e;have x:=nI (mr (k i r))
   grind
  grind
 .obtain ⟨w,u⟩:=Φ.1 (ϑ s)
  grind
 grind
theorem ia(g:List (List Nat))(a:GT g):CN g.length (gf g) (nL g) (ln g):=by
 obtain ⟨b,cnt,h⟩:=di g.length (gf g);exact (T7 a.gb (Xn a h)).1
end Go.Proofs.YteifpcnphnhaoaaGreat
namespace Go.Proofs.YteifpcnphnhaoaaGreat
open Go.RowKit Go.Shelf
variable{g:List (List Nat)}{x:List Nat}{a:hU}{c:List D}{M:MF}{i:Nat}{f:List AW}{E:List (cl×Nat)}{h:D}{j k o s:Nat}{t u:Int}{w:List Int}{y z:Nat}{N:MF}{A:Nat}
set_option maxRecDepth 100000
def Jx(g:List (List Nat))(i j:Nat):Prop:=Rh (gf g) i j/\Rh (gf g) j i
theorem Mi(g:List (List Nat))(i:Nat):Jx g i i:=⟨.refl i,.refl i⟩
theorem Rj(h:Jx g i s):Jx g s i:=⟨h.2,h.1⟩
theorem K0(h:Jx g i s)(a:Jx g s A):Jx g i A:=⟨h.1.trans a.1,a.2.trans h.2⟩
noncomputable def k9(g:List (List Nat))(i:Nat):List Nat:=(List.range g.length).filter λj=>dec (Jx g i j)
noncomputable def mC(g:List (List Nat)):List Nat:=(List.range g.length).filter λi=>dec (∀j,j<i->¬Jx g i j)
noncomputable def jf(g:List (List Nat)):List (List Nat):=k8 ((mC g).map (k9 g))
theorem WJ:s∈k9 g i↔s<g.length/\Jx g i s:=by
 unfold k9;rw[Φ,Ω,G8]
theorem Pj:i∈mC g↔i<g.length/\∀j,j<i->¬Jx g i j:=by
 unfold mC;rw[Φ,Ω,G8]
theorem qF(h:Jx g i s):k9 g i=k9 g s:=by grind[k9,G8,K0,Rj]
theorem WI(g:List (List Nat))(i:Nat):(k9 g i).Pairwise (· < ·):=List.Pairwise.sublist lj List.pairwise_lt_range
theorem Va(g:List (List Nat)):(mC g).Pairwise (· < ·):=List.Pairwise.sublist lj List.pairwise_lt_range
theorem Td(h:i∈mC g):kI (k9 g i)=(i:Int):=by
 obtain ⟨k,j⟩:=Pj.1 h;have b:i∈k9 g i:=WJ.2 ⟨k,Mi g i⟩;have c:=WI g i;unfold kI
 cases hc:k9 g i with
 | nil=>rw[hc] at b;cases b
 | cons a t=>
  rw[hc] at b c;show ((a:Nat):Int)=_;have f:a∈k9 g i:=by rw[hc];exact k7
  rcases jt.1 b with e | e
  .rw[e]
  .have:=List.rel_of_pairwise_cons c e;exact absurd (WJ.1 f).2 (j a this)
theorem pG(i:Nat)(a:i<g.length):∃k,k∈mC g/\Jx g i k:=by
 induction i using Nat.strongRecOn with
 | ind i b=>
  by_cases h:∀j,j<i->¬Jx g i j
  .exact ⟨i,Pj.2 ⟨a,h⟩,Mi g i⟩
  grind[K0]
theorem Un(c:GT g){v:Nat}(b:v<g.length):GW (nL g) g.length (nL g v)=k9 g v:=by
 have f:=ia g c;unfold GW k9
 exact lr λw a=>by
  rw[nG,decide_eq_true_iff,G8];rw[eq_comm];exact f.scc v w b (Ω.1 a)
theorem LS{l:List (List Nat)}:x∈k8 l↔x∈l/\2<=x.length:=by
 unfold k8 Gq;rw[Φ];simp
theorem WE(b:GT g):x∈kE g↔∃i,i∈mC g/\x=k9 g i:=by
 have f:=ia g b;unfold kE gr;rw[Γ]
 constructor
 .rintro ⟨c,j,rfl⟩;obtain ⟨v,k,rfl⟩:=f.use c (Ω.1 j)
  grind[pG,Un,qF]
 .rintro ⟨i,h,rfl⟩;have a:=(Pj.1 h).1;exact ⟨nL g i,Ω.2 (f.lt i a),Un b a⟩
theorem QB(f:GT g):(kE g).Nodup:=by
 have h:=ia g f;unfold kE gr;rw[List.Nodup,ky];refine rB (R:=λa b=>a<b) (λ{a b} j k i e=>?_) List.pairwise_lt_range;obtain ⟨v,c,rfl⟩:=h.use a (Ω.1 j);have l:v∈GW (nL g) g.length (nL g v):=by unfold GW;rw[Φ];exact ⟨Ω.2 c,by simp⟩
 grind[GW]
theorem WL(a:GT g):x∈jf g↔x∈k8 (kE g):=by grind[jf,LS,WE]
theorem Nl(g:List (List Nat)):(jf g).Pairwise λa b=>kI a<kI b:=by grind[jf,k8,rB,Va,Td]
theorem ik{y:List Nat}(b:x∈jf g)(a:y∈jf g)(h:kI x=kI y):x=y:=by
 unfold jf at b a;obtain ⟨i,f,rfl⟩:=Γ.1 (LS.1 b).1;obtain ⟨j,c,rfl⟩:=Γ.1 (LS.1 a).1;rw[Td f,Td c] at h;rw[Int.ofNat_inj.1 h]
theorem WN(f:GT g)(c:List (List Nat))(i:c.Perm (k8 (kE g)))(o:c.Pairwise λa b=>¬kI b-kI a<0):c=jf g:=by
 have j:c.Nodup:=i.nodup_iff.2 (List.Nodup.sublist lj (QB f));have k:∀x,x∈c↔x∈jf g:=λx=>by rw[i.mem_iff,WL f]
 refine sI (R:=λa b=>kI a<kI b) (λx h=>by omega) (λx y z h t=>by omega) ?_ (Nl g) k;refine rB (λ{a b} s r l=>?_) (List.Pairwise.and o j)
 grind[ik]
theorem qK:Go.Sort.SWO (ltOf λa b:List Nat=>kI a-kI b):=by
 refine ⟨λx=>?_,λx y z h c=>?_,λx y z h c=>?_⟩
 all_goals (grind[ltOf])
theorem AO.fnArgA{P:Program}{f g:FuncId}{x:AV}{H:Hp}{R:AV->Hp->Prop}(h:AO P f [x,.d (.fn g [] [])] H R):AO P f [x,.d (.raw (.func (.func g) #[] #[]))] H R:=
 ⟨h.1,λF r vs y w k u t o=>h.2 F r vs y w k u t λi a v j l=>by
  rcases i with _ | _ | i
  .exact o 0 _ v j l
  .have e:a= .d (.fn g [] []):=by simpa using j.symm
   subst e;have:=o 1 _ v Z l
   cases this with
   | d s=>
    cases s with
    | raw _=>exact .d (.fn (us:=[]) (vs:=[]) Z Z (λi c v b=>by simp at b) λi c v b=>by simp at b)
  .simp at j⟩
theorem KC.l{N:MF}(h:KC M z w):KC (jk M N) z w:=by
 obtain ⟨m,c,a⟩:=h;exact ⟨m,Iu c,Iu a⟩
theorem KC.r{l:List Int}(j:∀i m a,M i=some m->N i=some a->False)(h:KC N z l):KC (jk M N) z l:=by
 obtain ⟨m,g,f⟩:=h
 have c:∀{i a},N i=some a->M i=none:=λ{i a} h=>by
  cases e:M i with
  | none=>rfl
  | some x=>exact (j i _ _ e h).elim
 exact ⟨m,LP (c g) g,LP (c f) f⟩
theorem KC.put{g:Nat}{o:Au}(h:KC N z w)(f:N g=none):KC (Bh N g o) z w:=by
 obtain ⟨m,c,a⟩:=h;exact ⟨m,by rw[IV (λe=>by rw[e,f] at c;cases c)];exact c,by rw[IV (λe=>by rw[e,f] at a;cases a)];exact a⟩
abbrev yW:FuncId:=79
def uz(L G:List Int)(id:Int):Bool:=decide (id∈L) && !decide (id∈G)
theorem qJ{j i g h:Nat}{L G:List Int}(b:N j=some (.cells 124 [Zx g]))(a:N i=some (.cells 124 [Zx h]))(k:KC N g L)(l:KC N h G)(id:Int):
  AO prog yW [.d (AE id),.d (pD j 0),.d (pD i 0)] [(41,[.multi N])] λr o=>r= .d (Am (uz L G id))/\o=[(41,[.multi N])]:=by
 refine As func79 Z Z ntmps79 Z Z Z λF s=>(AD (AF ?_));refine AB Z Z (AC (AD (AF (J (FE (f:=41) Z Z b Z rl Z) (ch Z Z (V (cM (J0 k id) Z [41] ⟨Z,trivial⟩ Z Z Z Z Z Z Z Z Z) (ch Z Z (C7 8 Z (λc=>?_) (λc=>?_)))))))));refine AT Z Z Z (J (FE (f:=41) Z Z a Z rl Z) (AT Z Z Z (ch Z Z (AT Z Z Z (V (cM (J0 l id) Z [41] ⟨Z,trivial⟩ Z Z Z Z Z Z Z Z Z) (AT Z Z Z (J (Jq Z Z) (J (B8 Z Z Z Z) ?_))))))))
 rotate_left
 refine AN Z Z Z Z (AN Z Z Z Z (AN Z Z Z Z (AN Z Z Z Z (J (Bx Z Z Z Z) ?_))))
 all_goals
  refine AB Z Z (AC (A4 ?_));exact ⟨_,[41],_,A2 Z,Z,Z,by {unfold uz;simp[c]},Z⟩
theorem uG(h:E.length<=1000):GT (kL f E):=by
 have a:∀l∈kL f E,l.length<=1000/\∀x∈l,x<E.length:=λl a=>by
  obtain ⟨e,_,rfl⟩:=Γ.1 a;exact ⟨jp (OG _ _ _ _) h,cr⟩
 refine ⟨⟨by rw[Xz];omega,λl b=>by have:=(a l b).1;omega,λl b x g=>by rw[Xz];exact (a l b).2 x g⟩,?_⟩
 have c:∀i,i<=(kL f E).length->KP (kL f E) i<=i*1000:=λi k=>by
  induction i with
  | zero=>exact κ _
  | succ i j=>
   grind[Fu,KP,ko]
 grind[Xz]
noncomputable def kD(p:hU):List (cl×Nat):=((ea p.it).filter λi=>uz (fl p) (Bu p) i.id).map λi=>(i,0)
theorem iJ(p:hU):(kD p).map Prod.fst=(ea p.it).filter λi=>uz (fl p) (Bu p) i.id:=by unfold kD;rw[jw];exact List.map_id _
noncomputable def lD(rs:List AW)(E:List (cl×Nat)):List (List Int):=(jf (kL rs E)).map (BQ E)
theorem Zb(h:x∈jf g):2<=x.length/\x.length<=g.length/\∀k∈x,k<g.length:=by
 obtain ⟨b,a⟩:=LS.1 h
 grind[k9]
theorem WM(g:List (List Nat)):(jf g).length<=g.length:=by grind[jf,gE,mC]
theorem Z6(a:GT g)(h:x∈kE g):x.length<=g.length/\∀k∈x,k<g.length:=by grind[WE,k9]
theorem qA(a:GT g):ln g<=g.length:=by
 obtain ⟨b,cnt,h⟩:=di g.length (gf g);have:=(T7 a.gb (Xn a h)).2.1;have:=h.le;omega
theorem WG:(kE g).length=ln g:=by unfold kE;rw[W2]
theorem wi{l:List Nat}(h:0<l.length)(a:∀k∈l,k<y):l.getD 0 0<y:=by simp_all
theorem ij(a:GT g):(jf g).length=(k8 (kE g)).length:=by
 have c:(jf g).Nodup:=by
  grind[List.Pairwise.imp,Nl]
 have b:(k8 (kE g)).Nodup:=List.Nodup.sublist lj (QB a);exact ((qx c b).2 λx=>WL a).length_eq
theorem RH{b:List ey}{a:List cl}:∀(f:Nat) (c:Nat->Bool) (x:Int),x∈MX b a f c->∃i,i<a.length/\c i=true/\x=(a.getD i ek).id
 | 0,_,_,h=>by cases h
 | f+1,c,x,h=>by
  cases hn:FT b a c with
  | none=>rw[Ff hn] at h;cases h
  | some i=>
   rw[HF hn] at h;obtain ⟨r,k,_⟩:=It hn;rcases jt.1 h with e | h
   .exact ⟨i,r,k,e⟩
   .obtain ⟨j,o,g,l⟩:=RH f _ x h;refine ⟨j,o,?_,l⟩;unfold BB at g
    by_cases e:j=i
    .rw[e];exact k
    .simpa [e] using g
theorem PA{b:List ey}{a:List cl}(g:(a.map cl.id).Nodup):∀(f:Nat) (k:Nat->Bool),(MX b a f k).Nodup
 | 0,_=>List.nodup_nil
 | f+1,k=>by
  cases hn:FT b a k with
  | none=>rw[Ff hn];exact List.nodup_nil
  | some i=>
   rw[HF hn];obtain ⟨t,u,_⟩:=It hn;refine nA.2 ⟨λh=>?_,PA g f _⟩;obtain ⟨j,s,r,o⟩:=RH f _ _ h;have l:j≠i:=λe=>by subst e;unfold BB at r;simp at r
   rw[Ψ,Ψ,ω t,ω s] at o;have e:(a.map cl.id)[i]'(by simpa using t)=(a.map cl.id)[j]'(by simpa using s):=by rw[kT,kT];exact o
   rw[List.Nodup,l4] at g;rcases Nat.lt_trichotomy i j with c | c | c
   .exact g i j _ _ c e
   .exact l c.symm
   .exact g j i _ _ c e.symm
theorem V6(b:Ac a=0):(Bu a).Nodup:=PA (F4 b) _ _
theorem Mq(b:CT a):(Bu a).length<=30:=by
 have h:=UX (ros:=j8 a) (its:=hJ a) (hJ a).length λ_=>true;have c:=DW a;have:=b.i;unfold Bu;omega
theorem Tf(p:hU)(c:CT p)(b:Ac p≠0):AI prog 30 [.d (BG p)] (.tup [.sl (some true) [],AE (Ac p)]):=by
 have a:=Na p c b;refine As func30 Z Z ntmps30 Z Z Z λF f=>(AD (AF (V (B7 1 Z Z Z Z Z Z Z) ?_)));refine AB Z Z (AB Z Z (AC (AD (AF (J (Ap Z Z Bp Z Z Z) (J (Aj (a) Z Z) (ch Z Z (J (Cc Z Z Z) ?_))))))));refine J (Cc Z Z Z) (AB Z Z (AB Z Z (AC (AD (AD (AF (ch Z Z (J (DJ Z Z Z) ?_))))))));refine AC (CM Z (Υ b) (AD (AF (ch Z Z (AB Z Z (AB Z Z (AC (A4 ?_))))))));exact ⟨_,[],[],A2 Z,Z,Z,Z,Z⟩
theorem SP(p:hU)(B:CT p)(v:Ac p=0):AI prog 30 [.d (BG p)] (.tup [Wd (lD (j1 p) (kD p)),AE 0]):=by
 have hi30:=B.i;have hlk:=K6 p B v;have hgk:=V5 p B v;have hO:hJ p=ea p.it:=ϱ v;have hll:=Ef v;have hgn:(Bu p).Nodup:=V6 v;have hgl:(Bu p).length<=30:=Mq B;refine As func30 Z Z ntmps30 Z Z Z λF hF=>?_;refine AD (AF (V (B7 1 Z Z Z Z Z Z Z) (AB Z Z (AB Z Z (AC (AD (AF (J (Ap Z Z Bp Z Z Z) ?_))))))));refine J (Aj (hlk) Z Z) (ch Z Z (J (Cc Z Z Z) (J (Cc Z Z Z) (AB Z Z (AB Z Z (AC (AD (AD ?_))))))));refine AF (ch Z Z (J (DJ Z Z Z) (AC (Cq Z (kC (by decide)) (AU (AD (AF (J (Ap Z Z Bp Z Z Z) ?_))))))));refine J (Aj (hgk) Z Z) (ch Z Z (J (Cc Z Z Z) (J (Cc Z Z Z) (AB Z Z (AB Z Z (AC (AD (AD ?_))))))));refine AF (ch Z Z (J (DJ Z Z Z) (AC (Cq Z (kC (by decide)) (AU (AD (AF (ch Z Z ?_))))))));refine DA (YB (Gy (fl p) (G3 v) (by omega)) Z [41] ⟨Z,trivial⟩ Z Z Z Z (λr z ⟨b,N,i,h,_⟩=>by subst i h;exact ⟨Z,Z,Z⟩) Z) Z ?_;rintro _ ⟨r,z,⟨bl,N1,i,h,hWl⟩,rfl⟩;subst i h;refine ch Z Z ?_;refine DA (YB ((Gy (Bu p) hgn (by omega)).byX [(41,42)] Z) Z [42] ⟨Z,trivial⟩ Z Z Z Z (λr z ⟨r0,H0,⟨b,N,i,h,_⟩,e3,e4⟩=>by subst e3 e4 i h;exact ⟨Z,Z,Z⟩) Z) Z ?_;rintro _ ⟨r,z,⟨r0,H0,⟨bg,N2,i,h,hWg⟩,e3,e4⟩,rfl⟩;subst e3 e4 i h;refine V (CP 7 rG Z Z Z Z) (V (CP 8 rG Z Z Z Z) (V (Bi Z Z Z Z Z Z Z rO) (V (Bi Z Z Z Z Z Z Z rO) (AC (AD (q9 42 41 Z Z Z Z Z Z Z Z Z λhdj=>?_))))));have R:=hWl.l (N:=N2);have W:=KC.r hdj hWg;refine EZ (ds:=[Zx bl]) 7 7 41 hF Z Z Z Z Z Z Z Z Z Z Z (λ_=>rfl) λb7 L=>?_;have Q:=R.put (o:= .cells 124 [Zx bl]) L;have U:=W.put (o:= .cells 124 [Zx bl]) L;refine EZ (ds:=[Zx bg]) 8 8 41 hF Z Z Z Z Z Z Z Z Z Z Z (λ_=>rfl) λb8 s=>?_;have O:=Q.put (o:= .cells 124 [Zx bg]) s;have S:=U.put (o:= .cells 124 [Zx bg]) s;have hq7:=H3 (Bh (jk N1 N2) b7 (.cells 124 [Zx bl])) b8 (.cells 124 [Zx bg]);refine AF (J (Ap Z Z Bp Z Z Z) (J (cQ (ds:=[]) (es:=[pD b7 0,pD b8 0]) Z Z Z Z Z) ?_));refine DA (YB (ND p v B yW [pD b7 0,pD b8 0] _ (uz (fl p) (Bu p)) (qJ (by rw[IV (λe=>by rw[<-e,H3] at s;cases s)];exact H3 _ _ _) hq7 O S)) Z [41,40] ⟨Z,Z,trivial⟩ Z Z Z Z (λr z ⟨E,M,i,h,_⟩=>by subst i h;exact ⟨Z,Z,Z⟩) Z) Z ?_;rintro _ ⟨r,z,⟨E,M,i,h,hR,u⟩,rfl⟩;subst i h;refine AB Z Z (AC (AD ?_));have X:E.map Prod.fst=(kD p).map Prod.fst:=by rw[u,hO,iJ]
 have K:=Ry (rs:=j1 p) (E:=E) (E':=kD p) X;have hn30:E.length<=30:=by have C:(E.map Prod.fst).length<=(ea p.it).length:=(by rw[u,hO];exact lE _ _);rw[χ,Nr] at C;omega
 have haf:∀e∈E,e.1.af.length<=100000:=λe he=>by have C:e.1∈E.map Prod.fst:=m9 he;rw[u,hO] at C;have:=(B.x _ ((Js p.it).mem_iff.1 (Φ.1 C).1)).2.2;omega
 have f:GT (kL (j1 p) E):=uG (by omega)
 obtain ⟨g,t⟩:∃g,kL (j1 p) E=g:=⟨_,Z⟩
 have hgl2:g.length=E.length:=by rw[<-t,Xz]
 have G:=ZT E hR (by omega) haf;rw[t] at f G;refine AF (ch Z Z (V (FX G Z [40] ⟨Z,trivial⟩ Z Z Z Z Z Z Z Z Z) ?_));refine DA (YB (T8 g f) Z [10] ⟨Z,trivial⟩ Z Z Z Z (λr z ⟨i,h⟩=>by subst i h;exact ⟨Z,Z,Z⟩) Z) Z ?_;rintro _ ⟨r,z,⟨i,h⟩,rfl⟩;subst i h;refine ch Z Z (J (D3 Z Z Z) (J (D3 Z Z Z) (AB Z Z (AB Z Z (AC ?_)))));refine AD (AD (AF (ch Z Z (J (DJ Z Z Z) (AC (Cq Z (kC (by decide)) (AU (AD ?_))))))));have hcl:ln g=(kE g).length:=WG.symm;have hca:∀c∈kE g,c.length<=100000:=λc hc=>by have:=(Z6 f hc).1;omega
 have hcn30:(kE g).length<=30:=by rw[WG];have:=qA f;omega
 rw[hcl]
 obtain ⟨D,hjk⟩:∃D,(List.replicate ((kE g).length-(k8 (kE g)).length) none).map eO=D:=⟨_,Z⟩
 have H:=(uU (kE g) (by omega) hca).fnArgA;rw[hjk] at H;have j:∀x∈k8 (kE g),0<x.length/\x.getD 0 0<=100000:=λx A=>by have C:=LS.1 A;have h2:=(Z6 f C.1).2;have h3:=wi (by omega) h2;exact ⟨by omega,by omega⟩
 refine AF (ch Z Z (V (FX H Z [10] ⟨Z,trivial⟩ Z Z Z Z Z Z Z Z Z) (AB Z Z (AC (AD (AF ?_))))));refine ch Z Z (V (dO ta func84 Z Z (λ_=>rfl) (λa b=>kI a-kI b) qK (k8 (kE g)) (jf g) D (by have:=gE (kE g);omega) (λx A y hy=>qI x y (j x A).1 (j y hy).1 (j x A).2 (j y hy).2) (λys g1 g2=>WN f ys g1 g2) Z Z Z NB Z Z Z Z Z) (AC (AD (AF (AB Z Z (AC (AD (AD ?_))))))));have I:(k8 (kE g)).length=(jf g).length:=(ij f).symm;rw[I];have hc30:(jf g).length<=30:=by have:=WM g;omega
 refine AF (ch Z Z (J (SZ Z R4 Z) (ch Z Z (AC (AX (IU 11 11 Ih Z Z Z Z (BC (α:=Nat×List (List Int)) (λq=>⟨64,[(9,(.d (.sl none (E.map DL)))),(11,(.own 11 0 q.2.length)),(50,(.own 10 0 (jf g).length)),(51,(.d (AE ((jf g).length:Int)))),(52,(.d (AE (q.1:Int))))],[(11,[.rowD 28 1 (q.2.map Gl)]),(10,[.rowD 28 1 ((jf g).map j0++D)])]⟩) (λq=>q.1<=(jf g).length/\q.2=((jf g).take q.1).map (BQ E)) (λq=>(jf g).length-q.1) ((0,[])) (⟨κ _,Z⟩) (AR hF [11,10] Z Z ⟨Z,Z,Z,Z,Z,trivial⟩) ?_)))))));rintro ⟨k,T⟩ ⟨hk,Y⟩;dsimp only at hk Y⊢;refine AD (AF (J (At Z Z Z) (AC (AD (A5 Z (λw=>?_) (λw=>?_))))))
 .refine AU (AD (AX (AD ?_)));have l:k<(jf g).length:=BF w;obtain ⟨hx2,hxl,hxm⟩:=Zb (ϑ l);have hTl:T.length<=30:=by rw[Y,χ,η];omega
  refine AF (J (D1 (k) Z Z (Z) (l) Z R4 DQ Z) (J (E1 Z Z ((show ((jf g).map j0++D)[k]? =some (j0 (jf g)[k]) from by rw[nT (by rw[χ];exact l)];exact AP l)) Z BL Z) ?_));refine AB Z Z (AC (AF (ch Z Z (ch Z Z (ch Z Z ?_)))));refine J (Aj (sA E (jf g)[k] (λx A=>by have:=hxm x A;omega) (by omega)) Z Z) (V (CF 30 Ih Z Z Z Z Z Z Z Z) (V (DN (T) ([BQ E (jf g)[k]]) Z Z Z Z Z Z Z Z Ih (by simp only[ζ];omega) Z Z Z Z) (AB Z Z (AC (AF (J (Ad Z Z (AJ (k+1) (by omega)) Z) (ch Z Z (AC ?_))))))));exact ⟨(k+1,T++ [BQ E (jf g)[k]]),⟨l,by show _=((jf g).take (k+1)).map _;rw[ψ l,jy,Y];rfl⟩,by show (jf g).length-(k+1)<(jf g).length-k;omega,AR hF [11,10] Z (Z) ⟨Z,Z,Z,Z,Z,trivial⟩⟩
 .refine Aq (AD ?_);have hke:k=(jf g).length:=by have:=w;omega
  refine Fb (emb:=Gl) 11 11 T Z Z Z Z Z Z Z ?_;rw[show T=lD (j1 p) (kD p) by rw[Y,hke,kV,<-t];unfold lD;rw[K.1,K.2.1]];refine AF (ch Z Z (AB Z Z (AB Z Z (AC (A4 ?_)))));exact ⟨_,[],[],A2 Z,Z,Z,Z,Z⟩
abbrev Sn(p:hU):List D:=[.sl none (p.ro.map BY),.sl none (p.it.map Ah)]
theorem ue(s:M o=some (.cells 39 (Sn a)))(l:M k=some (.cells 32 c))(A:c.length=5)(i:M j=some (.cells 33 [AE u]))(w:j≠k)(y:h.one=true)(z:AI prog 39 [.d (BG a)] (.tup [h,AE t])):
  AO prog 41 [.d (pD o 0),.d (pD k 0),.d (pD j 0)] [(41,[.multi M])] λr B=>r= .tup []/\B=[(41,[.multi (Bh (Bh M k (.cells 32 (c.set 0 h))) j (.cells 33 [AE t]))])]:=by
 refine As func41 Z Z ntmps41 Z Z Z λF C=>(AF ?_);refine J (De (f:=41) (n:=2) Z Z s Bp Z Z (λb g=>by rcases jt.1 g with rfl | g;rfl;rcases jt.1 g with rfl | g;rfl;cases g) Z) (J (Aj (z) Z Z) (ch Z Z (J (Cc Z Z Z) (J (Cc Z Z Z) (J (Cr Z mR Z Z Z) (V (Qk (f:=41) (off:=0) Z Z y Z l (by omega) Z DQ) (V (Qk (f:=41) (off:=0) Z Z Z Z (by rw[IV w];exact i) (by simp) Z dA) (AC ?_))))))));exact ⟨_,[41],_,A2 Z,Z,Z,Z,Z⟩
theorem uc(s:M o=some (.cells 39 (Sn a)))(l:M k=some (.cells 32 c))(A:c.length=5)(i:M j=some (.cells 33 [AE u]))(w:j≠k)(y:h.one=true)(z:AI prog 43 [.d (BG a)] (.tup [h,AE t])):
  AO prog 42 [.d (pD o 0),.d (pD k 0),.d (pD j 0)] [(41,[.multi M])] λr B=>r= .tup []/\B=[(41,[.multi (Bh (Bh M k (.cells 32 (c.set 1 h))) j (.cells 33 [AE t]))])]:=by
 refine As func42 Z Z ntmps42 Z Z Z λF C=>(AF ?_);refine J (De (f:=41) (n:=2) Z Z s Bp Z Z (λb g=>by rcases jt.1 g with rfl | g;rfl;rcases jt.1 g with rfl | g;rfl;cases g) Z) (J (Aj (z) Z Z) (ch Z Z (J (Cc Z Z Z) (J (Cc Z Z Z) (J (Cr Z nF Z Z Z) (V (Qk (f:=41) (off:=1) Z Z y Z l (by omega) Z DQ) (V (Qk (f:=41) (off:=0) Z Z Z Z (by rw[IV w];exact i) (by simp) Z dA) (AC ?_))))))));exact ⟨_,[41],_,A2 Z,Z,Z,Z,Z⟩
theorem ub{z:D}(w:M o=some (.cells 39 (Sn a)))(g:M k=some (.cells 32 c))(C:c.length=5)(l:c[0]? =some z)(s:M j=some (.cells 33 [AE u]))(y:j≠k)(A:h.one=true)(B:AI prog 23 [.d (BG a),.d z] (.tup [h,AE t])):
  AO prog 44 [.d (pD o 0),.d (pD k 0),.d (pD j 0)] [(41,[.multi M])] λr E=>r= .tup []/\E=[(41,[.multi (Bh (Bh M k (.cells 32 (c.set 2 h))) j (.cells 33 [AE t]))])]:=by
 refine As func44 Z Z ntmps44 Z Z Z λF G=>(AF (J (De (f:=41) (n:=2) Z Z w Bp Z Z (λb i=>by rcases jt.1 i with rfl | i;rfl;rcases jt.1 i with rfl | i;rfl;cases i) Z) (J (Cr Z mR Z Z Z) ?_)));refine J (FE (f:=41) Z Z g l BL Z) (J (Aj (B) Z Z) (ch Z Z (J (Cc Z Z Z) (J (Cc Z Z Z) (J (Cr Z gz Z Z Z) (V (Qk (f:=41) (off:=2) Z Z A Z g (by omega) Z v7) (V (Qk (f:=41) (off:=0) Z Z Z Z (by rw[IV y];exact s) (by simp) Z dA) (AC ?_))))))));exact ⟨_,[41],_,A2 Z,Z,Z,Z,Z⟩
theorem ua(s:M o=some (.cells 39 (Sn a)))(l:M k=some (.cells 32 c))(A:c.length=5)(i:M j=some (.cells 33 [AE u]))(w:j≠k)(y:h.one=true)(z:AI prog 30 [.d (BG a)] (.tup [h,AE t])):
  AO prog 45 [.d (pD o 0),.d (pD k 0),.d (pD j 0)] [(41,[.multi M])] λr B=>r= .tup []/\B=[(41,[.multi (Bh (Bh M k (.cells 32 (c.set 3 h))) j (.cells 33 [AE t]))])]:=by
 refine As func45 Z Z ntmps45 Z Z Z λF C=>(AF ?_);refine J (De (f:=41) (n:=2) Z Z s Bp Z Z (λb g=>by rcases jt.1 g with rfl | g;rfl;rcases jt.1 g with rfl | g;rfl;cases g) Z) (J (Aj (z) Z Z) (ch Z Z (J (Cc Z Z Z) (J (Cc Z Z Z) (J (Cr Z nE Z Z Z) (V (Qk (f:=41) (off:=3) Z Z y Z l (by omega) Z v7) (V (Qk (f:=41) (off:=0) Z Z Z Z (by rw[IV w];exact i) (by simp) Z dA) (AC ?_))))))));exact ⟨_,[41],_,A2 Z,Z,Z,Z,Z⟩
theorem u9(s:M o=some (.cells 39 (Sn a)))(l:M k=some (.cells 32 c))(A:c.length=5)(i:M j=some (.cells 33 [AE u]))(w:j≠k)(y:h.one=true)(z:AI prog 31 [.d (BG a)] (.tup [h,AE t])):
  AO prog 46 [.d (pD o 0),.d (pD k 0),.d (pD j 0)] [(41,[.multi M])] λr B=>r= .tup []/\B=[(41,[.multi (Bh (Bh M k (.cells 32 (c.set 4 h))) j (.cells 33 [AE t]))])]:=by
 refine As func46 Z Z ntmps46 Z Z Z λF C=>(AF ?_);refine J (De (f:=41) (n:=2) Z Z s Bp Z Z (λb g=>by rcases jt.1 g with rfl | g;rfl;rcases jt.1 g with rfl | g;rfl;cases g) Z) (J (Aj (z) Z Z) (ch Z Z (J (Cc Z Z Z) (J (Cc Z Z Z) (J (Cr Z lm Z Z Z) (V (Qk (f:=41) (off:=4) Z Z y Z l (by omega) Z xV) (V (Qk (f:=41) (off:=0) Z Z Z Z (by rw[IV w];exact i) (by simp) Z dA) (AC ?_))))))));exact ⟨_,[41],_,A2 Z,Z,Z,Z,Z⟩
abbrev Nw:D:= .sl (some true) []
def xL:List FuncId:=[41,42,44,45,46]
def yc(b1 b4 b5:Nat)(g:FuncId):D:= .fn g [] [pD b1 0,pD b4 0,pD b5 0]
noncomputable def md(p:hU):List D:=[Gl (fl p),Gl (Bu p),Wd (kW (j1 p) (JL p (fl p))),Wd (lD (j1 p) (kD p)),.sl none ((km p).map cL)]
noncomputable def mO(p:hU)(k:Nat):List D:=(md p).take k++List.replicate (5-k) Nw
theorem yH(i:CT a)(h:Ac a=0)(v:A<xL.length)(f:M o=some (.cells 39 (Sn a)))(c:M k=some (.cells 32 (mO a A)))(b:M j=some (.cells 33 [AE 0]))(g:j≠k):
  AO prog xL[A] [.d (pD o 0),.d (pD k 0),.d (pD j 0)] [(41,[.multi M])] λr w=>r= .tup []/\w=[(41,[.multi (Bh (Bh M k (.cells 32 (mO a (A+1)))) j (.cells 33 [AE 0]))])]:=by
 have s:∀x∈fl a,x∈a.it.map cl.id:=λx t=>Ro h t;have l:=G3 h;have u:=Ef h;have y:=i.i
 match A,v with
 | 0,_=>exact ue f c Z b g Z (K6 a i h)
 | 1,_=>exact uc f c Z b g Z (V5 a i h)
 | 2,_=>exact ub f c Z Z b g Z (u0 a (fl a) i (by omega) (Tg h l s) h l)
 | 3,_=>exact ua f c Z b g Z (SP a i h)
 | 4,_=>exact u9 f c Z b g Z (SS a i h)
theorem Xw(p:hU)(I:CT p)(N:Ac p=0):AI prog 12 [.d (BG p)] (.tup [.agg (md p),AE 0]):=by
 refine As func12 Z Z ntmps12 Z Z Z λF y=>(AD (AF ?_));refine V (B7 1 Z Z Z Z Z Z Z) (V (CP 2 sX Z Z Z Z) (AB Z Z (AC (AD (AF (V (CP 4 sX Z Z Z Z) (AC (AD ?_))))))));refine AF (V (CP 5 xR Z Z Z Z) (AC (AD (AD (IK 41 Z Z Z (EZ (ds:=Sn p) 1 1 41 y Z Z Z Z Z Z Z Z Z Z Z (λ_=>rfl) λg L=>(EZ (ds:=[Nw,Nw,Nw,Nw,Nw]) 4 4 41 y Z Z Z Z Z Z Z Z Z Z Z (λ_=>rfl) λb w=>(EZ (ds:=[AE 0]) 5 5 41 y Z Z Z Z Z Z Z Z Z Z Z (λ_=>rfl) λa h=>?_))))))));have o:b≠g:=λe=>by rw[e,H3] at w;cases w
 have l:a≠b:=λe=>by rw[e,H3] at h;cases h
 have z:a≠g:=λe=>by rw[e,IV (Ne.symm o),H3] at h;cases h
 refine AF (J (cQ (ds:=[]) (es:=[pD g 0,pD b 0,pD a 0]) Z Z Z Z Z) (J (cQ (ds:=[]) (es:=[pD g 0,pD b 0,pD a 0]) Z Z Z Z Z) ?_));refine J (cQ (ds:=[]) (es:=[pD g 0,pD b 0,pD a 0]) Z Z Z Z Z) (J (cQ (ds:=[]) (es:=[pD g 0,pD b 0,pD a 0]) Z Z Z Z Z) (J (cQ (ds:=[]) (es:=[pD g 0,pD b 0,pD a 0]) Z Z Z Z Z) (V (CF 20 x3 Z Z Z Z Z Z Z Z) (J (SZ Z underlying94 Z) (ch Z Z (AC (AX (BC (α:=Nat×MF) (λq=>⟨27,[(2,(.ptr 2 0 0)),(4,(.d (pD b 0))),(5,(.d (pD a 0))),(13,(.own 20 0 5)),(14,(.d (AE 5))),(15,(.d (AE (q.1:Int))))],[(20,[.rowD 1 1 (xL.map (yc g b a))]),(2,[.blk 32 [.d Nw,.d Nw,.d Nw,.d Nw,.d Nw]]),(41,[.multi q.2])]⟩) (λq=>q.1<=5/\q.2 g=some (.cells 39 (Sn p))/\q.2 b=some (.cells 32 (mO p q.1))/\q.2 a=some (.cells 33 [AE 0])) (λq=>5-q.1) ((0,_)) (⟨κ _,by show Bh _ _ _ _=_;rw[IV (Ne.symm z),IV (Ne.symm o)];exact H3 _ _ _,by show Bh _ _ _ _=_;rw[IV (Ne.symm l)];exact H3 _ _ _,H3 _ _ _⟩) (AR y [20,2,41] Z Z ⟨Z,Z,Z,Z,Z,Z,trivial⟩) ?_))))))));rintro ⟨k,M⟩ ⟨H,j,i,v⟩;dsimp only at H j i v⊢;refine AD (AF (J (At Z Z Z) (AC (AD (A5 Z (λs=>?_) (λs=>?_))))))
 .refine AU (AD (AX (AD ?_)));have t:k<5:=BF s;have u:k<xL.length:=t;have C:Bh (Bh M b (.cells 32 (mO p (k+1)))) a (.cells 33 [AE 0]) g=some (.cells 39 (Sn p)):=by rw[IV (Ne.symm z),IV (Ne.symm o)];exact j
  have B:Bh (Bh M b (.cells 32 (mO p (k+1)))) a (.cells 33 [AE 0]) b=some (.cells 32 (mO p (k+1))):=by rw[IV (Ne.symm l)];exact H3 _ _ _
  have x:Bh (Bh M b (.cells 32 (mO p (k+1)))) a (.cells 33 [AE 0]) a=some (.cells 33 [AE 0]):=H3 _ _ _;refine AF (J (D1 (k) Z Z (Z) (t) Z underlying94 yZ Z) (J (E1 Z Z (AP u) Z y2 Z) (AB Z Z (AC (AD (AF (ch Z Z ?_)))))));refine DA (aQ (yH I N u j i v l) Z [41] ⟨Z,trivial⟩ Z Z Z Z (λr O ⟨G,E⟩=>by subst G E;exact ⟨Z,Z,Z⟩) Z) Z ?_;rintro _ ⟨r,O,⟨G,E⟩,rfl⟩;subst G E;refine AC (AD (AF ?_));refine J (FE (f:=41) Z Z x Z xm Z) (J (DJ Z Z Z) (AC (Cq Z (kC (by decide)) (AU (AF (J (Ad Z Z (AJ (k+1) (by omega)) Z) (ch Z Z (AC ?_))))))));exact ⟨(k+1,_),⟨by show k+1<=5;omega,C,B,x⟩,by show 5-(k+1)<5-k;omega,AR y [20,2,41] Z (Z) ⟨Z,Z,Z,Z,Z,Z,trivial⟩⟩
 .refine Aq (AD ?_);have A:k=5:=by have:=s;omega
  subst A;refine AF (J (De (f:=41) (n:=5) Z Z i x7 Z Z (λc K=>by have D:c∈md p:=K;unfold md at D;simp only[jt,List.not_mem_nil,or_false] at D;rcases D with rfl | rfl | rfl | rfl | rfl<;>rfl) Z) (V (Bi Z Z Z Z Z Z Z v6) (AB Z Z (AC (A4 ?_)))));exact ⟨_,[],_,A2 Z,Z,Z,Z,Z⟩
theorem WH{C:Nat->Nat->Prop}(b:0<y)(h:∀i j,i<y->j<y->C i j):me y C=[List.range y]:=by
 unfold me
 have o:((List.range y).filter λk=>dec (∀j,j<k->¬C k j))=[0]:=by
  obtain ⟨m,rfl⟩:∃m,y=m+1:=⟨y-1,by omega⟩
  rw[List.range_succ_eq_map,l5,ϱ (Vu λj a=>absurd a (nH j)),List.filter_map]
  have l:(List.range m).filter ((λk=>dec (∀j,j<k->¬C k j))∘Nat.succ)=[]:=List.filter_eq_nil_iff.2 λk f=>by
   have c:=Ω.1 f;show ¬dec (∀j,j<k+1->¬C (k+1) j)=true;rw[G8];exact λg=>g 0 (Nat.succ_pos k) (h _ _ (by omega) (by omega))
  rw[l];rfl
 rw[o,nU,qy.2 λj a=>Vu (h 0 j b (Ω.1 a))]
theorem im(g:List (List Nat)):jf g=k8 (me g.length (Jx g)):=rfl
theorem TF:s∈gf (kL f E) i↔i<E.length/\s<E.length/\Ql f (EA E i) (EA E s):=by grind[kL,kq,D8,gf]
theorem U3{f:Nat->List Nat}{nx:Nat->Nat}(h:∀i,i<y->nx i∈f i){P:Nat->Nat}(w:∀i,i<y->P i<y)(o:∀m,m<y->nx (P m)=P ((m+1) % y))(c:∀i,i<y->∃m,m<y/\P m=i):∀i j,i<y->j<y->Rh f i j:=by
 have step:∀d m,m<y->Rh f (P m) (P ((m+d) % y)):=λd m r=>by
  induction d with
  | zero=>rw[l7,Nat.mod_eq_of_lt r];exact .refl _
  | succ d l=>
   have g:=Nat.mod_lt (m+d) (by omega:y>0);have k:=h _ (w _ g);rw[o _ g,Nat.mod_add_mod] at k;exact .step l k
 intro i j t s;obtain ⟨a,v,rfl⟩:=c i t;obtain ⟨b,u,rfl⟩:=c j s;have:=step (b+y-a) a v
 rwa [show a+(b+y-a)=b+y by omega,Nat.add_mod_right,Nat.mod_eq_of_lt u] at this
def gU:List cl:=[Q3 1 [65] [66] 5,Q3 2 [66] [67] 5,Q3 3 [67] [65] 5,Q3 4 [65] [68] 4]
def kK:hU:=⟨Sj,gU⟩
theorem X7:Ac kK=0:=by decide
theorem xw:CT kK:=⟨by decide,by decide,by decide⟩
theorem w6:j8 kK=Sj:=(eA X7 (List.Perm.refl _) (by decide)).symm
theorem gP:hJ kK=gU:=by decide
theorem ow:fl kK=[1,2,3]:=by
 unfold fl JJ;rw[w6,gP];exact lK (by kernel_rfl)
theorem w7:Bu kK=[]:=by
 unfold Bu;rw[w6,gP];exact lK (by kernel_rfl)
def eK:List (cl×Nat):=[(Q3 1 [65] [66] 5,0),(Q3 2 [66] [67] 5,0),(Q3 3 [67] [65] 5,0)]
theorem w5:JL kK [1,2,3]=eK:=by
 unfold JL;rw[<-show hJ kK=ea kK.it from ϱ X7,gP]
 rfl
theorem w4:kD kK=eK:=by
 unfold kD;rw[<-show hJ kK=ea kK.it from ϱ X7,gP,ow,w7]
 rfl
theorem w2:∀r∈j1 kK,CD r=0:=by decide
theorem tc(b:i<3)(a:s<3)(h:decide (∃r∈j1 kK,BO (EA eK i) r<0/\0<BO (EA eK s) r)=true):Ql (j1 kK) (EA eK i) (EA eK s):=by grind[c9,w2,BO]
theorem sZ{a b:cl}(h:Ql f a b):QS f a b:=by grind[Jd,Ql,QS]
def xJ:Nat->Nat
 | 0=>2
 | 1=>0
 | _=>1
theorem ZN(i:Nat)(a:i<3):xJ i<3/\Ql (j1 kK) (EA eK i) (EA eK (xJ i)):=by
 match i,a with
 | 0,_=>exact ⟨by decide,tc (by decide) (by decide) (by decide)⟩
 | 1,_=>exact ⟨by decide,tc (by decide) (by decide) (by decide)⟩
 | 2,_=>exact ⟨by decide,tc (by decide) (by decide) (by decide)⟩
def oK:Nat->Nat
 | 0=>0
 | 1=>2
 | _=>1
theorem tg:lD (j1 kK) eK=[[1,2,3]]:=by
 have h:∀i j,i<3->j<3->Rh (gf (kL (j1 kK) eK)) i j:=U3 (nx:=xJ) (P:=oK) (λi a=>TF.2 ⟨a,(ZN i a).1,(ZN i a).2⟩) (by decide) (by decide) (by decide);unfold lD;rw[im,Xz,show eK.length=3 from rfl,WH (by decide) λi j a b=>⟨h i j a b,h j i b a⟩]
 decide
theorem te:kW (j1 kK) eK=[[1,2,3]]:=by
 have h:∀i j,i<3->j<3->Rh (tT (j1 kK) eK) i j:=U3 (nx:=xJ) (P:=oK) (λi a=>Er.2 ⟨a,(ZN i a).1,sZ (ZN i a).2⟩) (by decide) (by decide) (by decide);unfold kW;rw[show eK.length=3 from rfl,WH (C:=Cn (j1 kK) eK) (by decide) h]
 decide
theorem gO:gg kK=Sj.map (B9 kK):=(ZI X7 (List.Perm.refl _) (by decide)).symm
theorem gN(i:Int)(h:(hG kK i).af=[]):ka kK i=(Sj.map (B9 kK)).flatMap (CJ i):=by grind[ka,gO,U5,aT]
theorem tf:jx kK [4]=[1,4]:=by
 have a:ka kK 4=[⟨4,1,oN 65⟩]:=by rw[gN 4 (by decide)];exact lK (by kernel_rfl)
 have g:ka kK 1=[]:=by rw[gN 1 (by decide)];exact lK (by kernel_rfl)
 rw[<-Z8 (C:=[4,1]) X7 (by decide) (by decide) λx=>?_]
 .exact (Ot (List.Perm.swap _ _ _) (by decide)).symm
 .constructor
  .intro h;rcases jt.1 h with rfl | h
   .exact .base (by decide)
   .rw[ξ.1 h];exact Wh.step (b:=⟨4,1,oN 65⟩) (i:=4) (.base (by decide)) (by rw[a];exact ξ.2 Z)
  .intro h
   induction h with
   | base h=>rw[ξ.1 h];decide
   | step _ f c=>
    grind
theorem xv:kB kK 4=[⟨oN 65,9⟩]:=by
 unfold kB Ju;rw[tf,gO];exact lK (by kernel_rfl)
theorem th:km kK=[(4,⟨oN 65,9⟩)]:=by
 unfold km;rw[<-show hJ kK=ea kK.it from ϱ X7,gP];have b:∀id∈([1,2,3]:List Int),kX kK id=none:=λid h=>Lx (by rw[ow];exact h)
 have a:kX kK 4=some (4,⟨oN 65,9⟩):=by
  unfold kX;rw[ow,xv,ν (by decide)];rfl
 show ([1,2,3,4]:List Int).filterMap (kX kK)=_
 simp_all
theorem td:md kK=[Gl [1,2,3],Gl [],Wd [[1,2,3]],Wd [[1,2,3]],.sl none (([(4,⟨oN 65,9⟩)]:List (Int×ey)).map cL)]:=by
 unfold md;rw[ow,w7,w5,w4,te,tg,th]
theorem VX(l m:List Int)(u:l.length<=100000)(t:m.length<=100000):AI prog 17 [.d (.sl none (l.map AE)),.d (.sl none (m.map AE))] (Am (decide (l=m))):=by
 refine As func17 Z Z ntmps17 Z Z Z λF r=>(AD (AF (AB Z Z (AC (AD ?_)))));refine AD (AF (ch Z Z (J (BU Z E0 Z) (ch Z Z (J (BU Z E0 Z) (J (DJ Z Z Z) (AC (A5 Z (λc=>?_) (λc=>?_)))))))))
 .refine AD (AF (AB Z Z (AC (A4 ?_))));exact ⟨_,[],[],A2 Z,Z,Z,Hh (λh=>by have i:=jq List.length h;have h:=c;omega),Z⟩
 .refine AU (AD (AD ?_));have j:l.length=m.length:=by have h:=c;omega
  refine AF (AB Z Z (AC (AX (BC (α:=Nat) (λk=>⟨26,[(0,.d (.sl none (l.map AE))),(1,.d (.sl none (m.map AE))),(5,(.d (AE (k:Int))))],[]⟩) (λk=>k<=l.length/\l.take k=m.take k) (λk=>l.length-k) (0) (⟨κ _,by simp⟩) (AR r [] Z Z ⟨Z,Z,Z,trivial⟩) ?_))));rintro k ⟨s,o⟩;refine AD (AD (AF (ch Z Z (ch Z Z (J (BU Z E0 Z) (J (At Z Z Z) (AC (A5 Z (λa=>?_) (λa=>?_)))))))))
  .have g:k<l.length:=BF a;refine AU (AD (AX (AD ?_)));have f:k<m.length:=by omega
   refine Bq [[],[],[0,1],[0,1,2],[],[],[4,5],[4,5,6],rg 8] mixed Z (B2 (A7 0 Z Z (A7 5 Z Z (AK [17,18] Z (Al (k) Z Z (Z) (AP g) E0 Z BK Z) ?_))));refine AK [19] Z (BZ Z Z Ai Z) (A7 1 Z Z (A7 5 Z Z (AK [21,22] Z (Al (k) Z Z (Z) (AP f) E0 Z BK Z) (AK [23] Z (BZ Z Z Ai Z) (BV 8 Z Z Z (A0 9 Z Z (J (DJ Z Z Z) (AC ⟨Z,?_⟩))))))));refine Bb (A5 Z (λb=>?_) (λb=>?_))
   .refine AD (AF (AB Z Z (AC (A4 ?_))));exact ⟨_,[],[],A2 Z,Z,Z,Hh (λh=>by subst h;exact b Z),Z⟩
   .refine AU (AF (ch Z Z (J (Ad Z Z (AJ (k+1) (by omega)) Z) (AB Z Z (AC ?_)))));exact ⟨k+1,⟨by show k+1<=_;omega,by rw[ψ g,ψ f,o,nB.1 b]⟩,by show l.length-(k+1)<l.length-k;omega,AR r [] Z (Z) ⟨Z,Z,Z,trivial⟩⟩
  .refine Aq (AD (AF (AB Z Z (AC (A4 ?_)))));exact ⟨_,[],[],A2 Z,Z,Z,Sk (by have i:=o;rw[θ (by have h:=a;omega),θ (by have h:=a;omega)] at i;exact i),Z⟩
theorem Mm(l m:List (List Int))(w:l.length<=100000)(v:m.length<=100000)(j:∀x∈l,x.length<=100000)(i:∀x∈m,x.length<=100000):AI prog 18 [.d (Wd l),.d (Wd m)] (Am (decide (l=m))):=by
 refine As func18 Z Z ntmps18 Z Z Z λF t=>(AD (AF (AB Z Z (AC (AD ?_)))));refine AD (AF (ch Z Z (J (BU Z R4 Z) (ch Z Z (J (BU Z R4 Z) (J (DJ Z Z Z) (AC (A5 Z (λg=>?_) (λg=>?_)))))))))
 .refine AD (AF (AB Z Z (AC (A4 ?_))));exact ⟨_,[],[],A2 Z,Z,Z,Hh (λh=>by have o:=jq List.length h;have h:=g;omega),Z⟩
 .refine AU (AD (AD ?_));have r:l.length=m.length:=by have h:=g;omega
  refine AF (AB Z Z (AC (AX (BC (α:=Nat) (λk=>⟨27,[(0,.d (Wd l)),(1,.d (Wd m)),(5,(.d (AE (k:Int))))],[]⟩) (λk=>k<=l.length/\l.take k=m.take k) (λk=>l.length-k) (0) (⟨κ _,by simp⟩) (AR t [] Z Z ⟨Z,Z,Z,trivial⟩) ?_))));rintro k ⟨u,s⟩;refine AD (AD (AF (ch Z Z (ch Z Z (J (BU Z R4 Z) (J (At Z Z Z) (AC (A5 Z (λa=>?_) (λa=>?_)))))))))
  .have c:k<l.length:=BF a;refine AU (AD (AX (AD ?_)));have b:k<m.length:=by omega
   refine Bq [[],[],[0,1],[0,1,2],[],[],[4,5],[4,5,6],rg 8,rg 9] mixed Z (B2 (A7 0 Z Z (A7 5 Z Z (AK [17,18] Z (Al (k) Z Z (Z) (AP c) R4 Z DQ Z) ?_))));refine AK [19] Z (BZ Z Z BL Z) (A7 1 Z Z (A7 5 Z Z (AK [21,22] Z (Al (k) Z Z (Z) (AP b) R4 Z DQ Z) (AK [23] Z (BZ Z Z BL Z) (BV 8 Z Z Z (A0 9 Z Z (J (Aj (VX l[k] m[k] (j _ (ϑ c)) (i _ (ϑ b))) Z Z) (AC ⟨Z,?_⟩))))))));refine A0 10 Z Z (J (Jq Z Z) (AC ⟨Z,?_⟩));refine Bb (A5 Z (λf=>?_) (λf=>?_))
   .refine AD (AF (AB Z Z (AC (A4 ?_))));exact ⟨_,[],[],A2 Z,Z,Z,Hh (λh=>by subst h;exact f Z),Z⟩
   .refine AU (AF (ch Z Z (J (Ad Z Z (AJ (k+1) (by omega)) Z) (AB Z Z (AC ?_)))));exact ⟨k+1,⟨by show k+1<=_;omega,by rw[ψ c,ψ b,s,nB.1 f]⟩,by show l.length-(k+1)<l.length-k;omega,AR t [] Z (Z) ⟨Z,Z,Z,trivial⟩⟩
  .refine Aq (AD (AF (AB Z Z (AC (A4 ?_)))));exact ⟨_,[],[],A2 Z,Z,Z,Sk (by have o:=s;rw[θ (by have h:=a;omega),θ (by have h:=a;omega)] at o;exact o),Z⟩
theorem nw(l:List (Int×ey))(g:l.length<=100000):AI prog 21 [.d (.sl none (l.map cL)),.d (.sl none (l.map cL))] (Am true):=by
 refine As func21 Z Z ntmps21 Z Z Z λF c=>(AD (AF (AB Z Z (AC ?_))));refine AD (AD (AF (ch Z Z (J (BU Z cG Z) (ch Z Z (J (BU Z underlying48 Z) (J (DJ Z Z Z) (AC ?_))))))));refine Cq Z ((by simp)) (AU (AD (AD (AF (AB Z Z (AC (AX (BC (α:=Nat) (λk=>⟨55,[(0,.d (.sl none (l.map cL))),(1,.d (.sl none (l.map cL))),(5,(.d (AE (k:Int))))],[]⟩) (λk=>k<=l.length) (λk=>l.length-k) (0) (κ _) (AR c [] Z Z ⟨Z,Z,Z,trivial⟩) ?_))))))));rintro k f;refine AD (AD (AF (ch Z Z (ch Z Z (J (BU Z cG Z) (J (At Z Z Z) (AC (A5 Z (λb=>?_) (λb=>?_)))))))))
 .have a:k<l.length:=BF b;refine AU (AD ?_);refine AX (AD (Bq [[],[],[0,1],[0,1,2],[0,1,2,3],[],[],[5,6],[5,6,7],[5,6,7,8],rg 10,rg 11,rg 12,rg 12,rg 14,rg 15,rg 16,rg 17,rg 12,rg 12,[0,1,2,3,4,5,6,7,8,9,10,11,18,19],[0,1,2,3,4,5,6,7,8,9,10,11,18,19,20],[0,1,2,3,4,5,6,7,8,9,10,11,18,19,20,21],rg 23,rg 24,rg 25,rg 26,rg 26,rg 28,rg 29,rg 30,rg 26,rg 26,[0,1,2,3,4,5,6,7,8,9,10,11,12,13,14,15,16,17,18,19,20,21,22,23,24,25,31,32],[0,1,2,3,4,5,6,7,8,9,10,11,12,13,14,15,16,17,18,19,20,21,22,23,24,25,31,32,33],[0,1,2,3,4,5,6,7,8,9,10,11,12,13,14,15,16,17,18,19,20,21,22,23,24,25,31,32,33,34],rg 36,rg 37] mixed Z (B2 (A7 0 Z Z (A7 5 Z Z (AK [17,18] Z (Al (k) Z Z (Z) (AP a) cG Z cy Z) (AK [19] Z (Gw Z gy Z Z Z) (AK [20] Z (BZ Z Z Ai Z) ?_))))))));refine A7 1 Z Z (A7 5 Z Z (AK [22,23] Z (Al (k) Z Z (Z) (AP a) underlying48 Z dD Z) (AK [24] Z (Gw Z pX Z Z Z) (AK [25] Z (BZ Z Z Ai Z) (BV 10 Z Z Z (A0 11 Z Z (J (DJ Z Z Z) (AC ⟨Z,?_⟩))))))));refine A0 12 Z Z (ch Z Z (Ir 28 Z (by simp) (AC ⟨Z,?_⟩)));refine B2 (A1 [0,28] [] Z Z (λ_=>BR Z Z Z (FW Z Z)) (A1 [5,28] [] Z Z (λ_=>BR Z Z Z (FW Z Z)) (A1 [29,30,28] [] Z Z (λ_=>BR Z Z Z (Al (k) Z Z (Z) (AP a) cG Z cy Z)) (A1 [31,28] [] Z Z (λ_=>BR Z Z Z (KL Z uL Z Z Z)) (A1 [32,28] [] Z Z (λ_=>BR Z Z Z (CY Z Z Cw Z)) (A1 [33,28] [] Z Z (λ_=>BR Z Z Z (Aj (bx l[k].2.r) Z Z)) (A1 [1,28] [] Z Z (λ_=>BR Z Z Z (FW Z Z)) ?_)))))));refine A1 [5,28] [] Z Z (λ_=>BR Z Z Z (FW Z Z)) (A1 [35,36,28] [] Z Z (λ_=>BR Z Z Z (Al (k) Z Z (Z) (AP a) underlying48 Z dD Z)) (A1 [37,28] [] Z Z (λ_=>BR Z Z Z (KL Z pW Z Z Z)) (A1 [38,28] [] Z Z (λ_=>BR Z Z Z (CY Z Z Cf Z)) (BV 23 Z Z Z (A0 24 Z Z (AT Z Z Z (J (dQ (la:=LA l[k].2.r) (lb:=LA l[k].2.r) (ds:=a8) (by kernel_rfl) (by kernel_rfl) (by kernel_rfl) Z Z Z Z (qi _) (qi _) (y4 (Kz _ _)) Z) (AC ⟨Z,?_⟩))))))));refine A0 25 Z Z (J (Bx Z Z Z Z) (AC ⟨Z,?_⟩));refine A0 26 Z Z (ch Z Z (Ir 42 Z (by simp) (AC ⟨Z,?_⟩)));refine B2 (A1 [0,42] [] Z Z (λ_=>BR Z Z Z (FW Z Z)) (A1 [5,42] [] Z Z (λ_=>BR Z Z Z (FW Z Z)) (A1 [43,44,42] [] Z Z (λ_=>BR Z Z Z (Al (k) Z Z (Z) (AP a) cG Z cy Z)) (A1 [45,42] [] Z Z (λ_=>BR Z Z Z (Gw Z gx Z Z Z)) (A1 [46,42] [] Z Z (λ_=>BR Z Z Z (BZ Z Z FJ Z)) (A1 [1,42] [] Z Z (λ_=>BR Z Z Z (FW Z Z)) ?_))))));refine A1 [5,42] [] Z Z (λ_=>BR Z Z Z (FW Z Z)) (A1 [48,49,42] [] Z Z (λ_=>BR Z Z Z (Al (k) Z Z (Z) (AP a) underlying48 Z dD Z)) (A1 [50,42] [] Z Z (λ_=>BR Z Z Z (Gw Z pU Z Z Z)) (A1 [51,42] [] Z Z (λ_=>BR Z Z Z (BZ Z Z FJ Z)) (BV 36 Z Z Z (A0 37 Z Z (AT Z Z Z (J (DJ Z Z Z) (AC ⟨Z,?_⟩))))))));refine A0 38 Z Z (J (Bx Z Z Z Z) (AC ⟨Z,?_⟩));refine Bb (Cq Z (by simp) (AU (AF (ch Z Z (J (Ad Z Z (AJ (k+1) (by omega)) Z) (AB Z Z (AC ?_)))))));exact ⟨k+1,(by show k+1<=_;omega),by show l.length-(k+1)<l.length-k;omega,AR c [] Z (Z) ⟨Z,Z,Z,trivial⟩⟩
 .refine Aq (AD (AF (AB Z Z (AC (A4 ?_)))));exact ⟨_,[],[],A2 Z,Z,Z,Z,Z⟩
theorem ez(id n:Int)(a b:List UInt8)(g:0<=n)(f:n<=1000000000000000):AI prog 40 [.d (AE id),.d (Ak a),.d (Ak b),.d (AE n)] (.agg [AE id,AE 0,AE id,.sl none ((Q3 id a b n).po.map Bd),.sl (some true) [],.sl (some true) []]):=by
 refine As func40 Z Z ntmps40 Z Z Z λF c=>(AD (AF (V (CP 1 Fm Z Z Z Z) (AC (AD ?_)))));refine AF (ch Z Z (ch Z Z (ch Z Z (J (Dz cU et Z Z Z) (ch Z Z (J (Wv Z (Ξ _ (by omega)) Z) (J (Dz Qo eu Z Z Z) (ch Z Z ?_))))))));refine J (Dz cU et Z Z Z) (ch Z Z (J (Dz Qo eu Z Z Z) (V (CF 4 aV Z Z Z Z Z Z Z Z) (W3 (emb:=Bd) 20 4 (Q3 id a b n).po Z Z Z Z Z Z Z (J (Dz Fm tE Z Z Z) (V (Bi Z Z Z Z Z Z Z DP) (AC (A4 ?_))))))));exact ⟨_,[],[],A2 Z,Z,Z,Z,Z⟩
theorem OO(id n:Int)(a b:List UInt8)(l:0<=n)(k:n<=1000000000000000):AI prog 40 [.d (AE id),.d (Ak a),.d (Ak b),.d (AE n)] (Ah (Q3 id a b n)):=
 (ez id n a b l k).weak λw O v h=>h.aggMono Z (by simp[D.one]) λi c o g f v j=>by
  match i,g,f with
  | 0,g,f=>injection g with g;injection f with f;subst g f;exact j
  | 1,g,f=>injection g with g;injection f with f;subst g f;exact j
  | 2,g,f=>injection g with g;injection f with f;subst g f;exact j
  | 3,g,f=>injection g with g;injection f with f;subst g f;exact j
  | 4,g,f=>injection g with g;injection f with f;subst g f;exact j.anyNil
  | 5,g,f=>injection g with g;injection f with f;subst g f;exact j.anyNil
theorem bR:AI prog 10 [] (.raw (.bool true)):=by
 have j:=Xw kK xw X7;rw[td] at j;refine As func10 Z Z ntmps10 Z Z Z λF s=>(AD ?_);refine AF (AB Z Z (AC (AD (AF (V (CP 1 sW Z Z Z Z) (AC (AD (AD ?_))))))));refine AF (V (CF 2 x4 Z Z Z Z Z Z Z Z) (W3 (emb:=Ak) 7 2 wT Z Z Z Z Z Z Z (J (BU Z underlying86 Z) (ch Z Z (AC (AX (D0 1 0 0 901 Se Z Z Z Z Z Z Z (BC (α:=Nat×List ey) (λq=>⟨86,[(1,(.ptr 1 0 0)),(7,(.d (.sl none (wT.map Ak)))),(8,(.d (AE 3))),(9,(.d (AE (q.1:Int))))],[(901,[.rowD 88 7 (q.2.map BY)]),(1,[.blk 39 [.own 901 0 q.2.length,.d Nw]])]⟩) (λq=>q.1<=3/\q.2=Sj.take q.1) (λq=>3-q.1) ((0,[])) (⟨by decide,Z⟩) (AR s [901,1] Z Z ⟨Z,Z,Z,Z,trivial⟩) ?_))))))));rintro ⟨k,l⟩ ⟨r,a⟩;dsimp only at r a⊢;refine AD (AF (J (At Z Z Z) (AC (AD (A5 Z (λc=>?_) (λc=>?_))))))
 .have i:k<wT.length:=by have h:=BF (b:=3) c;exact h
  refine AU (AD (AX (AD ?_)));have g:l++ [⟨⟨0,WZ wT[k],[],[]⟩,0⟩]=Sj.take (k+1):=by subst a;match k,i with | 0,_=>rfl | 1,_=>rfl | 2,_=>rfl
  have t:l.length<=3:=by rw[a];simp[Sj];omega
  refine AF (J (Al (k) Z Z (Z) (AP i) underlying86 Z yY Z) (J (BZ Z Z CZ Z) ?_));refine AB Z Z (AC (AF (J (AM Z Gp Z Z Z) (J (AQ Z Z Z Uo Z) (ch Z Z (J (Dz cU et Z Z Z) (J (Dz MK Uf Z Z Z) (J (Dz Tx tD Z Z Z) ?_))))))));refine V (CF 50 Se Z Z Z Z Z Z Z Z) (V (DN (l) ([⟨⟨0,WZ wT[k],[],[]⟩,0⟩]) Z Z Z Z Z Z Z Z Se (by simp only[ζ];omega) Z Z Z Z) (J (AM Z Gp Z Z Z) (V (Bi Z Z Z Z Z Z Z v5) (AC (AF (J (Ad Z Z (AJ (k+1) (by omega)) Z) (ch Z Z (AC ?_))))))));exact ⟨(k+1,_),⟨by show k+1<=3;omega,g⟩,by show 3-(k+1)<3-k;omega,AR s [901,1] Z (Z) ⟨Z,Z,Z,Z,trivial⟩⟩
 .refine Aq (AD ?_);have o:k=3:=by have h:=c;omega
  subst o;have f:l=Sj:=a;subst f;refine qe (ys:=Sj.map BY) 1 0 0 901 Z Z Z (by decide) Z Z Z Z Z Z Z (AF (J (Aj (OO 1 5 [65] [66] (by decide) (by decide)) Z Z) (J (Aj (OO 2 5 [66] [67] (by decide) (by decide)) Z Z) (J (Aj (OO 3 5 [67] [65] (by decide) (by decide)) Z Z) (J (Aj (OO 4 4 [65] [68] (by decide) (by decide)) Z Z) (V (CF 52 Q1 Z Z Z Z Z Z Z Z) (W3 (emb:=Ah) 27 52 gU Z Z Z Z Z Z Z ?_)))))));refine J (AM Z FN Z Z Z) (V (Bi Z Z Z Z Z Z Z sg) (AC (AD (AF (J (Ap Z Z Bp Z Z Z) (J (Aj (j) Z Z) (ch Z Z (J (Cc Z Z Z) ?_))))))));refine J (Cc Z Z Z) (V (CP 4 sX Z Z Z Z) (V (Bi Z Z Z Z Z Z Z v6) (AB Z Z (AC (AD (AF (V (CF 54 Ao Z Z Z Z Z Z Z Z) (W3 (emb:=AE) 34 54 [1,2,3] Z Z Z Z Z Z Z ?_))))))));refine V (CF 55 Ih Z Z Z Z Z Z Z Z) (W3 (emb:=Gl) 35 55 [[1,2,3]] Z Z Z Z Z Z Z (AB Z Z (AC (AD (Bq [[],[0],[0,1],[0,1,2],[0,1,2,3],[0,1,2],[0,1,2,5],[0,1,2,5,6],rg 8,rg 9,rg 10,rg 11,rg 12,rg 13,rg 14,rg 15,rg 16,rg 17,rg 18,rg 17,rg 20,rg 21,rg 22,rg 23,rg 24,rg 23,rg 26,rg 27,rg 28,rg 29,rg 30,rg 31,rg 32,rg 33,rg 34,rg 35,rg 36,rg 37,rg 38,rg 39,rg 40,rg 41,rg 42,rg 43,rg 44,rg 45,rg 46,rg 47,rg 48,rg 49,rg 50] mixed Z (A0 1 Z Z (ch Z Z (AC ⟨Z,?_⟩))))))));refine A0 2 Z Z (J (Fa Z Z Z) (AC ⟨Z,?_⟩));refine A0 3 Z Z (ch Z Z (Co 38 Z (Z) (AC ⟨Z,?_⟩)));refine B2 (A1 [4,38] [] Z Z (λ_=>BR Z Z Z (AM Z mR Z Z Z)) ?_);refine Ay [39,38] Z Z (λ_=>BR Z Z Z (AQ Z Z Z BL Z)) (A1 [6,38] [] Z Z (λ_=>BR Z Z Z (FW Z Z)) (A1 [41,38] [] Z Z (λ_=>BR Z Z Z (Al (0) Z Z (Z) (Z) R4 Z DQ Z)) (A1 [42,38] [] Z Z (λ_=>BR Z Z Z (BZ Z Z BL Z)) (BV 8 Z Z Z (A0 9 Z Z (AT Z Z Z (J (Aj (VX [1,2,3] [1,2,3] (by decide) (by decide)) Z Z) (AC ⟨Z,?_⟩))))))));refine A0 10 Z Z (J (B8 Z Z Z Z) (AC ⟨Z,?_⟩));refine A0 11 Z Z (ch Z Z (Co 46 Z (Z) (AC ⟨Z,?_⟩)));refine A0 12 Z Z (AT Z Z Z (J (AM Z nF Z Z Z) (AC ⟨Z,?_⟩)));refine A0 13 Z Z (AT Z Z Z (J (AQ Z Z Z BL Z) (AC ⟨Z,?_⟩)));refine A0 14 Z Z (AT Z Z Z (J (BU Z E0 Z) (AC ⟨Z,?_⟩)));refine A0 15 Z Z (AT Z Z Z (J (Fa Z Z Z) (AC ⟨Z,?_⟩)));refine A0 16 Z Z (J (B8 Z Z Z Z) (AC ⟨Z,?_⟩));refine A0 17 Z Z (ch Z Z (Co 52 Z (Z) (AC ⟨Z,?_⟩)));refine B2 (A1 [4,52] [] Z Z (λ_=>BR Z Z Z (AM Z gz Z Z Z)) (Ay [53,52] Z Z (λ_=>BR Z Z Z (AQ Z Z Z wL Z)) (A1 [6,52] [] Z Z (λ_=>BR Z Z Z (FW Z Z)) (BV 20 Z Z Z (A0 21 Z Z (AT Z Z Z (J (Aj (Mm [[1,2,3]] [[1,2,3]] (by decide) (by decide) (by decide) (by decide)) Z Z) (AC ⟨Z,?_⟩))))))));refine A0 22 Z Z (J (B8 Z Z Z Z) (AC ⟨Z,?_⟩));refine A0 23 Z Z (ch Z Z (Co 58 Z (Z) (AC ⟨Z,?_⟩)));refine B2 (A1 [4,58] [] Z Z (λ_=>BR Z Z Z (AM Z nE Z Z Z)) (Ay [59,58] Z Z (λ_=>BR Z Z Z (AQ Z Z Z wL Z)) (A1 [6,58] [] Z Z (λ_=>BR Z Z Z (FW Z Z)) (BV 26 Z Z Z (A0 27 Z Z (AT Z Z Z (J (Aj (Mm [[1,2,3]] [[1,2,3]] (by decide) (by decide) (by decide) (by decide)) Z Z) (AC ⟨Z,?_⟩))))))));refine A0 28 Z Z (J (B8 Z Z Z Z) (AC ⟨Z,?_⟩));refine A0 29 Z Z (ch Z Z (Co 64 Z (Z) (AC ⟨Z,?_⟩)));refine A0 30 Z Z (AT Z Z Z (J (AM Z lm Z Z Z) (AC ⟨Z,?_⟩)));refine A0 31 Z Z (AT Z Z Z (J (AQ Z Z Z tI Z) (AC ⟨Z,?_⟩)));refine A0 32 Z Z (AT Z Z Z (J (BU Z cG Z) (AC ⟨Z,?_⟩)));refine A0 33 Z Z (AT Z Z Z (J (Fa Z Z Z) (AC ⟨Z,?_⟩)));refine A0 34 Z Z (J (B8 Z Z Z Z) (AC ⟨Z,?_⟩));refine A0 35 Z Z (ch Z Z (Co 70 Z (Z) (AC ⟨Z,?_⟩)));refine A0 36 Z Z (AT Z Z Z (J (AM Z lm Z Z Z) (AC ⟨Z,?_⟩)));refine A0 37 Z Z (AT Z Z Z (J (AQ Z Z Z tI Z) (AC ⟨Z,?_⟩)));refine A0 38 Z Z (AT Z Z Z (J (Al (0) Z Z (Z) (Z) cG Z cy Z) (AC ⟨Z,?_⟩)));refine A0 39 Z Z (AT Z Z Z (J (Gw Z gy Z Z Z) (AC ⟨Z,?_⟩)));refine A0 40 Z Z (AT Z Z Z (J (BZ Z Z Ai Z) (AC ⟨Z,?_⟩)));refine A0 41 Z Z (AT Z Z Z (J (Fa Z Z Z) (AC ⟨Z,?_⟩)));refine A0 42 Z Z (J (B8 Z Z Z Z) (AC ⟨Z,?_⟩));refine A0 43 Z Z (ch Z Z (Co 78 Z (Z) (AC ⟨Z,?_⟩)));refine A0 44 Z Z (AT Z Z Z (J (AM Z lm Z Z Z) (AC ⟨Z,?_⟩)));refine A0 45 Z Z (AT Z Z Z (J (AQ Z Z Z tI Z) (AC ⟨Z,?_⟩)));refine A0 46 Z Z (AT Z Z Z (J (Al (0) Z Z (Z) (Z) cG Z cy Z) (AC ⟨Z,?_⟩)));refine A0 47 Z Z (AT Z Z Z (J (Gw Z gx Z Z Z) (AC ⟨Z,?_⟩)));refine A0 48 Z Z (AT Z Z Z (J (BZ Z Z FJ Z) (AC ⟨Z,?_⟩)));refine A0 49 Z Z (AT Z Z Z (J (Fa Z Z Z) (AC ⟨Z,?_⟩)));refine A0 50 Z Z (J (B8 Z Z Z Z) (AC ⟨Z,?_⟩));refine A0 51 Z Z (AB Z Z (AC ⟨Z,?_⟩));refine Bb (A4 ?_);exact ⟨_,[],[],A2 Z,Z,Z,Z,Z⟩
end Go.Proofs.YteifpcnphnhaoaaGreat
namespace Go.Proofs.YteifpcnphnhaoaaGreat
open Go.RowKit
variable{R:Int->Int->Prop}{s:mq}{a:hU}{c:List (List Int)}{f:List ey}{S:List Int}{x:Nat}{g:List Int}{k:Nat}{Y:List ey}{h i:List Int}{j:Nat}{y o:Int}
theorem iv(p:hU):jc p (C9 [])=[]:=by grind[jc,List.flatMap_eq_nil_iff,FP,C9]
theorem cb(c:Ac a=0):Ju a (Av [])=[]:=by
 unfold Ju;rw[List.flatMap_eq_nil_iff];intro x b;have h:=gC c x b;unfold KO;rw[ν (by show ¬x.n+DO a x.r []<0;have:DO a x.r []=0:=rfl;omega)]
theorem Od{M:List (Int×Bool)}:Ju a M=[]↔∀x∈gg a,0<=x.n+DO a x.r M:=by grind[Ju,List.flatMap_eq_nil_iff,KO]
theorem Wh.mono{T:List Int}(h:∀o∈S,o∈T)(b:Wh a S o):Wh a T o:=by
 induction b with
 | base b=>exact .base (h _ b)
 | step _ f c=>exact .step c f
theorem VE(b:Ac a=0)(c:∀o∈S,o∈a.it.map cl.id):o∈jx a S↔Wh a S o:=by
 unfold jx;rw[(jR _).mem_iff,Φ];exact ⟨λh=>by simpa using h.2,λh=>⟨h.ids b c,by simpa using h⟩⟩
theorem ug{C:List Int}(h:∀i∈C,∀b∈ka a i,b.m∈C):jc a (C9 C)=[]:=by
 cases hb:jc a (C9 C) with
 | nil=>rfl
 | cons b r=>
  grind[QH,C9,k7]
theorem ii(c:Ac a=0)(f:∀x∈S,x∈a.it.map cl.id):jc a (C9 (jx a S))=[]:=
 ug λi g b h=>(VE c f).2 (.step ((VE c f).1 g) h)
structure qv (R:Int->Int->Prop) (l Y:List ey):Prop where
 len:Y.length=l.length
 at_:∀(j:Nat) x y,l[j]? =some x->Y[j]? =some y->y.r=x.r/\ -4*Mx<=y.n/\y.n<=4*Mx/\R x.n y.n
theorem qv.start(h:∀o∈f,-4*Mx<=o.n/\o.n<=4*Mx/\R o.n o.n):qv R f f:=
 ⟨Z,λj x y b a=>by
  rw[b] at a;injection a with a;subst a
  have:=h x (ϖ b)
  exact ⟨Z,this⟩⟩
theorem qv.set(h:qv R f Y)(c:k<Y.length){n:Int}(g: -4*Mx<=n/\n<=4*Mx)(i:∀x,R x Y[k].n->R x n):qv R f (Y.set k ⟨Y[k].r,n⟩):=
 ⟨by rw[kn];exact h.len,λj x y b a=>by
  rw[nC] at a
  split at a
  .rename_i e;subst e
   first | (rw[ϱ c] at a;injection a with a;subst a) | (injection a with a;subst a)
   have:=h.at_ k x _ b (ω c);exact ⟨this.1,g.1,g.2,i _ this.2.2.2⟩
  .exact h.at_ j x y b a⟩
theorem qv.map(h:qv R f Y):Y.map ey.r=f.map ey.r:=by
 refine lg (by rw[χ,χ,h.len]) λj b a=>?_;rw[χ] at b a;rw[kT,kT];exact (h.at_ j _ _ (ω a) (ω b)).1
theorem qv.mem(h:qv R f Y):∀y∈Y,∃x∈f,y.r=x.r/\ -4*Mx<=y.n/\y.n<=4*Mx/\R x.n y.n:=λy c=>by
 obtain ⟨j,b,rfl⟩:=mK.1 c;have a:j<f.length:=by rw[<-h.len];exact b
 exact ⟨f[j],ϑ a,h.at_ j _ _ (ω a) (ω b)⟩
def o6(x:Nat)(P:List Nat):Nat:=P.foldl (λa i=>a ||| 1<<<i) x
theorem qS(i j:Nat):(1<<<i).testBit j=decide (i=j):=by rw[Nat.one_shiftLeft,Nat.testBit_two_pow]
theorem OP:∀(P:List Nat) (x j:Nat),(o6 x P).testBit j=true↔x.testBit j=true\/j∈P
 | [],x,j=>by simp[o6]
 | i::P,x,j=>by
  show (o6 (x ||| 1<<<i) P).testBit j=true↔_;rw[OP P,Nat.testBit_or,qS,Bool.or_eq_true,l6,jt]
  constructor
  .rintro ((h | h) | h)
   .exact .inl h
   .exact .inr (.inl h.symm)
   .exact .inr (.inr h)
  .rintro (h | h | h)
   .exact .inl (.inl h)
   .exact .inl (.inr h.symm)
   .exact .inr h
theorem bG:y∈jv s x↔∃i,i<s.ids.length/\x.testBit i=true/\s.ids.getD i 0=y:=by grind[jv]
theorem Sv(b:s.ids.Nodup)(a:y∈s.ids):y∈jv s x↔x.testBit (s.ids.idxOf y)=true:=by grind[bG]
def Ho:List Int->List Int->Bool
 | a::l,b::m=>if a=b then Ho l m else decide (a<b)
 | _,_=>false
def DB(a b:List Int):Bool:=if a.length≠b.length then decide (a.length<b.length) else Ho a b
theorem P6:∀a b:List Int,Ho a b=true->Ho b a=false
 | a::l,b::m,h=>by
  unfold Ho at h⊢
  split at h
  .rename_i e;subst e;rw[ϱ rfl];exact P6 l m h
  .rename_i e
   rw[ν (λh=>e h.symm)];have:=lK h;exact kC (by omega)
 | [],_,h=>by cases h
 | _::_,[],h=>by cases h
theorem P4:∀a b c:List Int,Ho a b=true->Ho b c=true->Ho a c=true
 | a::l,b::m,c::r,g,f=>by
  unfold Ho at g f⊢
  split at g
  .rename_i e;subst e
   split at f
   .rename_i e;rw[ϱ e];exact P4 l m r g f
   .rename_i e;rw[ν e];exact f
  .rename_i e
   have k:=lK g
   split at f
   .rename_i i;subst i
    rw[ν e];exact g
   .have j:=lK f;rw[ν (by omega)];exact Υ (by omega)
 | [],_,_,h,_=>by cases h
 | _::_,[],_,h,_=>by cases h
 | _::_,_::_,[],_,h=>by cases h
theorem P5:∀a b:List Int,a.length=b.length->a≠b->Ho a b=false->Ho b a=true
 | a::l,b::m,c,f,h=>by
  unfold Ho at h⊢
  split at h
  .rename_i e;subst e
   rw[ϱ rfl];exact P5 l m (by simpa using c) (λh=>f (by rw[h])) h
  .rename_i e
   have:=of_decide_eq_false h;rw[ν (λh=>e h.symm)];exact Υ (by omega)
 | [],[],_,f,_=>absurd Z f
 | [],_::_,c,_,_=>by simp at c
 | _::_,[],c,_,_=>by simp at c
theorem VK(c:DB h i=true):¬DB i h=true:=by grind[DB,P6]
theorem VI{c:List Int}(g:DB h i=true)(f:DB i c=true):DB h c=true:=by grind[DB,P4]
theorem VJ(f:h≠i)(c:¬DB h i=true):DB i h=true:=by grind[DB,P5]
theorem XO{c:Type}{R:c->c->Prop}(g:∀a b,R a b->¬R b a){l m:List c}(k:l.Pairwise R)(j:m.Pairwise R)(h:∀x,x∈l↔x∈m):l=m:=by
 have i:∀{l:List c},l.Pairwise R->l.Nodup:=λh=>h.imp λ{a b} f e=>by subst e;exact g _ _ f f
 grind[List.Perm.eq_of_pairwise,qx]
def IZ(n:Nat):Nat->Nat->List (List Nat)
 | 0,_=> [[]]
 | l+1,frm=>((List.range (n+1-(l+1)-frm)).map (frm+ ·)).flatMap λi=>(IZ n l (i+1)).map (i:: ·)
theorem HV(n:Nat):∀(l a x:Nat),lP n l a x=(IZ n l a).map (o6 x)
 | 0,_,_=>rfl
 | l+1,a,x=>by
  unfold lP IZ;rw[List.map_flatMap]
  congr 1
  funext i
  rw[HV n l (i+1),jw]
  rfl
theorem Ud{n:Nat}:∀{l a:Nat} {P:List Nat},P∈IZ n l a->P.length=l
 | 0,_,P,h=>by simp[IZ] at h;subst h;rfl
 | l+1,a,P,h=>by
  unfold IZ at h;obtain ⟨i,_,h⟩:=mI.1 h;obtain ⟨Q,b,rfl⟩:=Γ.1 h;rw[mH,Ud b]
theorem OM{n:Nat}:∀{l a:Nat} {P:List Nat},P∈IZ n l a->P.Pairwise (· < ·)/\∀j∈P,a<=j/\j<n
 | 0,_,P,h=>by simp[IZ] at h;subst h;simp
 | l+1,a,P,h=>by
  unfold IZ at h;obtain ⟨i,o,h⟩:=mI.1 h;obtain ⟨k,g,rfl⟩:=Γ.1 o;have f:=Ω.1 g;obtain ⟨Q,r,rfl⟩:=Γ.1 h;obtain ⟨s,c⟩:=OM r;refine ⟨lx.2 ⟨λj b=>by have:=(c j b).1;omega,s⟩,λj b=>?_⟩;rcases jt.1 b with rfl | b
  .exact ⟨by omega,by omega⟩
  .have:=c j b;omega
theorem TD{n:Nat}:∀{P:List Nat} {frm:Nat},frm<=n->P.Pairwise (· < ·)->(∀j∈P,frm<=j/\j<n)->P.length<=n-frm
 | [],_,_,_,_=>κ _
 | i::P,frm,g,b,h=>by
  have k:=h i k7;obtain ⟨f,c⟩:=lx.1 b
  have:=TD (P:=P) (frm:=i+1) (by omega) c λj a=>⟨f j a,(h j (kw _ a)).2⟩
  rw[mH];omega
theorem Ue{n:Nat}:∀{P:List Nat} {frm:Nat},P.Pairwise (· < ·)->(∀j∈P,frm<=j/\j<n)->P∈IZ n P.length frm
 | [],_,_,_=>by simp[IZ]
 | i::P,frm,f,h=>by
  have l:=h i k7;obtain ⟨g,c⟩:=lx.1 f
  have b:∀j∈P,i+1<=j/\j<n:=λj a=>⟨g j a,(h j (kw _ a)).2⟩
  have k:=TD (P:=P) (frm:=i+1) (by omega) c b;show i::P∈IZ n (P.length+1) frm;unfold IZ;refine mI.2 ⟨i,Γ.2 ⟨i-frm,Ω.2 (by omega),by omega⟩,Γ.2 ⟨P,Ue c b,Z⟩⟩
theorem bJ(a:Int)(l m:List Int):Ho (a::l) (a::m)=Ho l m:=by grind[Ho]
theorem Uc{n:Nat}{g:Nat->Int}(k:∀i j,i<j->j<n->g i<g j):∀l c,((IZ n l c).map λP=>P.map g).Pairwise λa b=>Ho a b=true
 | 0,_=>by simp[IZ]
 | l+1,c=>by
  unfold IZ;rw[List.map_flatMap,List.pairwise_flatMap]
  constructor
  .intro i _;rw[jw];have f:=Uc k l (i+1);rw[ky] at f⊢;refine f.imp λ{P Q} h=>?_;show Ho (g i::P.map g) (g i::Q.map g)=true;rw[bJ];exact h
  .rw[ky];refine rB (λ{a b} z t u x r y o=>?_) (List.pairwise_lt_range);obtain ⟨_,w,rfl⟩:=Γ.1 r;obtain ⟨_,v,rfl⟩:=Γ.1 o;obtain ⟨P,_,rfl⟩:=Γ.1 w;obtain ⟨Q,_,rfl⟩:=Γ.1 v;have s:=Ω.1 t;have:=k (c+a) (c+b) (by omega) (by omega);show (if g (c+a)=g (c+b) then _ else decide (g (c+a)<g (c+b)))=true;rw[ν (by omega)];exact Υ this
theorem Rm{P:List Nat}(b:P.Pairwise (· < ·))(a:∀j∈P,j<s.ids.length):jv s (o6 0 P)=P.map λi=>s.ids.getD i 0:=by
 unfold jv
 congr 1
 grind[XO,lj,List.pairwise_lt_range,OP]
def jI(s:mq):List (List Int):=(jH s).map (jv s)
theorem cD(u:s.ids.Pairwise (· < ·)):(jI s).Pairwise λa b=>DB a b=true:=by
 unfold jI jH;rw[List.map_flatMap,List.pairwise_flatMap]
 have o:∀k,∀L∈((lP s.ids.length k 0 0).filter (lq s)).map (jv s),L.length=k:=λk L D=>by
  grind[HV,OM,Rm,Ud]
 constructor
 .intro k _
  have C:=Uc (n:=s.ids.length) (g:=λi=>s.ids.getD i 0) (λi j f c=>by
   show s.ids.getD i 0<s.ids.getD j 0;rw[Dy 0 c,Dy 0 (Nat.lt_trans f c)]
   exact l4.1 u i j _ c f) k 0
  have B:((lP s.ids.length k 0 0).map (jv s)).Pairwise λa b=>Ho a b=true:=by
   rw[HV,jw]
   have e:(IZ s.ids.length k 0).map (jv s∘o6 0)=(IZ s.ids.length k 0).map λP=>P.map λi=>s.ids.getD i 0:=kQ λP z=>by
    have h:=OM z;exact Rm h.1 λj c=>(h.2 j c).2
   rw[e];exact C
  have A:(((lP s.ids.length k 0 0).filter (lq s)).map (jv s)).Pairwise λa b=>Ho a b=true:=List.Pairwise.sublist (List.filter_sublist.map _) B;refine rB (λ{a b} w v l=>?_) A;unfold DB;rw[ν (by rw[o k a w,o k b v];exact λh=>h Z)];exact l
 .refine rB (λ{a b} _ _ l x t y r=>?_) (List.pairwise_lt_range);have F:=o a x t;have E:=o b y r;unfold DB;rw[ϱ (by omega)];exact Υ (by omega)
theorem fv(y:Nat):y∈jH s↔(∃P:List Nat,P.Pairwise (· < ·)/\(∀j∈P,j<s.ids.length)/\o6 0 P=y)/\lq s y=true:=by
 unfold jH;rw[mI]
 constructor
 .grind[HV,OM]
 .rintro ⟨⟨P,c,b,e⟩,f⟩
  have h:=Ue (n:=s.ids.length) (frm:=0) c λj a=>⟨κ _,b j a⟩
  have g:=TD (n:=s.ids.length) (P:=P) (frm:=0) (κ _) c λj a=>⟨κ _,b j a⟩
  refine ⟨P.length,Ω.2 (by omega),Φ.2 ⟨?_,f⟩⟩;rw[HV]
  grind
def PM(n x:Nat):List Nat:=(List.range n).filter λi=>x.testBit i
theorem PL(n x:Nat):(PM n x).Pairwise (· < ·):=List.Pairwise.sublist lj List.pairwise_lt_range
theorem ed{a:Nat}(h:a∈PM j x):a<j:=Ω.1 (Φ.1 h).1
theorem Md(b:x<2^j):o6 0 (PM j x)=x:=by
 refine Nat.eq_of_testBit_eq λa=>?_
 grind[PM,OP,Nat.testBit_lt_two_pow,li,Nat.pow_le_pow_right]
theorem tG{P:List Nat}(h:∀a∈P,a<j):o6 0 P<2^j:=by
 refine Nat.lt_pow_two_of_testBit _ λa b=>?_
 grind[OP]
theorem bH(y:Nat):y∈jH s↔y<2^s.ids.length/\lq s y=true:=by
 rw[fv]
 constructor
 .rintro ⟨⟨P,_,a,rfl⟩,c⟩;exact ⟨tG a,c⟩
 .rintro ⟨f,a⟩;exact ⟨⟨PM s.ids.length y,PL _ _,λj b=>ed b,Md f⟩,a⟩
theorem fw(L:List Int):L∈jI s↔∃y,y<2^s.ids.length/\lq s y=true/\L=jv s y:=by grind[jI,bH]
theorem gV(s:k<=c.length)(h:c.Pairwise λa b=>DB a b=true)(w:∀y∈c.drop k,DB g y=true)(i:k=0\/∃s:k-1<c.length,¬DB g c[k-1]=true)(r:g∉c):(c.take k++ [g]++c.drop k).Pairwise λa b=>DB a b=true:=by
 have v:∀y∈c.take k,DB y g=true:=λy o=>by
  rcases i with i | ⟨f,i⟩
  .grind
  .obtain ⟨j,u,rfl⟩:=mz.1 o;have t:DB c[k-1] g=true:=VJ (λe=>r (e▸ϑ f)) i;rcases Nat.lt_or_ge j (k-1) with l | l
   .exact VI (l4.1 h j (k-1) (by omega) f l) t
   grind
 grind[mw,lh]
theorem pA(L:List Int):L∈c.take k++ [g]++c.drop k↔L∈c\/L=g:=by grind[mw]
theorem bI(i:s.ids.Nodup){y:Nat}(g:x<2^s.ids.length)(f:y<2^s.ids.length)(h:jv s x=jv s y):x=y:=by
 rw[<-Md g,<-Md f]
 congr 1
 refine XO (R:=λa b:Nat=>a<b) (λa b h=>by omega) (PL _ _) (PL _ _) λj=>?_
 have c:∀z j,j∈PM s.ids.length z↔∃k:j<s.ids.length,s.ids[j]∈jv s z:=λz j=>by
  grind[PM,Sv]
 grind
section
variable{β:Type}(step:β->List Int->β×Bool)
end
section
variable{β:Type}
end
variable{a:List (List Int)}{s:mq}{c:Nat}
structure Qn (s:mq) (m:Nat) (out:List (List Int)):Prop where
 o:out.Pairwise λa b=>DB a b=true
 m_:∀L,L∈out↔∃y,y<m/\lq s y=true/\L=jv s y
 l:out.length<=m
theorem Qn.start(s:mq):Qn s 0 []:=⟨List.Pairwise.nil,λ_=>⟨λh=>(by cases h),λ⟨_,h,_⟩=>absurd h (nH _)⟩,Θ _⟩
theorem Qn.skip(h:Qn s c a)(b:lq s c=false):Qn s (c+1) a:=by
 refine ⟨h.o,λL=>?_,Nat.le_succ_of_le h.l⟩;rw[h.m_]
 grind
theorem Qn.add{k:Nat}(h:Qn s c a)(i:s.ids.Nodup)(b:c<2^s.ids.length)(t:lq s c=true)(f:k<=a.length)(l:∀y∈a.drop k,DB (jv s c) y=true)(j:k=0\/∃f:k-1<a.length,¬DB (jv s c) a[k-1]=true):Qn s (c+1) (a.take k++ [jv s c]++a.drop k):=by
 refine ⟨gV f h.o l j λg=>?_,λL=>?_,?_⟩
 .obtain ⟨y,r,u,o⟩:=(h.m_ _).1 g;have:=bI i b (Nat.lt_trans r b) o;omega
 .rw[pA,h.m_]
  grind
 .have:=h.l
  grind
theorem Qn.done(f:s.ids.Pairwise (· < ·))(h:Qn s (2^s.ids.length) a):a=jI s:=
 XO (R:=λc b=>DB c b=true) (λc b h=>VK h) h.o (cD f) λL=>by rw[h.m_,fw]
section
variable{P:Program}{F:Fr}{s:AS}{d:Nat}{x y:Operand}{T T':TypeId}{ty:TypeId}{pos:String}{aft:Array Edge}{g:Option (Nat×Bool)}{k:IntKind}{a b:Int}
end
variable{S:List Int}{a:hU}{c:List Int}{x i:Int}
theorem XP{A B:List Int}(h:i∉A):j7 i (A++i::B)=A:=by grind[j7,Ub]
theorem ah(h:i∉c):j7 i c=[]:=by
 unfold j7 kH Sz;rw[ν h];rfl
theorem tu{l m:List Int}(h:∀x,x∈l↔x∈m):C9 l=C9 m:=by grind[C9]
theorem Zy{l m:List Int}(h:l.Perm m)(c:Ju a (Av l)=[]):Ju a (Av m)=[]:=
 Od.2 λx b=>by
  have:=Od.1 c x b;have f:(Av l).Perm (Av m):=h.map _;rw[MN f] at this;exact this
structure sT (p:hU) (C:List Int):Prop where
 n:C.Nodup
 i:∀x∈C,x∈p.it.map cl.id
 a:jc p (C9 C)=[]
 v:Ju p (Av C)=[]
theorem sT.perm{C D:List Int}(h:sT a C)(b:C.Perm D):sT a D:=
 ⟨b.nodup_iff.1 h.n,λx c=>h.i x (b.mem_iff.2 c),by rw[<-tu λx=>b.mem_iff];exact h.a,Zy b h.v⟩
theorem sT.nil(c:Ac a=0):sT a []:=⟨List.nodup_nil,λx b=>(by cases b),iv a,cb c⟩
theorem cm{A B:List Int}(h:x∉A):(A++x::B).takeWhile (λa=>decide (a≠x))=A:=by
 induction A with
 | nil=>simp
 | cons a A b=>
  grind[List.takeWhile_cons]
theorem dW(h:x∈c):∃A B,c=A++x::B/\x∉A:=by
 induction c with
 | nil=>cases h
 | cons a c b=>
  by_cases e:a=x
  .subst e;exact ⟨[],c,Z,by simp⟩
  grind
theorem n0(x:Int)(q:List Int)(h:x∈q):q.takeWhile (λa=>decide (a≠x))=j7 x q:=by grind[dW,cm,XP]
theorem pH:c.find? (λa=>decide (a∉S))=none↔∀a∈c,a∈S:=by simp
theorem Zd{b:List cl}{id:Int}{x:ey}:kF b S id x=none↔∀a∈j7 id (hY b x.r),a∈S:=by grind[kF,Option.map_eq_none_iff,n0,ah]
theorem WS(r:Ac a=0){id:Int}:B6 a S id=none↔∀b∈ka a id,b.m∈S:=by
 have k:hJ a=ea a.it:=ϱ r
 have t:B6 a S id=none↔(j8 a).findSome? (kF (ea a.it) S id)=none/\(hG a id).af.find? (λc=>decide (c∉S))=none:=by
  unfold B6
  cases (j8 a).findSome? (kF (ea a.it) S id) with
  | some e=>exact ⟨λh=>(by cases h),λh=>(by cases h.1)⟩
  | none=>exact ⟨λh=>⟨Z,Option.map_eq_none_iff.1 h⟩,λh=>Option.map_eq_none_iff.2 h.2⟩
 rw[t,pH,List.findSome?_eq_none_iff];unfold ka U5
 constructor
 .rintro ⟨s,u⟩ b g;rcases υ.1 g with g | g
  .grind[jR]
  .obtain ⟨L,o,g⟩:=mI.1 g;obtain ⟨x,i,rfl⟩:=Γ.1 o;obtain ⟨y,l,rfl⟩:=Γ.1 g;have f:=(qf a.ro).mem_iff.1 i;have:=s x ((qg a).mem_iff.2 f);rw[<-k] at this;exact Zd.1 this y l
 .intro h;refine ⟨λx i=>?_,λc j=>h ⟨id,c,HH⟩ (mJ _ (Γ.2 ⟨c,(jR _).mem_iff.2 j,Z⟩))⟩;rw[<-k];refine Zd.2 λc j=>?_;have f:=(qg a).mem_iff.1 i;exact h ⟨id,c,x.r⟩ (mG _ (mI.2 ⟨B9 a x,Γ.2 ⟨x,(qf a.ro).mem_iff.2 f,Z⟩,Γ.2 ⟨c,j,Z⟩⟩))
theorem qP(j:Ac a=0)(l:∀x∈S,x∈a.it.map cl.id):jc a (C9 S)=[]↔∀id∈S,B6 a S id=none:=by
 have r:jc a (C9 S)=[]↔∀i∈I3 a,FP a (C9 S) i=[]:=by unfold jc;rw[List.flatMap_eq_nil_iff]
 rw[r]
 constructor
 .intro h id c;have:=h id ((Ja j).mem_iff.2 (l id c));unfold FP at this;rw[ϱ (show C9 S id=true from Υ c)] at this;refine (WS j).2 λb g=>Classical.byContradiction λk=>?_;have o:=List.filter_eq_nil_iff.1 this b g;exact o (by show (!decide (b.m∈S))=true;rw[kC k];rfl)
 .intro h i _;unfold FP
  split
  .rename_i f
   have f:i∈S:=lK f;refine List.filter_eq_nil_iff.2 λb g=>?_;show ¬(!decide (b.m∈S))=true;rw[Υ ((WS j).1 (h i f) b g)]
   decide
  .rfl
theorem Uk(k:Ac a=0)(h:S.Nodup)(j:∀x∈S,x∈a.it.map cl.id)(x:ey):CO a.it x S=max x.n 0+DO a x.r (Av S):=by
 unfold CO DO Av
 congr 1
 rw[jw]
 have o:(S.map ((λe:Int×Bool=>if e.2=true then BO (hG a e.1) x.r else 0)∘λb=>(b,true)))=S.map λy=>BO (hG a y) x.r:=kQ λy _=>(by show (if true=true then BO (hG a y) x.r else 0)=_;rw[ϱ rfl])
 rw[o];have c:=YE (IL k).2.1
 have l:(a.it.filter λi=>decide (i.id∈S)).map (λi=>BO i x.r)=((a.it.filter λi=>decide (i.id∈S)).map cl.id).map λy=>BO (hG a y) x.r:=by
  grind[kQ,GH]
 rw[l];refine Ui ?_ _;refine (qx (List.Nodup.sublist (List.filter_sublist.map _) c) h).2 λy=>?_;rw[Γ]
 constructor
 .rintro ⟨i,f,rfl⟩;exact lK (Φ.1 f).2
 .intro g;obtain ⟨i,f,rfl⟩:=Γ.1 (j y g);exact ⟨i,Φ.2 ⟨f,Υ g⟩,Z⟩
theorem wm(g:Ac a=0):sT a S↔S.Nodup/\(∀x∈S,x∈a.it.map cl.id)/\DY a S:=by
 have b:S.Nodup->(∀x∈S,x∈a.it.map cl.id)->((jc a (C9 S)=[]/\Ju a (Av S)=[])↔DY a S):=λk f=>by
  unfold DY;rw[qP g f,Od];refine and_congr Iff.rfl ?_
  constructor
  .intro h x c;rw[Uk g k f];have:=h (B9 a x) (Γ.2 ⟨x,(qf a.ro).mem_iff.2 c,Z⟩);have e:(B9 a x).n+DO a (B9 a x).r (Av S)=max x.n 0+DO a x.r (Av S):=rfl;omega
  .intro h L o;obtain ⟨x,c,rfl⟩:=Γ.1 o;have:=h x ((qf a.ro).mem_iff.1 c);rw[Uk g k f] at this;have e:(B9 a x).n+DO a (B9 a x).r (Av S)=max x.n 0+DO a x.r (Av S):=rfl;omega
 exact ⟨λh=>⟨h.n,h.i,(b h.n h.i).1 ⟨h.a,h.v⟩⟩,λ⟨j,i,l⟩=>⟨j,i,((b j i).2 l).1,((b j i).2 l).2⟩⟩
theorem bN(b:Ac a=0)(c:CT a)(h:sT a S):∀y∈S,y∈fl a:=bL b c ((wm b).1 h).2.2 h.i
end Go.Proofs.YteifpcnphnhaoaaGreat
namespace Go.Proofs.YteifpcnphnhaoaaGreat
open Go.RowKit Go.Shelf
variable{C:Nat->Nat->Prop}{W:Int->Int->Bool}{a:List Int}{i:Nat}{o:List Int}{c:Nat}{f:Int}{g:hU}{k:Nat}{h:List Int}{j:Int}
set_option maxRecDepth 100000
theorem pY(h:xC g):CT g:=⟨by have:=h.1;omega,by have:=h.2.1;omega,λi a=>by have:=h.2.2 i a;omega⟩
theorem s4(c:Ac g=0)(i:CT g){id:Int}(a:id∈g.it.map cl.id)(f:id∉fl g):0<(kB g id).length:=by
 refine Decidable.byContradiction λh=>f ?_;have l:kB g id=[]:=List.length_eq_zero_iff.1 (by omega);have j:∀x∈ [id],x∈g.it.map cl.id:=λx b=>by rw[ξ.1 b];exact a
 have k:sT g (jx g [id]):=⟨Z9 c _,λx b=>Te x b,ii c j,l⟩
 refine bN c i k id ?_;unfold jx;rw[(jR _).mem_iff,Φ];exact ⟨a,by simpa using Wh.base (ξ.2 Z)⟩
theorem qR(f:Ac g=0)(r:CT g):(fl g).length+(km g).length=g.it.length:=by
 have j:hJ g=ea g.it:=ϱ f
 obtain ⟨L,b⟩:∃L,(ea g.it).map cl.id=L:=⟨_,Z⟩
 have o:L.length=g.it.length:=by rw[<-b,χ,Nr]
 have c:L.Nodup:=by rw[<-b];have:=F4 f;rwa [j] at this
 have k:∀x,x∈L↔x∈g.it.map cl.id:=λx=>by rw[<-b];exact ((Js g.it).map cl.id).mem_iff
 have u:(km g).length=(L.filter λx=>!decide (x∈fl g)).length:=by
  unfold km;rw[b]
  have h:∀l:List Int,(∀x∈l,x∈g.it.map cl.id)->(l.filterMap (kX g)).length=(l.filter λx=>!decide (x∈fl g)).length:=λl=>by
   induction l with
   | nil=>intro _;rfl
   | cons a l i=>
    grind[Lx,Tk,s4]
  grind
 have t:(fl g).length=(L.filter λx=>decide (x∈fl g)).length:=by
  refine ((qx (G3 f) (List.Nodup.sublist lj c)).2 λx=>?_).length_eq
  grind[Ro]
 have s:∀(q:Int->Bool) (l:List Int),(l.filter q).length+(l.filter λx=>!q x).length=l.length:=λq l=>by
  induction l with
  | nil=>rfl
  | cons a l i=>rw[l5,l5,mH];cases q a<;>simp<;>omega
 grind
def I1(W:Int->Int->Bool)(c:Int)(l o:List Int):List Int:=l.foldl (λo x=>if (!decide (x∈o) && W c x)=true then o++ [x] else o) o
theorem NM(b:k<a.length):I1 W j (a.take (k+1)) o=if (!decide (a[k]∈I1 W j (a.take k) o) && W j a[k])=true then I1 W j (a.take k) o++ [a[k]] else I1 W j (a.take k) o:=by
 unfold I1;rw[ψ b,List.foldl_append]
 rfl
theorem NN:I1 W j (f::a) o=I1 W j a (if (!decide (f∈o) && W j f)=true then o++ [f] else o):=rfl
theorem kG{W:Int->Int->Bool}{c:Int}:∀(l o:List Int) (x:Int),x∈I1 W c l o↔x∈o\/(x∈l/\W c x=true)
 | [],o,x=>by unfold I1;simp
 | a::l,o,x=>by
  have g:=kG (W:=W) (c:=c) l (if (!decide (a∈o) && W c a)=true then o++ [a] else o) x;rw[NN,g,jt]
  by_cases h:(!decide (a∈o) && W c a)=true
  .rw[ϱ h,υ,ξ];simp only[kO] at h
   constructor
   .rintro ((b | rfl) | b)
    .exact .inl b
    .exact .inr ⟨.inl Z,h.2⟩
    .exact .inr ⟨.inr b.1,b.2⟩
   .rintro (b | ⟨rfl | b,f⟩)
    .exact .inl (.inl b)
    .exact .inl (.inr Z)
    .exact .inr ⟨b,f⟩
  .rw[ν h]
   constructor
   .rintro (b | b)
    .exact .inl b
    .exact .inr ⟨.inr b.1,b.2⟩
   .rintro (b | ⟨rfl | b,f⟩)
    .exact .inl b
    .refine .inl (Classical.byContradiction λi=>h ?_);rw[f,kC i];rfl
    .exact .inr ⟨b,f⟩
theorem Ly{W:Int->Int->Bool}{c:Int}:∀(l o:List Int),o<+:I1 W c l o
 | [],o=>List.prefix_refl o
 | a::l,o=>by
  rw[NN];refine List.IsPrefix.trans ?_ (Ly l _)
  split
  .exact List.prefix_append _ _
  .exact List.prefix_refl o
theorem IJ{W:Int->Int->Bool}{c:Int}:∀(l o:List Int),o.Nodup->(I1 W c l o).Nodup
 | [],o,h=>h
 | a::l,o,h=>by
  rw[NN];refine IJ l _ ?_
  split
  .rename_i b
   rw[kO] at b;have i:a∉o:=by simpa using b.1
   rw[m5];exact ⟨h,by simp,λx g y f e=>i (by rw[ξ.1 f] at e;exact e▸g)⟩
  .exact h
def mp(W:Int->Int->Bool)(l:List Int):Nat->Nat->List Int->List Int
 | 0,_,o=>o
 | f+1,i,o=>match o[i]? with
  | none=>o
  | some c=>mp W l f (i+1) (I1 W c l o)
theorem Tl{f:Nat}(h:¬i<o.length):mp W a f i o=o:=by
 cases f with
 | zero=>rfl
 | succ f=>
  show (match o[i]? with | none=>o | some c=>_)=o
  grind
theorem Xt{f:Nat}(h:i<o.length):mp W a (f+1) i o=mp W a f (i+1) (I1 W o[i] a o):=by
 show (match o[i]? with | none=>o | some c=>_)=_;rw[ω h]
def kA(W:Int->Int->Bool)(l:List Int)(a:Int):List Int:=mp W l (l.length+2) 0 [a]
structure BI (l:List Int) (a:Int) (i:Nat) (o:List Int):Prop where
 le:i<=o.length
 nd:o.Nodup
 sb:∀x∈o,x∈a::l
theorem BI.len{i:Nat}(h:BI a f i o):o.length<=a.length+1:=by
 have:=cP h.nd h.sb;omega
theorem BI.step{W:Int->Int->Bool}{l:List Int}{a:Int}{i:Nat}{o:List Int}(h:BI l a i o)(g:i<o.length)(c:Int):BI l a (i+1) (I1 W c l o):=
 ⟨jp g (Ly l o).length_le,IJ l o h.nd,λx f=>by
  rcases (kG l o x).1 f with b | b
  .exact h.sb x b
  .exact kw _ b.1⟩
theorem BI.start(l:List Int)(a:Int):BI l a 0 [a]:=⟨κ _,by simp,λx b=>by rw[ξ.1 b];exact k7⟩
inductive sN (W:Int->Int->Bool) (l:List Int) (a:Int):Int->Prop
 | refl:sN W l a a
 | step {y x:Int} (h:sN W l a y) (hx:x∈l) (hw:W y x=true):sN W l a x
theorem qT{W:Int->Int->Bool}:∀(b i:Nat) (o:List Int),BI a f i o->a.length+2<=b+i->(∀x∈o,sN W a f x)->(∀j y,j<i->o[j]? =some y->∀x∈a,W y x=true->x∈o)->f∈o→
  (∀x∈mp W a b i o,sN W a f x)/\(∀y∈mp W a b i o,∀x∈a,W y x=true->x∈mp W a b i o)/\f∈mp W a b i o:=λb=>by
 induction b with
 | zero=>
  intro i o h E w B A;have:=h.len;have:=h.le;omega
 | succ b C=>
  intro i o h E w B A
  by_cases s:i<o.length
  .rw[Xt s];refine C (i+1) _ (h.step s _) (by omega) (λx k=>?_) (λj y r u x k v=>?_) ((kG a o f).2 (.inl A))
   .rcases (kG a o x).1 k with z | z
    .exact w x z
    .exact .step (w _ (ϑ s)) z.1 z.2
   .have g:o[j]? =some y:=by
     obtain ⟨t,D⟩:=Ly (W:=W) (c:=o[i]) a o;rw[<-D,nT (by omega)] at u;exact u
    rcases Nat.lt_succ_iff_lt_or_eq.1 r with r | rfl
    .exact (kG a o x).2 (.inl (B j y r g x k v))
    .rw[ω s] at g;injection g with g
     exact (kG a o x).2 (.inr ⟨k,by rw[g];exact v⟩)
  .rw[Tl s];refine ⟨w,λy u x k v=>?_,A⟩;obtain ⟨j,r⟩:=List.getElem?_of_mem u;exact B j y (by have:=(φ.1 r).1;omega) r x k v
theorem lM{W:Int->Int->Bool}{l:List Int}{a x:Int}:x∈kA W l a↔sN W l a x:=by
 have h:=qT (W:=W) (l.length+2) 0 [a] (BI.start l a) (by omega) (λx b=>by rw[ξ.1 b];exact .refl) (λj y i=>absurd i (nH j)) (ξ.2 Z);refine ⟨h.1 x,λg=>?_⟩
 induction g with
 | refl=>exact h.2.2
 | step _ b f c=>exact h.2.1 _ c _ b f
noncomputable def lF(p:hU)(a b:Int):Bool:=decide (Ql (j1 p) (hG p a) (hG p b))
theorem RW(p:hU)(X:Ac p=0)(T:CT p)(l:List Int)(a:Int)(hl:l.length<=100000)(O:∀x∈l,x∈p.it.map cl.id)(U:a∈p.it.map cl.id):AI prog 59 [.d (BG p),.d (Gl l),.d (AE a)] (Gl (kA (lF p) l a)):=by
 have E:∀{x:Int},x∈a::l->x∈p.it.map cl.id:=λ{x} A=>by
  rcases jt.1 A with rfl | A
  .exact U
  .exact O _ A
 refine As func59 Z Z ntmps59 Z Z Z λF B=>?_;refine AD (AF (V (B7 1 Z Z Z Z Z Z Z) (AB Z Z (AC (AD (AF (ch Z Z (V (CF 10 Ao Z Z Z Z Z Z Z Z) ?_))))))));refine AB Z Z (AC (AD (AD (AF (AB Z Z (AC (AX (BC (α:=Nat×List Int) (λq=>⟨51,[(3,(.ptr 1 0 0)),(1,(.d (Gl l))),(7,(.own 10 0 q.2.length)),(8,(.d (AE (q.1:Int))))],[(1,[B3 25 p]),(10,[.rowD 3 1 (q.2.map AE)])]⟩) (λq=>BI l a q.1 q.2/\mp (lF p) l (l.length+2-q.1) q.1 q.2=kA (lF p) l a) (λq=>l.length+2-q.1) ((0,[a])) (⟨BI.start l a,Z⟩) (AR B [1,10] Z Z ⟨Z,Z,Z,Z,trivial⟩) ?_))))))));rintro ⟨i,o⟩ ⟨w,L⟩;dsimp only at w L⊢;refine AD (AD (AF (ch Z Z (ch Z Z (J (SZ Z E0 Z) (J (At Z Z Z) (AC (A5 Z (λz=>?_) (λz=>?_)))))))))
 .refine AU (AD (AX (AD ?_)));have h:i<o.length:=BF z;have S:=w.len;refine AF (AB Z Z (AC (AX (BC (α:=Nat×List Int) (λq=>⟨51,[(3,(.ptr 1 0 0)),(1,(.d (Gl l))),(7,(.own 10 0 q.2.length)),(8,(.d (AE (i:Int)))),(9,(.d (AE (q.1:Int))))],[(1,[B3 25 p]),(10,[.rowD 3 1 (q.2.map AE)])]⟩) (λq=>q.1<=l.length/\q.2=I1 (lF p) o[i] (l.take q.1) o) (λq=>l.length-q.1) ((0,o)) (⟨κ _,Z⟩) (AR B [1,10] Z Z ⟨Z,Z,Z,Z,Z,trivial⟩) ?_))));rintro ⟨k,g⟩ ⟨G,f⟩;dsimp only at G f⊢;refine AD (AD (AF (ch Z Z (ch Z Z (J (BU Z E0 Z) (J (At Z Z Z) (AC (A5 Z (λy=>?_) (λy=>?_)))))))))
  .refine AU (AD (AX (AD ?_)));have b:k<l.length:=BF y;have r:=Ly (W:=lF p) (c:=o[i]) (l.take k) o;rw[<-f] at r;have C:i<g.length:=li h r.length_le;have s:g[i]=o[i]:=by obtain ⟨t,R⟩:=r;subst R;rw[List.getElem_append_left h]
   have Y:=w.step (W:=lF p) h o[i];have N:g.length<=l.length+1:=by have h1:g.Nodup:=(by rw[f];exact IJ _ _ w.nd);have h2:∀x∈g,x∈a::l:=(λx A=>by rw[f] at A;rcases (kG _ _ _).1 A with M | M;exact w.sb x M;exact kw _ (lI M.1));have:=cP h1 h2;rwa [mH] at this
   have I:=E (w.sb _ (ϑ h));have H:=O _ (ϑ b);have Q:=Qq p X T g[i] l[k] (by rw[s];exact I) H;refine Bq [[],[],[],[1,2],[1,2,3],rg 5,rg 6,rg 7,rg 8,rg 8,rg 8,[0,1,2,3,4,5,6,7,9,10],[0,1,2,3,4,5,6,7,9,10,11],rg 8,rg 8,[0,1,2,3,4,5,6,7,13,14],[0,1,2,3,4,5,6,7,13,14,15],rg 17,rg 18] mixed Z (B2 ?_);refine A7 7 Z Z (A7 1 Z Z (A7 9 Z Z (AK [25,26] Z (Al (k) Z Z (Z) (AP b) E0 Z BK Z) (AK [27] Z (BZ Z Z Ai Z) (BV 5 Z Z Z (A0 6 Z Z (J (Fe [10] (G6 g l[k] (by omega)) (by exact ⟨.inr ⟨_,_,Z,.own Z Z (by simp) (θ (by simp)),Z⟩,.inl Z,trivial⟩) Z Z) (AC ⟨Z,?_⟩))))))));refine A0 7 Z Z (J (Jq Z Z) (AC ⟨Z,?_⟩));refine A0 8 Z Z (ch Z Z (C7 31 Z (λj=>?_) (λj=>?_)))
   .refine AC ⟨Z,?_⟩;refine B2 (Ay [3,31] Z Z (λ_=>BR Z Z Z (Ap Z Z By Z Z Z)) (A1 [7,31] [] Z Z (λ_=>BR Z Z Z (FW Z Z)) (A1 [8,31] [] Z Z (λ_=>BR Z Z Z (FW Z Z)) (Ay [33,34,31] Z Z (λ_=>BR Z Z Z (D1 (i) Z Z (Z) (C) Z E0 BK Z)) (Ay [35,31] Z Z (λ_=>BR Z Z Z (E1 Z Z (AP C) Z Ai Z)) ?_)))));refine A1 [1,31] [] Z Z (λ_=>BR Z Z Z (FW Z Z)) (A1 [9,31] [] Z Z (λ_=>BR Z Z Z (FW Z Z)) (A1 [37,38,31] [] Z Z (λ_=>BR Z Z Z (Al (k) Z Z (Z) (AP b) E0 Z BK Z)) (A1 [39,31] [] Z Z (λ_=>BR Z Z Z (BZ Z Z Ai Z)) (BV 17 Z Z Z (A0 18 Z Z (AT Z Z Z (J (Aj (Q) Z Z) (AC ⟨Z,?_⟩))))))));refine A0 19 Z Z (J (B8 Z Z Z Z) (AC ⟨Z,?_⟩));refine Bb (A5 Z (λu=>?_) (λu=>?_))
    .refine AF (ch Z Z (ch Z Z (ch Z Z (J (Al (k) Z Z (Z) (AP b) E0 Z BK Z) (J (BZ Z Z Ai Z) ?_)))));refine V (CF 50 Ao Z Z Z Z Z Z Z Z) (V (DN (g) ([l[k]]) Z Z Z Z Z Z Z Z Ao (by simp only[ζ];omega) Z Z Z Z) (AB Z Z (AC (AF (ch Z Z (J (Ad Z Z (AJ (k+1) (by omega)) Z) (AB Z Z (AC ?_))))))));exact ⟨(k+1,g++ [l[k]]),⟨b,by show _=I1 (lF p) o[i] (l.take (k+1)) o;rw[NM b,<-f,ϱ (by unfold lF;rw[<-s];simp[j,u])]⟩,by show l.length-(k+1)<l.length-k;omega,AR B [1,10] Z (Z) ⟨Z,Z,Z,Z,Z,trivial⟩⟩
    .refine AU (AF (ch Z Z (J (Ad Z Z (AJ (k+1) (by omega)) Z) (AB Z Z (AC ?_)))));exact ⟨(k+1,g),⟨b,by show _=I1 (lF p) o[i] (l.take (k+1)) o;rw[NM b,<-f,ν (by unfold lF;rw[<-s];first | (simp[j];done) | (simp[u];done) | (intro D;simp at D;exact j D.1))]⟩,by show l.length-(k+1)<l.length-k;omega,AR B [1,10] Z (Z) ⟨Z,Z,Z,Z,Z,trivial⟩⟩
   .refine AC ⟨Z,?_⟩;refine B2 (A1 [3,31] [] Z Z (λ_=>Bw Z Z Z Z) (A1 [7,31] [] Z Z (λ_=>Bw Z Z Z Z) (A1 [8,31] [] Z Z (λ_=>Bw Z Z Z Z) (A1 [33,34,31] [] Z Z (λ_=>Bw Z Z Z Z) ?_))));refine A1 [35,31] [] Z Z (λ_=>Bw Z Z Z Z) (A1 [1,31] [] Z Z (λ_=>Bw Z Z Z Z) (A1 [9,31] [] Z Z (λ_=>Bw Z Z Z Z) (A1 [37,38,31] [] Z Z (λ_=>Bw Z Z Z Z) (A1 [39,31] [] Z Z (λ_=>Bw Z Z Z Z) (BV 17 Z Z Z (A0 18 Z Z (AN Z Z Z Z (AC ⟨Z,?_⟩))))))));refine A0 19 Z Z (J (Bx Z Z Z Z) (AC ⟨Z,?_⟩));refine Bb (Cq Z Z (AU (AF (ch Z Z (J (Ad Z Z (AJ (k+1) (by omega)) Z) (AB Z Z (AC ?_)))))));exact ⟨(k+1,g),⟨b,by show _=I1 (lF p) o[i] (l.take (k+1)) o;rw[NM b,<-f,ν (by unfold lF;rw[<-s];first | (simp[j];done) | (simp[u];done) | (intro D;simp at D;exact j D.1))]⟩,by show l.length-(k+1)<l.length-k;omega,AR B [1,10] Z (Z) ⟨Z,Z,Z,Z,Z,trivial⟩⟩
  .refine Aq ?_;have v:k=l.length:=by have:=y;omega
   refine AF (ch Z Z (J (Ad Z Z (AJ (i+1) (by omega)) Z) (AB Z Z (AC ?_))));exact ⟨(i+1,g),⟨by rw[f,v,kV];exact w.step h o[i],by show mp _ _ (l.length+2-(i+1)) (i+1) g=_;rw[<-L,show l.length+2-i=(l.length+2-(i+1))+1 by omega,Xt h,f,v,kV]⟩,by show l.length+2-(i+1)<l.length+2-i;omega,AR B [1,10] Z (Z) ⟨Z,Z,Z,Z,trivial⟩⟩
 .refine Aq (AD ?_);have K:o=kA (lF p) l a:=by rw[<-L,Tl (by have:=z;omega)]
  refine Fb (emb:=AE) 7 10 o Z Z Z Z Z Z Z ?_;rw[K];refine AF (ch Z Z (AB Z Z (AC (A4 ?_))));exact ⟨_,[],[],A2 Z,Z,Z,Z,Z⟩
noncomputable def lN(L G:List Int):List Int:=L.filter λx=>!decide (x∈G)
theorem T0(p:hU):kD p=JL p (lN (fl p) (Bu p)):=by grind[kD,JL,uz,lN]
theorem sz{p:hU}{E:List (cl×Nat)}(v:∀k,k<E.length->hG p (Rt E k)=EA E k)(w:jX E){j:Nat}(r:i<E.length)(u:j<E.length):Rt E j∈kA (lF p) (BQ E (List.range E.length)) (Rt E i)↔Rh (gf (kL (j1 p) E)) i j:=by
 rw[lM]
 have b:∀x,x∈BQ E (List.range E.length)↔∃k,k<E.length/\x=Rt E k:=λx=>by
  grind[BQ,Rt]
 constructor
 .intro h
  have a:∀x,sN (lF p) (BQ E (List.range E.length)) (Rt E i) x->∃k,k<E.length/\x=Rt E k/\Rh (gf (kL (j1 p) E)) i k:=λx g=>by
   induction g with
   | refl=>exact ⟨i,r,Z,.refl i⟩
   | step _ g t f=>
    obtain ⟨k,c,rfl,l⟩:=f;obtain ⟨m,o,rfl⟩:=(b _).1 g;refine ⟨m,o,Z,.step l (TF.2 ⟨c,o,?_⟩)⟩;have:=lK t
    grind
  obtain ⟨k,c,e,l⟩:=a _ h;rw[w j k u c e];exact l
 .intro h
  have a:∀k,Rh (gf (kL (j1 p) E)) i k->k<E.length/\sN (lF p) (BQ E (List.range E.length)) (Rt E i) (Rt E k):=λk c=>by
   induction c with
   | refl=>exact ⟨r,.refl⟩
   | step _ e f=>
    obtain ⟨z,s,y⟩:=TF.1 e;refine ⟨s,.step f.2 ((b _).2 ⟨_,s,Z⟩) ?_⟩
    grind[lF]
  grind
noncomputable def kf(n:Nat)(C:Nat->Nat->Prop)(i:Nat):List (List Nat):=k8 (((List.range i).filter λk=>dec (∀j,j<k->¬C k j)).map λk=>(List.range n).filter λj=>dec (C k j))
theorem eU(g:List (List Nat)):kf g.length (Jx g) g.length=jf g:=rfl
theorem eT(h:∀j,j<i->¬C i j)(a:1<((List.range c).filter λj=>dec (C i j)).length):kf c C (i+1)=kf c C i++ [(List.range c).filter λj=>dec (C i j)]:=by grind[kf,ko,Vu,k8,Gq]
theorem ae(h:¬∀j,j<i->¬C i j):kf c C (i+1)=kf c C i:=by grind[kf,ko,i4]
theorem eS(a:¬1<((List.range c).filter λj=>dec (C i j)).length):kf c C (i+1)=kf c C i:=by grind[kf,ko,k8,Gq]
theorem u7:∀(f i:Nat) (o:List Int),o.Nodup->(mp W a f i o).Nodup:=λf=>by
 induction f with
 | zero=>exact λi o h=>h
 | succ f c=>
  intro i o h
  by_cases b:i<o.length
  .rw[Xt b];exact c _ _ (IJ a o h)
  .rw[Tl b];exact h
noncomputable def kR(n:Nat)(C:Nat->Nat->Prop)(i k:Nat):List Nat:=(List.range k).filter λj=>dec (C i j)
theorem al(h:C i k):kR c C i (k+1)=kR c C i k++ [k]:=by grind[kR,ko,Vu]
theorem PO(h:¬C i k):kR c C i (k+1)=kR c C i k:=by grind[kR,ko,i4]
theorem R2(n k i:Nat)(C:Nat->Nat->Prop):(kR n C i k).length<=k:=by grind[kR]
theorem oL(g:∀i j,C i j->C j i)(we:∀i j k,C i j->C j k->C i k)(f:i<a.length)(o:∀k (c:k<a.length),a[k]∈h↔∃j,j<i/\C k j)(b:a[i]∈h):(¬∀j,j<i->¬C i j)/\∀k (c:k<a.length),a[k]∈h↔∃j,j<i+1/\C k j:=by grind
theorem oM{E:List (cl×Nat)}{P:List Nat}(u:jX E)(f:E.length=c)(o:∀{k:Nat} (b:k<a.length),a[k]=Rt E k)(g:a.length=c)(r:∀i j,C i j->C j i)(s:∀i,C i i)(we:∀i j k,C i j->C j k->C i k)(v:∀k (b:k<a.length),a[k]∈h↔∃j,j<i/\C k j)(t:P=(List.range c).filter λj=>dec (C i j)):∀k (b:k<a.length),a[k]∈h++BQ E P↔∃j,j<i+1/\C k j:=by grind[gh,G8]
theorem Re{L G:List Int}(a:k<L.length):lN (L.take (k+1)) G=lN (L.take k) G++(if L[k]∈G then [] else [L[k]]):=by grind[lN,ψ]
theorem ZA(L G:List Int):(lN L G).length<=L.length:=lE _ _
theorem eQ(p:hU)(S:Ac p=0)(hf:CT p):AI prog 20 [.d (BG p),.d (Gl (fl p)),.d (Gl (Bu p))] (Wd (lD (j1 p) (kD p))):=by
 have hi30:=hf.i;have hll0:=Ef S;have hgl0:=Mq hf;have D:((ea p.it).map cl.id).Nodup:=by have:=F4 S;rwa [show hJ p=ea p.it from ϱ S] at this
 have hL1:=ZA (fl p) (Bu p);have o:=R7 p (lN (fl p) (Bu p)) (by omega) (by omega);have hI:jX (kD p):=by rw[T0];exact V1 D (Ll p _)
 have I:∀k,k<(kD p).length->Rt (kD p) k∈p.it.map cl.id/\hG p (Rt (kD p) k)=EA (kD p) k:=by rw[T0];exact λk f=>bT S f
 have hel:(kD p).length<=30:=by have U:(kD p).length<=(ea p.it).length:=(by unfold kD;rw[χ];exact lE _ _);rw[Nr] at U;omega
 rw[fF,<-T0] at o
 obtain ⟨E,hEE⟩:∃E,kD p=E:=⟨_,Z⟩
 simp only[hEE] at hI I hel o⊢
 obtain ⟨n,G⟩:∃n,E.length=n:=⟨_,Z⟩
 have v:=λ{i j:Nat} (hi:i<E.length) (hj:j<E.length)=>sz (p:=p) (E:=E) (λk f=>(I k f).2) hI hi hj;rw[G] at o hel v
 obtain ⟨l,hl⟩:∃l,BQ E (List.range n)=l:=⟨_,Z⟩
 rw[hl] at o v;have y:l.length=n:=by rw[<-hl,ET,kp]
 have g:∀{k:Nat} (f:k<l.length),l[k]=Rt E k:=λ{k} f=>by
  have U:l[k]? =some (Rt E k):=by rw[<-hl];unfold BQ;rw[ς,ω (by simpa [y] using f)];simp[Rt]
  rw[ω f] at U;injection U
 have w:∀x∈l,x∈p.it.map cl.id:=λx hx=>by
  obtain ⟨k,f,rfl⟩:=mK.1 hx;rw[g f];exact (I k (by omega)).1
 obtain ⟨C,hC⟩:∃C,Jx (kL (j1 p) E)=C:=⟨_,Z⟩
 have hCr:∀i,C i i:=λi=>by rw[<-hC];exact Mi _ i
 have hCs:∀i j,C i j->C j i:=λi j h=>by rw[<-hC] at h⊢;exact Rj h
 have we:∀i j k,C i j->C j k->C i k:=λi j k h h2=>by rw[<-hC] at h h2⊢;exact K0 h h2
 have t:∀{i k:Nat} (hi:i<l.length) (f:k<l.length),(l[k]∈kA (lF p) l l[i]/\l[i]∈kA (lF p) l l[k])↔C i k:=λ{i k} hi f=>by
  rw[g hi,g f,v (by omega) (by omega),v (by omega) (by omega),<-hC];rfl
 have X:kf n C n=jf (kL (j1 p) E):=by rw[<-hC,<-eU,Xz,G]
 have W:∀a,a∈l->(kA (lF p) l a).length<=31:=λa ha=>by
  have U:∀x∈kA (lF p) l a,x∈a::l:=λx hx=>by
   cases lM.1 hx with
   | refl=>exact k7
   | step _ h _=>exact kw _ h
  have h2:(kA (lF p) l a).Nodup:=u7 _ _ _ (by simp);have:=cP h2 U;rw[mH] at this;omega
 refine As func20 Z Z ntmps20 Z Z Z λF s=>(AD (AF (V (B7 1 Z Z Z Z Z Z Z) (AB Z Z (AC (AD (AF (AB Z Z ?_))))))));refine AC (AD (AD (AF (AB Z Z (AC (AX (IU 7 10 Ao Z Z Z Z (BC (α:=Nat×List Int) (λq=>⟨99,[(3,(.ptr 1 0 0)),(1,(.d (Gl (fl p)))),(2,(.d (Gl (Bu p)))),(7,(.own 10 0 q.2.length)),(8,(.d (AE (q.1:Int))))],[(1,[B3 25 p]),(10,[.rowD 3 1 (q.2.map AE)])]⟩) (λq=>q.1<=(fl p).length/\q.2=lN ((fl p).take q.1) (Bu p)) (λq=>(fl p).length-q.1) ((0,[])) (⟨κ _,Z⟩) (AR s [1,10] Z Z ⟨Z,Z,Z,Z,Z,trivial⟩) ?_))))))));rintro ⟨k,T⟩ ⟨f,r⟩;dsimp only at f r⊢;refine AD (AD (AF (ch Z Z (ch Z Z (J (BU Z E0 Z) (J (At Z Z Z) (AC (A5 Z (λR=>?_) (λR=>?_)))))))))
 .refine AU (AD (AX (AD ?_)));have b:k<(fl p).length:=BF R;have hTl:T.length<=30:=by have:=ZA ((fl p).take k) (Bu p);rw[<-r,η] at this;omega
  refine AF ?_;refine ch Z Z (ch Z Z (ch Z Z (J (Al (k) Z Z (Z) (AP b) E0 Z BK Z) (J (BZ Z Z Ai Z) (J (Aj (G6 (Bu p) (fl p)[k] (by omega)) Z Z) (J (Jq Z Z) (AC (A5 Z (λQ=>?_) (λQ=>?_)))))))))
  .refine AF (ch Z Z (ch Z Z (ch Z Z (J (Al (k) Z Z (Z) (AP b) E0 Z BK Z) (J (BZ Z Z Ai Z) ?_)))));refine V (CF 50 Ao Z Z Z Z Z Z Z Z) (V (DN (T) ([(fl p)[k]]) Z Z Z Z Z Z Z Z Ao (by simp only[ζ];omega) Z Z Z Z) (AB Z Z (AC (AF (ch Z Z (J (Ad Z Z (AJ (k+1) (by omega)) Z) (AB Z Z (AC ?_))))))));exact ⟨(k+1,T++ [(fl p)[k]]),⟨b,by show _=lN ((fl p).take (k+1)) _;rw[Re b,ν (by simpa using Q),r]⟩,by show (fl p).length-(k+1)<(fl p).length-k;omega,AR s [1,10] Z (Z) ⟨Z,Z,Z,Z,Z,trivial⟩⟩
  .refine AU (AF (ch Z Z (J (Ad Z Z (AJ (k+1) (by omega)) Z) (AB Z Z (AC ?_)))));exact ⟨(k+1,T),⟨b,by show _=lN ((fl p).take (k+1)) _;rw[Re b,ϱ (by simpa using Q),r,kY]⟩,by show (fl p).length-(k+1)<(fl p).length-k;omega,AR s [1,10] Z (Z) ⟨Z,Z,Z,Z,Z,trivial⟩⟩
 .refine Aq (AD ?_);have hke:k=(fl p).length:=by have:=R;omega
  refine Fb (emb:=AE) 7 10 T Z Z Z Z Z Z Z ?_;rw[show T=lN (fl p) (Bu p) by rw[r,hke,kV]];refine AF (J (Ap Z Z By Z Z Z) (ch Z Z (J (Aj (o) Z Z) (AB Z Z ?_))));refine AC (AD (AF (AB Z Z (AC (AD (AF (AB Z Z (AC ?_))))))));refine AD (AD (IU 10 12 Ao Z Z Z Z (AF (AB Z Z (AC (AX (IU 9 11 Ih Z Z Z Z (BC (α:=Nat×List (List Int)×List Int) (λq=>⟨99,[(3,(.ptr 1 0 0)),(7,(.d (Gl l))),(9,(.own 11 0 q.2.1.length)),(10,(.own 12 0 q.2.2.length)),(11,(.d (AE (q.1:Int))))],[(1,[B3 25 p]),(11,[.rowD 28 1 (q.2.1.map Gl)]),(12,[.rowD 3 1 (q.2.2.map AE)])]⟩) (λq=>q.1<=n/\q.2.1=(kf n C q.1).map (BQ E)/\q.2.1.length<=q.1/\q.2.2.length<=q.1*30/\∀k (f:k<l.length),l[k]∈q.2.2↔∃j,j<q.1/\C k j) (λq=>n-q.1) ((0,[],[])) (⟨κ _,Z,κ _,κ _,λk f=>⟨(λh=>by cases h),λ⟨j,h,_⟩=>absurd h (nH j)⟩⟩) (AR s [1,11,12] Z Z ⟨Z,Z,Z,Z,Z,trivial⟩) ?_))))))));rintro ⟨i,T,u⟩ ⟨hi0,r,hTl,hdl,hD⟩;dsimp only at hi0 r hTl hdl hD⊢;refine AD (AD (AF (ch Z Z (ch Z Z (J (I2 Z (by rw[χ,y]) E0 Z) (J (At Z Z Z) (AC (A5 Z (λO=>?_) (λO=>?_)))))))))
  .refine AU (AD (AX (AD (AD ?_))));have hin:i<n:=BF O;have c:i<l.length:=by omega
   refine AF (ch Z Z (ch Z Z (ch Z Z (J (Al (i) Z Z (Z) (AP c) E0 Z BK Z) (J (BZ Z Z Ai Z) (J (Fe [12] (G6 u l[i] (by omega)) (by exact ⟨.inr ⟨_,_,Z,.own Z Z (by simp) (θ (by simp)),Z⟩,.inl Z,trivial⟩) Z Z) (AC (A5 Z (λN=>?_) (λN=>?_)))))))))
   .obtain ⟨hnf,hDn⟩:=oL hCs we c hD N;refine Aq (AF (ch Z Z (J (Ad Z Z (AJ (i+1) (by omega)) Z) (AB Z Z (AC ?_)))));exact ⟨(i+1,T,u),⟨by show i+1<=n;omega,by show _=(kf n C (i+1)).map _;rw[ae hnf,r],by show T.length<=i+1;omega,by show u.length<=(i+1)*30;omega,hDn⟩,by show n-(i+1)<n-i;omega,AR s [1,11,12] Z (Z) ⟨Z,Z,Z,Z,Z,trivial⟩⟩
   .have hfi:∀j,j<i->¬C i j:=λj hj hc=>N ((hD i c).2 ⟨j,hj,hc⟩);refine AU (AD (AF (AB Z Z ?_)));refine AC (AD (AD (AF (AB Z Z (AC (AX (IU 12 13 Ao Z Z Z Z (BC (α:=Nat×List Nat) (λq=>⟨99,[(3,(.ptr 1 0 0)),(7,(.d (Gl l))),(9,(.own 11 0 T.length)),(10,(.own 12 0 u.length)),(11,(.d (AE (i:Int)))),(12,(.own 13 0 (BQ E q.2).length)),(13,(.d (AE (q.1:Int))))],[(1,[B3 25 p]),(11,[.rowD 28 1 (T.map Gl)]),(12,[.rowD 3 1 (u.map AE)]),(13,[.rowD 3 1 ((BQ E q.2).map AE)])]⟩) (λq=>q.1<=n/\q.2=kR n C i q.1) (λq=>n-q.1) ((0,[])) (⟨κ _,Z⟩) (AR s [1,11,12,13] Z Z ⟨Z,Z,Z,Z,Z,Z,Z,trivial⟩) ?_))))))));rintro ⟨k,P⟩ ⟨hk0,K⟩;dsimp only at hk0 K⊢;refine AD (AD (AF (ch Z Z (ch Z Z (J (I2 Z (by rw[χ,y]) E0 Z) (J (At Z Z Z) (AC (A5 Z (λM=>?_) (λM=>?_)))))))))
    .refine AU (AD (AX (AD ?_)));have H:k<n:=BF M;have b:k<l.length:=by omega
     have hPl:P.length<=30:=by have:=R2 n k i C;rw[<-K] at this;omega
     refine Bq [[],[],[],[],[2,3],[2,3,4],rg 6,[],[],[7,8],[7,8,9],rg 11,rg 12,rg 13,rg 13,rg 13,rg 13,[0,1,2,3,4,5,6,7,8,9,10,11,12,15,16],[0,1,2,3,4,5,6,7,8,9,10,11,12,15,16,17],rg 19,rg 13,rg 13,[0,1,2,3,4,5,6,7,8,9,10,11,12,20,21],[0,1,2,3,4,5,6,7,8,9,10,11,12,20,21,22],rg 24,rg 25] mixed Z (B2 (Ay [3] Z Z (λ_=>Aa (Ap Z Z By Z Z Z)) (A7 7 Z Z (A7 7 Z Z (A7 11 Z Z (AK [57,58] Z (Al (i) Z Z (Z) (AP c) E0 Z BK Z) (AK [59] Z (BZ Z Z Ai Z) ?_)))))));refine AK [55,56,60] Z (Aj (RW p S hf l l[i] (by omega) w (w _ (ϑ c))) Z Z) (A7 7 Z Z (A7 13 Z Z (AK [62,63] Z (Al (k) Z Z (Z) (AP b) E0 Z BK Z) (AK [64] Z (BZ Z Z Ai Z) (BV 11 Z Z Z (A0 12 Z Z (J (Aj (G6 (kA (lF p) l l[i]) l[k] (by have:=W _ (ϑ c);omega)) Z Z) (AC ⟨Z,?_⟩))))))));refine A0 13 Z Z (ch Z Z (C7 67 Z (λB=>?_) (λB=>?_)))
     .refine AC ⟨Z,?_⟩;refine B2 (Ay [3,67] Z Z (λ_=>BR Z Z Z (Ap Z Z By Z Z Z)) (A1 [7,67] [] Z Z (λ_=>BR Z Z Z (FW Z Z)) (A1 [7,67] [] Z Z (λ_=>BR Z Z Z (FW Z Z)) (A1 [13,67] [] Z Z (λ_=>BR Z Z Z (FW Z Z)) (A1 [70,71,67] [] Z Z (λ_=>BR Z Z Z (Al (k) Z Z (Z) (AP b) E0 Z BK Z)) (A1 [72,67] [] Z Z (λ_=>BR Z Z Z (BZ Z Z Ai Z)) (A1 [68,69,73,67] [] Z Z (λ_=>BR Z Z Z (Aj (RW p S hf l l[k] (by omega) w (w _ (ϑ b))) Z Z)) ?_)))))));refine A1 [7,67] [] Z Z (λ_=>BR Z Z Z (FW Z Z)) (A1 [11,67] [] Z Z (λ_=>BR Z Z Z (FW Z Z)) (A1 [75,76,67] [] Z Z (λ_=>BR Z Z Z (Al (i) Z Z (Z) (AP c) E0 Z BK Z)) (A1 [77,67] [] Z Z (λ_=>BR Z Z Z (BZ Z Z Ai Z)) (BV 24 Z Z Z (A0 25 Z Z (AT Z Z Z (J (Aj (G6 (kA (lF p) l l[k]) l[i] (by have:=W _ (ϑ b);omega)) Z Z) (AC ⟨Z,?_⟩))))))));refine A0 26 Z Z (J (B8 Z Z Z Z) (AC ⟨Z,?_⟩));refine Bb (A5 Z (λA=>?_) (λA=>?_))
      .refine AF ?_;refine ch Z Z (ch Z Z (ch Z Z (J (Al (k) Z Z (Z) (AP b) E0 Z BK Z) (J (BZ Z Z Ai Z) (V (CF 51 Ao Z Z Z Z Z Z Z Z) (V (DN ((BQ E P)) ([l[k]]) Z Z Z Z Z Z Z Z Ao (by rw[ET];simp only[ζ];omega) Z Z Z Z) (AB Z Z (AC ?_))))))))
       try rw[show BQ E P++ [l[k]]=BQ E (P++ [k]) by unfold BQ;rw[jy,g b];rfl]
       refine AF (ch Z Z (J (Ad Z Z (AJ (k+1) (by omega)) Z) (AB Z Z (AC ?_))));exact ⟨(k+1,P++ [k]),⟨H,by show _=kR n C i (k+1);rw[al ((t c b).1 ⟨B,A⟩),K]⟩,by show n-(k+1)<n-k;omega,AR s [1,11,12,13] Z (Z) ⟨Z,Z,Z,Z,Z,Z,Z,trivial⟩⟩
      .refine AU ?_
       try rw[show BQ E P++ [l[k]]=BQ E (P++ [k]) by unfold BQ;rw[jy,g b];rfl]
       refine AF (ch Z Z (J (Ad Z Z (AJ (k+1) (by omega)) Z) (AB Z Z (AC ?_))));exact ⟨(k+1,P),⟨H,by show _=kR n C i (k+1);rw[PO (by first | exact λh=>A ((t c b).2 h).2 | exact λh=>B ((t c b).2 h).1),K]⟩,by show n-(k+1)<n-k;omega,AR s [1,11,12,13] Z (Z) ⟨Z,Z,Z,Z,Z,Z,Z,trivial⟩⟩
     .refine AC ⟨Z,?_⟩;refine B2 (A1 [3,67] [] Z Z (λ_=>Bw Z Z Z Z) (A1 [7,67] [] Z Z (λ_=>Bw Z Z Z Z) (A1 [7,67] [] Z Z (λ_=>Bw Z Z Z Z) (A1 [13,67] [] Z Z (λ_=>Bw Z Z Z Z) (A1 [70,71,67] [] Z Z (λ_=>Bw Z Z Z Z) (A1 [72,67] [] Z Z (λ_=>Bw Z Z Z Z) ?_))))));refine A1 [68,69,73,67] [] Z Z (λ_=>Bw Z Z Z Z) (A1 [7,67] [] Z Z (λ_=>Bw Z Z Z Z) (A1 [11,67] [] Z Z (λ_=>Bw Z Z Z Z) (A1 [75,76,67] [] Z Z (λ_=>Bw Z Z Z Z) (A1 [77,67] [] Z Z (λ_=>Bw Z Z Z Z) (BV 24 Z Z Z (A0 25 Z Z (AN Z Z Z Z (AC ⟨Z,?_⟩))))))));refine A0 26 Z Z (J (Bx Z Z Z Z) (AC ⟨Z,?_⟩));refine Bb (Cq Z Z (AU ?_))
      try rw[show BQ E P++ [l[k]]=BQ E (P++ [k]) by unfold BQ;rw[jy,g b];rfl]
      refine AF (ch Z Z (J (Ad Z Z (AJ (k+1) (by omega)) Z) (AB Z Z (AC ?_))));exact ⟨(k+1,P),⟨H,by show _=kR n C i (k+1);rw[PO (by first | exact λh=>A ((t c b).2 h).2 | exact λh=>B ((t c b).2 h).1),K]⟩,by show n-(k+1)<n-k;omega,AR s [1,11,12,13] Z (Z) ⟨Z,Z,Z,Z,Z,Z,Z,trivial⟩⟩
    .refine Aq (AD ?_);have Y:k=n:=by have:=M;omega
     have z:P=(List.range n).filter λj=>dec (C i j):=by rw[K,Y];rfl
     have hPl2:P.length<=30:=by have:=R2 n k i C;rw[<-K] at this;omega
     have hDa:=oM (E:=E) hI G g y hCs hCr we hD z;refine Fb (emb:=AE) 12 13 (BQ E P) Z Z Z Z Z Z Z (AF (ch Z Z (ch Z Z (V (Jr (u) ((BQ E P)) Z Z Z Z Z Z (λ_=>rfl) Ao (by rw[ET];omega) Z Z Z Z) ?_))));refine AB Z Z (AC (AD (AF (ch Z Z (J (I2 Z (by rw[χ,ET]) E0 Z) (J (H4 Z Z Z) (AC (A5 Z (λL=>?_) (λL=>?_)))))))))
     .refine AF (ch Z Z (ch Z Z ?_));refine V (CF 52 Ih Z Z Z Z Z Z Z Z) (V (DN (T) ([BQ E P]) Z Z Z Z Z Z Z Z Ih (by simp only[ζ];omega) Z Z Z Z) (AB Z Z (AC (AF (ch Z Z (J (Ad Z Z (AJ (i+1) (by omega)) Z) (AB Z Z (AC ?_))))))));exact ⟨(i+1,T++ [BQ E P],u++BQ E P),⟨by show i+1<=n;omega,by show _=(kf n C (i+1)).map _;rw[eT hfi (by rw[<-z];have h:=L;omega),jy,r,<-z];rfl,by show (T++ [_]).length<=i+1;rw[Δ];simp only[ζ];omega,by show (u++_).length<=(i+1)*30;rw[Δ,ET];omega,hDa⟩,by show n-(i+1)<n-i;omega,AR s [1,11,12] Z (Z) ⟨Z,Z,Z,Z,Z,trivial⟩⟩
     .refine AU (AF (ch Z Z (J (Ad Z Z (AJ (i+1) (by omega)) Z) (AB Z Z (AC ?_)))));exact ⟨(i+1,T,u++BQ E P),⟨by show i+1<=n;omega,by show _=(kf n C (i+1)).map _;rw[eS (by rw[<-z];have h:=L;omega),r],by show T.length<=i+1;omega,by show (u++_).length<=(i+1)*30;rw[Δ,ET];omega,hDa⟩,by show n-(i+1)<n-i;omega,AR s [1,11,12] Z (Z) ⟨Z,Z,Z,Z,Z,trivial⟩⟩
  .refine Aq (AD ?_);have hie:i=n:=by have:=O;omega
   refine Fb (emb:=Gl) 9 11 T Z Z Z Z Z Z Z ?_;rw[show T=lD (j1 p) E by rw[r,hie,X];rfl];refine AF (ch Z Z (AB Z Z (AC (A4 ?_))));exact ⟨_,[],[],A2 Z,Z,Z,Z,Z⟩
theorem qL(a:List AW)(E:List (cl×Nat)):(lD a E).length<=E.length/\∀x∈lD a E,x.length<=E.length:=by grind[lD,WM,Xz,ET,Zb]
theorem nW(a:List AW)(E:List (cl×Nat)):(ll a E).length<=E.length/\∀x∈ll a E,x.length<=E.length:=by
 unfold ll;refine ⟨by rw[χ,Xz];exact Θ _,λx c=>?_⟩;obtain ⟨y,b,rfl⟩:=Γ.1 c;rw[ET];obtain ⟨k,f,rfl⟩:=mK.1 b;exact (gq f).2
theorem iH(p:hU)(l:List Int):(JL p l).length<=p.it.length:=by grind[JL,Nr]
theorem iI(p:hU):(kD p).length<=p.it.length:=by rw[T0];exact iH p _
theorem iK(p:hU):(Lm p).length=p.it.length:=by unfold Lm;rw[χ,Nr]
theorem rK{l:List (List Int)}(h:l.length<=c/\∀x∈l,x.length<=c)(a:c<=100000):l.length<=100000/\∀x∈l,x.length<=100000:=by grind
theorem fz(l:List (List Int))(h:l.length<=100000/\∀x∈l,x.length<=100000):AI prog 18 [.d (Wd l),.d (Wd l)] (Am true):=by grind[Mm]
end Go.Proofs.YteifpcnphnhaoaaGreat
namespace Go.Proofs.YteifpcnphnhaoaaGreat
open Go.ChangeShapes Go.WideShapes Go.ChangeAt Go.RowKit
section
variable{H:Type}{enc:TypeId×Value->H}{w:World}
abbrev tt{α:Type}:α->Prop:=λ_=>True
theorem oI:C8 enc prog w 3 1 AE tt:=(Yj underlying3).asQ id (λ_ _=>rfl) (λ_ _=>trivial)
theorem oJ:C8 enc prog w 2 1 AE tt:=(Yj underlying2).asQ id (λ_ _=>rfl) (λ_ _=>trivial)
theorem oS:C8 enc prog w 9 1 Ak tt:=(fI underlying9).asQ id (λ_ _=>rfl) (λ_ _=>trivial)
theorem y3:C8 enc prog w 28 1 (λl:List Int=> .sl none (l.map AE)) tt:=(PQ E0 (by kernel_rfl) (by omega) (b:=8) (by kernel_rfl) oI).asQ id (λ_ _=>rfl) (λ_ _=>trivial)
theorem wS:C8 enc prog w 96 3 yI tt:=
 (KY underlying96 (by kernel_rfl) (CQ Z (by kernel_rfl) oS (CQ Z (by kernel_rfl) oI (CQ Z (by kernel_rfl) oS KZ)))).asQ (λa=>(⟨a.1,a.2.1,a.2.2.1⟩:W7)) (λ_ _=>rfl) (λ_ _=>trivial)
theorem wR:C8 enc prog w 192 4 Bd tt:=
 (KY underlying192 (by kernel_rfl) (CQ Z (by kernel_rfl) wS (CQ Z (by kernel_rfl) oJ KZ))).asQ (λa=>(⟨a.1,a.2.1⟩:Fd)) (λ_ _=>rfl) (λ_ _=>trivial)
theorem xq:C8 enc prog w 193 3 Cy tt:=
 (KY underlying193 (by kernel_rfl) (CQ Z (by kernel_rfl) oS (CQ Z (by kernel_rfl) oS (CQ Z (by kernel_rfl) oJ KZ)))).asQ (λa=>(⟨a.1,a.2.1,a.2.2.1⟩:NR)) (λ_ _=>rfl) (λ_ _=>trivial)
theorem xn:C8 enc prog w 98 6 Bm tt:=
 (KY underlying98 (by kernel_rfl) (CQ Z (by kernel_rfl) oI (CQ Z (by kernel_rfl) wS (CQ Z (by kernel_rfl) oS (CQ Z (by kernel_rfl) oS KZ))))).asQ (λa=>(⟨a.1,a.2.1,a.2.2.1,a.2.2.2.1⟩:AW)) (λ_ _=>rfl) (λ_ _=>trivial)
theorem xr:C8 enc prog w 93 6 Ah tt:=
 (KY underlying93 (by kernel_rfl) (CQ Z (by kernel_rfl) oI (CQ Z (by kernel_rfl) oI (CQ Z (by kernel_rfl) oI
  (CQ Z (by kernel_rfl) (PQ R5 (by kernel_rfl) (by omega) (b:=48) (by kernel_rfl) wR)
  (CQ Z (by kernel_rfl) (PQ an (by kernel_rfl) (by omega) (b:=40) (by kernel_rfl) xq) (CQ Z (by kernel_rfl) y3 KZ))))))).asQ
  (λa=>(⟨a.1,a.2.1,a.2.2.1,a.2.2.2.1,a.2.2.2.2.1,a.2.2.2.2.2.1⟩:cl)) (λ_ _=>rfl) (λ_ _=>trivial)
theorem xo:C8 enc prog w 100 7 BY tt:=
 (KY underlying100 (by kernel_rfl) (CQ Z (by kernel_rfl) xn (CQ Z (by kernel_rfl) oJ KZ))).asQ (λa=>(⟨a.1,a.2.1⟩:ey)) (λ_ _=>rfl) (λ_ _=>trivial)
theorem xp:C8 enc prog w 25 2 BG tt:=
 (KY underlying25 (by kernel_rfl) (CQ Z (by kernel_rfl) (PQ No (by kernel_rfl) (by omega) (b:=88) (by kernel_rfl) xo) (CQ Z (by kernel_rfl) (PQ F0 (by kernel_rfl) (by omega) (b:=96) (by kernel_rfl) xr) KZ))).asQ
  (λa=>(⟨a.1,a.2.1⟩:hU)) (λ_ _=>rfl) (λ_ _=>trivial)
end
end Go.Proofs.YteifpcnphnhaoaaGreat
