import Derived.Test.YteifpcnphnhaoaaGreatMg20
open Go.Proofs.Tryz
set_option maxHeartbeats 4000000
namespace Go.Proofs.YteifpcnphnhaoaaGreat
open Go.RowKit
variable{a:iB}
set_option maxRecDepth 100000
abbrev cP(x:Int×gf):D:= .agg [AE x.1,AE x.2.r.k,Am x.2.r.acc.o,AE x.2.r.acc.k,Am x.2.r.acc.a,Am x.2.r.f,Am x.2.r.t,AE x.2.n]
noncomputable def kE(p:iB)(id:Int):List gf:=Jq p (Aw (jz p [id]))
noncomputable def kY(p:iB)(id:Int):Option (Int×gf):=if id∈gg p then none else (kE p id).head?.map λx=>(id,x)
noncomputable def kp(p:iB):List (Int×gf):=((fl p.it).map dr.id).filterMap (kY p)
theorem Lx{id:Int}(h:id∈gg a):kY a id=none:=ϱ h
theorem WP{id:Int}(h:¬0<(kE a id).length):kY a id=none:=by grind[kY]
theorem Tf{id:Int}(b:id∉gg a)(h:0<(kE a id).length):kY a id=some (id,(kE a id)[0]):=by
 unfold kY;rw[υ b,List.head?_eq_getElem?,ω h]
 rfl
theorem Jg{a b:Type}{f:a->Option b}{l:List a}{k:Nat}(c:k<l.length):(l.take (k+1)).filterMap f=(l.take k).filterMap f++(f l[k]).toList:=by grind[ψ]
theorem uU(b:CY a)(f:Ad a=0):PV a:=⟨f,b.b,by have:=b.i;omega,by have:=b.r;omega,λi c=>by have:=b.x i c;omega⟩
theorem Tb(b:Ad a=0){l:List Int}(c:l.Nodup)(g:∀x∈l,x∈a.it.map dr.id):EZ a l=0:=by
 unfold EZ;rw[υ (by omega)];unfold Sc;refine Tr.2 λk f=>?_
 grind[IQ,OM]
theorem Ta{S:List Int}:∀y∈jz a S,y∈a.it.map dr.id:=by grind[jz,jR]
theorem Z5(b:Ad a=0)(S:List Int):(jz a S).Nodup:=by
 unfold jz;exact (jR _).nodup_iff.2 (List.Nodup.sublist lp (Xy (HZ b).2.1))
theorem pI{l:List gf}(h:0<l.length):(l.map BT)[0]? =some (BT l[0]):=AP h
theorem bu(p:iB)(u:CY p)(i:Ad p=0):AI prog 31 [.d (BM p)] (.tup [.sl none ((kp p).map cP),AE 0]):=by
 have C:=K4 p u i;have O:=u.i;have B:=u.r;have g:=Ii p u.b;rw[show hY p=fl p.it from ϱ i] at g;have P:=Ec i;have H:=O2 p.it;have w:=λ{id:Int} (c:id∈p.it.map dr.id)=>qL p [id] u.b (by simp) (by omega) (by omega) (Tb i (by simp) λx t=>by rw[ξ.1 t];exact c) (by simp) λx t=>by rw[ξ.1 t];exact c
 have v:∀id:Int,AI prog 28 [.d (BM p),.d (FW (jz p [id]))] (.tup [.sl none ((kE p id).map BT),AE 0]):=λid=>by
  have h:=nZ p (jz p [id]) u.b (by have:=WG (p:=p) (l:=[id]);omega);rw[Tb i (Z5 i _) Ta,ϱ rfl] at h;exact h
 obtain ⟨L,z⟩:∃L,(fl p.it).map dr.id=L:=⟨_,Z⟩
 have S:L.length<=30:=by rw[<-z,χ,H];omega
 have I:∀x∈L,x∈p.it.map dr.id:=λx t=>by rw[<-z] at t;exact ((KI p.it).map dr.id).mem_iff.1 t
 have E:kp p=L.filterMap (kY p):=by unfold kp;rw[z]
 rw[z] at g;rw[E];refine Av func31 Z Z ntmps31 Z Z Z λF A=>?_;refine AD (AF (V (Ba 1 Z Z Z Z Z Z Z) (AB Z Z (AB Z Z (AC (AD (AF (J (Ar Z Z CG Z Z Z) ?_))))))));refine J (Ak (C) Z Z) (cl Z Z (J (DI Z Z Z) (J (DI Z Z Z) (AB Z Z (AB Z Z (AC (AD (AD ?_))))))));refine AF (cl Z Z (J (DP Z Z Z) (AC (Cr Z (kD (by decide)) (AU (AD (AF (cl Z Z ?_))))))));refine Cy (Zi (Gw (gg p) (G3 i) (by omega)) Z [41] ⟨Z,trivial⟩ Z Z Z Z (λr U ⟨b,N,M,K,_⟩=>by subst M K;exact ⟨Z,Z,Z⟩) Z) Z ?_;rintro _ ⟨r,U,⟨b,N,M,K,R⟩,rfl⟩;subst M K;refine AB Z Z (AC (AD (AF (AB Z Z (AC (AD (AD ?_)))))));refine AF (J (Ar Z Z CG Z Z Z) (J (Ak (g) Z Z) (J (BW Z E0 Z) (cl Z Z (AC (AX (IY 7 10 sy Z Z Z Z (BC (α:=Nat×List (Int×gf)) (λq=>⟨65,[(1,(.ptr 1 0 0)),(6,(.d (Zt b))),(7,(.own 10 0 q.2.length)),(25,(.d (FW L))),(26,(.d (AE (L.length:Int)))),(27,(.d (AE (q.1:Int))))],[(1,[.blk 39 [.d (.sl none (p.ro.map BT)),.d (.sl none (p.it.map Ah))]]),(41,[.multi N]),(10,[.rowD 66 8 (q.2.map cP)])]⟩) (λq=>q.1<=L.length/\q.2=(L.take q.1).filterMap (kY p)/\q.2.length<=q.1) (λq=>L.length-q.1) ((0,[])) (⟨κ _,Z,κ _⟩) (AR A [1,41,10] Z Z ⟨Z,Z,Z,Z,Z,Z,trivial⟩) ?_))))))));rintro ⟨k,T⟩ ⟨Q,y,G⟩;dsimp only at Q y G⊢;refine AD (AF (J (At Z Z Z) (AC (AD (A4 Z (λs=>?_) (λs=>?_))))))
 .refine AU (AD (AX (AD ?_)));have a:k<L.length:=BG s;have c:=I _ (ϑ a);refine AF (J (Al (k) Z Z (Z) (AP a) E0 Z BE Z) (J (BZ Z Z Ag Z) (AB Z Z ?_)));refine AC (AD (AD (AF (cl Z Z (cl Z Z (V (cQ (JW R L[k]) Z [41] ⟨Z,trivial⟩ Z Z Z Z Z Z Z Z Z) (AC (A4 Z (λo=>?_) (λo=>?_)))))))))
  .refine Aq (AF (J (Ac Z Z (AJ (k+1) (by omega)) Z) (cl Z Z (AC ?_))));exact ⟨(k+1,T),⟨a,by show _=(L.take (k+1)).filterMap _;rw[Jg a,Lx o,y];simp,by show T.length<=k+1;omega⟩,by show L.length-(k+1)<L.length-k;omega,AR A [1,41,10] Z (Z) ⟨Z,Z,Z,Z,Z,Z,trivial⟩⟩
  .refine AU (AD (AF (J (Ar Z Z CG Z Z Z) (cl Z Z (V (CB 20 Ap Z Z Z Z Z Z Z Z) ?_)))));refine WY (emb:=AE) 37 20 [L[k]] Z Z Z Z Z Z Z (V (F8 (w c) Z [900] ⟨Z,trivial⟩ Z Z Z Z Z Z Z Z Z) (cl Z Z (J (D6 Z Z Z) (J (D6 Z Z Z) (AB Z Z (AB Z Z (AC (AD ?_))))))));refine Fi (emb:=AE) 10 900 (jz p [L[k]]) Z Z Z Z Z Z Z (AF (J (Ar Z Z CG Z Z Z) (cl Z Z (J (Ak (v L[k]) Z Z) (cl Z Z (J (DI Z Z Z) (J (DI Z Z Z) (AB Z Z ?_))))))));refine AB Z Z (AC (AD (AF (cl Z Z (J (IR Z (χ ..) underlying69 Z) (J (H1 Z Z Z) (AC (A4 Z (λj=>?_) (λj=>?_)))))))))
   .have f:0<(kE p L[k]).length:=BG j;refine Bm [[],[],[],[2],[2,3],[2,3,4],[],[6],[6,7],[6,7,8],[1,2,3,4,5,6,7,8,9],[1,2,3,4,5,6,7,8,9,10],rg 12,rg 13] mixed Z (BY (A7 7 Z Z (A7 9 Z Z (A7 12 Z Z (AK [52] Z (Al (0) Z Z (Z) (pI f) underlying69 Z v9 Z) (AK [53] Z (Jy Z uS Z Z Z) (AK [54] Z (CT Z Z Cw Z) (A7 12 Z Z ?_))))))));refine AK [56] Z (Al (0) Z Z (Z) (pI f) underlying69 Z v9 Z) (AK [57] Z (IJ Z uR Z Z Z) (AK [58] Z (BZ Z Z FK Z) (AK [51,55,59] Z (Dx xX xp Z Z Z) (Cq [60] [30] [(61,_)] Z Z (λ_=>Cd (CB 30 sy Z Z Z Z Z Z Z Z)) (.inr ⟨61,_,Z,Z,Z,Z,Z⟩) Z Z Z Z Z (BR 12 Z Z Z (AZ 13 Z Z (V (DQ (T) ([(L[k],(kE p L[k])[0])]) Z Z Z Z Z Z Z Z sy (by simp only[η];omega) Z Z Z Z) (AC ⟨Z,?_⟩))))))));refine AZ 14 Z Z (AB Z Z (AC ⟨Z,?_⟩));refine Bb (AF (J (Ac Z Z (AJ (k+1) (by omega)) Z) (cl Z Z (AC ?_))));exact ⟨(k+1,T++ [(L[k],(kE p L[k])[0])]),⟨a,by show _=(L.take (k+1)).filterMap _;rw[Jg a,Tf o f,y];rfl,by show (T++ [_]).length<=k+1;rw[Δ];simp only[η];omega⟩,by show L.length-(k+1)<L.length-k;omega,AR A [1,41,10] Z (Z) ⟨Z,Z,Z,Z,Z,Z,trivial⟩⟩
   .refine AU (AF (J (Ac Z Z (AJ (k+1) (by omega)) Z) (cl Z Z (AC ?_))));exact ⟨(k+1,T),⟨a,by show _=(L.take (k+1)).filterMap _;rw[Jg a,WP (λh=>j (by exact_mod_cast h)),y];simp,by show T.length<=k+1;omega⟩,by show L.length-(k+1)<L.length-k;omega,AR A [1,41,10] Z (Z) ⟨Z,Z,Z,Z,Z,Z,trivial⟩⟩
 .refine Aq (AD ?_);have D:k=L.length:=by have:=s;omega
  refine Fi (emb:=cP) 7 10 T Z Z Z Z Z Z Z ?_;rw[show T=L.filterMap (kY p) by rw[y,D,kW]];refine AF (cl Z Z (AB Z Z (AB Z Z (AC (A5 ?_)))));exact ⟨_,[],[],A2 Z,Z,Z,Z,Z⟩
theorem eR(p:iB)(D:CY p)(M:Ad p=0):AI prog 22 [.d (BM p),.d (FW (gg p))] (.sl none ((kp p).map cP)):=by
 have L:=D.i;have z:=D.r;have t:=uU D M;have s:=Ey p.it (by omega);have I:=O2 p.it;have N:=Ec M;have u:=λ{id:Int} (g:id∈p.it.map dr.id)=>eP p [id] t (by simp) (by simp) λx w=>by rw[ξ.1 w];exact g
 have r:∀id:Int,AI prog 63 [.d (BM p),.d (FW (jz p [id]))] (.sl none ((kE p id).map BT)):=λid=>cd p (jz p [id]) t (by have:=WG (p:=p) (l:=[id]);omega) Ta
 obtain ⟨S,K⟩:∃S,fl p.it=S:=⟨_,Z⟩
 have H:∀x∈S,x.id∈p.it.map dr.id:=λx w=>by rw[<-K] at w;exact mo ((KI p.it).mem_iff.1 w)
 have E:kp p=(S.map dr.id).filterMap (kY p):=by unfold kp;rw[K]
 rw[K] at s I;rw[E];have A:(S.map dr.id).length=S.length:=χ _;have f:∀{k:Nat} (C:k<S.length) (O:k<(S.map dr.id).length),(S.map dr.id)[k]=S[k].id:=λC O=>kR ..;refine Av func22 Z Z ntmps22 Z Z Z λF y=>(AD (AF (V (Ba 1 Z Z Z Z Z Z Z) (AB Z Z (AC (AD ?_))))));refine AF (AB Z Z (AC (AD (AF (J (AL Z JS Z Z Z) (J (AQ Z Z Z DE Z) (J (Ak (s) Z Z) (AB Z Z ?_))))))));refine AC (AD (AD (AF (AB Z Z (AC (AX (IY 5 10 sx Z Z Z Z (BC (α:=Nat×List (Int×gf)) (λq=>⟨58,[(1,.d (FW (gg p))),(2,(.ptr 1 0 0)),(5,(.own 10 0 q.2.length)),(6,(.d (.sl none (S.map Ah)))),(7,(.d (AE (q.1:Int))))],[(1,[.blk 25 [.d (.sl none (p.ro.map BT)),.d (.sl none (p.it.map Ah))]]),(10,[.rowD 114 8 (q.2.map cP)])]⟩) (λq=>q.1<=S.length/\q.2=((S.map dr.id).take q.1).filterMap (kY p)/\q.2.length<=q.1) (λq=>S.length-q.1) ((0,[])) (⟨κ _,Z,κ _⟩) (AR y [1,10] Z Z ⟨Z,Z,Z,Z,Z,trivial⟩) ?_))))))));rintro ⟨k,T⟩ ⟨C,v,G⟩;dsimp only at C v G⊢;refine AD (AD (AF (cl Z Z (cl Z Z (J (IR Z (χ ..) No Z) (J (At Z Z Z) (AC (A4 Z (λo=>?_) (λo=>?_)))))))))
 .refine AU (AD (AX (AD (AD ?_))));have a:k<S.length:=BG o;have b:k<(S.map dr.id).length:=by omega
  have g:=H _ (ϑ a);refine AF ?_;refine cl Z Z (cl Z Z (cl Z Z (J (Al (k) Z Z (Z) (AP a) No Z CP Z) (J (IJ Z ST Z Z Z) (J (BZ Z Z Ag Z) (J (Ak (DG (gg p) S[k].id (by omega)) Z Z) (AC (A4 Z (λj=>?_) (λj=>?_)))))))))
  .refine Aq (AF (cl Z Z (J (Ac Z Z (AJ (k+1) (by omega)) Z) (AB Z Z (AC ?_)))));exact ⟨(k+1,T),⟨a,by show _=((S.map dr.id).take (k+1)).filterMap _;rw[Jg b,f a b,Lx j,v];simp,by show T.length<=k+1;omega⟩,by show S.length-(k+1)<S.length-k;omega,AR y [1,10] Z (Z) ⟨Z,Z,Z,Z,Z,trivial⟩⟩
  .refine AU (AD (Bm [[],[],[],[1,2],[1,2,3],[1,2,3,4],[1,2,3,4,5],rg 7,rg 8] mixed Z (BY (A1 [2] [1] Z Z (λ_=>A9 (Ar Z Z Bx Z Z Z)) (A7 6 Z Z (A7 7 Z Z ?_))))));refine AK [27,28] Z (Al (k) Z Z (Z) (AP a) No Z CP Z) (AK [29] Z (IJ Z ST Z Z Z) (AK [30] Z (BZ Z Z Ag Z) (Cq [31] [20] [(32,_)] Z Z (λ_=>Cd (CB 20 Ap Z Z Z Z Z Z Z Z)) (.inr ⟨32,_,Z,Z,Z,Z,Z⟩) Z Z Z Z Z (BR 7 Z Z Z (AZ 8 Z Z (WY (emb:=AE) 32 20 [S[k].id] Z Z Z Z Z Z Z (J (Ak (u g) Z Z) (AC ⟨Z,?_⟩))))))));refine AZ 9 Z Z (AB Z Z (AC ⟨Z,?_⟩));refine Bb (AD (AF (J (Ar Z Z Bx Z Z Z) (cl Z Z (J (Ak (r S[k].id) Z Z) ?_)))));refine AB Z Z (AC (AD (AF (cl Z Z (J (IR Z (χ ..) underlying117 Z) (J (H1 Z Z Z) (AC (A4 Z (λi=>?_) (λi=>?_)))))))))
   .have c:0<(kE p S[k].id).length:=BG i;refine Bm [[],[],[],[1,2],[1,2,3],[1,2,3,4],[],[6],[6,7],[6,7,8],[],[10],[10,11],[10,11,12],[1,2,3,4,5,6,7,8,9,10,11,12,13],[1,2,3,4,5,6,7,8,9,10,11,12,13,14],rg 16,rg 17] mixed Z (BY (A7 5 Z Z (A7 6 Z Z ?_)));refine A7 7 Z Z (AK [41,42] Z (Al (k) Z Z (Z) (AP a) No Z CP Z) (AK [43] Z (IJ Z ST Z Z Z) (AK [44] Z (BZ Z Z Ag Z) (A7 9 Z Z (AK [46] Z (Al (0) Z Z (Z) (pI c) underlying117 Z rV Z) (AK [47] Z (Jy Z pX Z Z Z) (AK [48] Z (CT Z Z C4 Z) (A7 9 Z Z ?_))))))));refine AK [50] Z (Al (0) Z Z (Z) (pI c) underlying117 Z rV Z) (AK [51] Z (IJ Z pW Z Z Z) (AK [52] Z (BZ Z Z FK Z) (AK [45,49,53] Z (Dx vZ wO Z Z Z) (Cq [54] [30] [(55,_)] Z Z (λ_=>Cd (CB 30 sx Z Z Z Z Z Z Z Z)) (.inr ⟨55,_,Z,Z,Z,Z,Z⟩) Z Z Z Z Z (BR 16 Z Z Z (AZ 17 Z Z (V (DQ (T) ([(S[k].id,(kE p S[k].id)[0])]) Z Z Z Z Z Z Z Z sx (by simp only[η];omega) Z Z Z Z) (AC ⟨Z,?_⟩))))))));refine AZ 18 Z Z (AB Z Z (AC ⟨Z,?_⟩));refine Bb (AF (cl Z Z (J (Ac Z Z (AJ (k+1) (by omega)) Z) (AB Z Z (AC ?_)))));exact ⟨(k+1,T++ [(S[k].id,(kE p S[k].id)[0])]),⟨a,by show _=((S.map dr.id).take (k+1)).filterMap _;rw[Jg b,f a b,Tf j c,v];rfl,by show (T++ [_]).length<=k+1;rw[Δ];simp only[η];omega⟩,by show S.length-(k+1)<S.length-k;omega,AR y [1,10] Z (Z) ⟨Z,Z,Z,Z,Z,trivial⟩⟩
   .refine AU (AF (cl Z Z (J (Ac Z Z (AJ (k+1) (by omega)) Z) (AB Z Z (AC ?_)))));exact ⟨(k+1,T),⟨a,by show _=((S.map dr.id).take (k+1)).filterMap _;rw[Jg b,f a b,WP (λh=>i (by exact_mod_cast h)),v];simp,by show T.length<=k+1;omega⟩,by show S.length-(k+1)<S.length-k;omega,AR y [1,10] Z (Z) ⟨Z,Z,Z,Z,Z,trivial⟩⟩
 .refine Aq (AD ?_);have B:k=S.length:=by have:=o;omega
  refine Fi (emb:=cP) 5 10 T Z Z Z Z Z Z Z ?_;rw[show T=(S.map dr.id).filterMap (kY p) by rw[v,B,<-A,kW]];refine AF (cl Z Z (AB Z Z (AC (A5 ?_))));exact ⟨_,[],[],A2 Z,Z,Z,Z,Z⟩
end Go.Proofs.YteifpcnphnhaoaaGreat
namespace Go.Proofs.YteifpcnphnhaoaaGreat
open Go.RowKit Go.Shelf
open Go.Sort (putRow Holds PermIn SortedIn SWO mapBlock onCells putCells)
variable{P:Program}
section
variable{ρr:Ren}{τ:Type}
theorem dQ(L:SlLaysF.n6 P ρr){E:TypeId}{g g6:FuncId}{fn:Func}(hfn:P.funcs[g]? =some fn)(hnm:(fn.name== "runtime.NumGoroutine")=false){c:Code}(hbody:fn.body=some c){A:τ->D}(hag:∀x,(A x).cells=[A x])(cf:τ->τ->Int)(hO:SWO (ltOf cf))(l V:List τ)(M:List D)(hsz:l.length<4611686018427387904)(hc:∀x∈l,∀y∈l,AI P g [.d (A x),.d (A y)] (.raw (.int .i64 (cf x y))))(hu:∀ys:List τ,ys.Perm l->ys.Pairwise (λa b=>¬cf b a<0)->ys=V){F:Fr}{s:AS}{d:Nat}{x y:Operand}{ty:TypeId}{pos:String}{aft:Array Edge}{gd:Option (Nat×Bool)}{at_:Array TypeId}{f n:Nat}{fa:AV}{row:List D}{hp':Hp}(hg:ρr.f 6=g6)(hx:s.ev x=some (.own f 0 n))(hy:s.ev y=some fa)(hfa:∀w O R v,A8 w O R fa v->v= .func (.func g) #[] #[])(ho:dd s.hp f 0=some (.rowD E 1 row))(hrow:row=l.map A++M)(hn:n=l.length)(hh:Be s.hp f 0 (.rowD E 1 (V.map A++M))=some hp')(hd:Nat.blt d s.n=true):
  AH P F ⟨some d,.call {callee:= .value (.func g6),args:= #[x,y],argTypes:=at_},ty,pos,aft,gd⟩ s ⟨s.n,(d,.d (.tup []))::s.env,hp'⟩ (λ_ _=>true):=by
 subst hg hrow hn;intro R act w hs
 obtain ⟨fn6,hf1,hf2,hf3⟩:∃fn,P.funcs[ρr.f 6]? =some fn/\(fn.name== "runtime.NumGoroutine")=false/\fn.body.isSome=true:=by
  obtain ⟨nm,hn,hf⟩:=L.f6;exact ⟨_,hf,hn,Z⟩
 unfold Oper.wp;rw[show (#[x,y]:Array Operand)=[x,y].toArray from rfl,DW hf1 hf2 hf3,Oper.upon_enter]
 suffices key:Calls P (ρr.f 6) ([x,y].map act.eval).toArray w λe w'=>e= .returned (.tuple #[])/\SR F ⟨s.n,s.env,hp'⟩ R act w' by
  refine key.mono λe w' ⟨T,hsr⟩=>?_;subst T;exact ⟨R,hsr.put (I0 hd) (.d (.tup Z λi c v hc=>by cases hc)),λ_ _ _=>rfl⟩
 have r0:=hs.ev hx;have r1:=hfa _ _ _ _ (hs.ev hy);have hg0:=ho;have h3:=hs.heap;have S:=BB hh;obtain ⟨us,q1,q2,q3⟩:=h3.sim f 0 _ hg0;show Calls P (ρr.f 6) #[act.eval x,act.eval y] w _;rw[r1]
 generalize act.eval x=V0 at r0
 cases r0 with
 | own hρ hle=>
  rename_i N K a
  by_cases hx:l=[]
  .subst hx;refine (AnyF.slices_SortFunc_none {L with} a K _ w).mono λe w' ⟨T,e2⟩=>?_;subst T e2;refine ⟨Z,hs.writeG f 0 _ _ ho S Z Z Z (Θ _) (Θ _) (λ_ _ _=>rfl) (λ_ _ e=>by cases e) λhrep=>?_⟩;rw[<-hu [] (List.Perm.refl _) List.Pairwise.nil]
   have hO2:∀t,F.O R hp' t->F.O R s.hp t:=λt h=>h.imp id λ⟨g,i,o,J,Y⟩=>by
    rw[S] at J
    split at J
    .rename_i e;obtain ⟨rfl,rfl⟩:=e;exact ⟨g,0,_,hg0,Y⟩
    .exact ⟨g,i,o,J,Y⟩
   exact ⟨us,q1,⟨q2.1,q2.2.1,λi x hx j c hc=>by
    obtain ⟨u,J,Y,h4⟩:=q2.2.2 i x hx j c hc
    exact ⟨u,J,Y,h4.mono (Θ _) (λ_ _ _=>rfl) λt _=>hO2 t⟩⟩,q3⟩
  .have hn:0<l.length:=mf.2 hx;have hul:us.length=l.length+M.length:=by have:=q2.1;rwa [Δ,χ,lz] at this
   have hblkeq:∃b B,a=some ⟨b,0,none⟩/\w.heap[b]? =some (.cells B E (0,0))/\B.size=K/\l.length+M.length<=K/\K<=maxLen/\B.toList.take (l.length+M.length)=us/\N=l.length+M.length:=by
    rcases q1.2 with ⟨_,h⟩ | ⟨b,cap',B,T,_,e2,e3,e4,e5,e6⟩
    .rw[Δ,χ] at h;omega
    .rw[hρ] at T;injection T with T e7 e8
     subst T e8;rw[Δ,χ] at e3 e6 e7;exact ⟨b,B,Z,e2,by omega,e3,e4,by rwa [lz] at e6,e7⟩
   obtain ⟨b,B,rfl,p1,p2,p3,p3',p4,rfl⟩:=hblkeq;have hb:CA (R f 0)=some b:=by rw[hρ];rfl
   have hOb:F.O R s.hp b:= .inr ⟨f,0,_,hg0,hb⟩;have hlt:b<w.heap.size:=(ll.1 p1).1;have hOl:∀t,F.O R s.hp t->t<w.heap.size:=λt h=>h3.ltO h
   have hus:∀i,i<l.length+M.length->us[i]? =B[i]?:=λi I=>by
    have h:=jr (·[i]?) p4
    change (B.toList.take (l.length+M.length))[i]? =us[i]? at h
    rw[ml I,mF] at h;exact h.symm
   let x0:τ:=l[0]
   let W:Nat->Nat:=λi=>if i<l.length then i else 0
   have X:∀i,W i<l.length:=λi=>by show (if _ then _ else _)<_;split<;>omega
   let el:Nat->τ:=λi=>(l[W i]?).getD x0
   have hel:∀i,el i∈l:=λi=>by
    show (l[W i]?).getD x0∈l;rw[ω (X i)];exact ϑ (X i)
   have heli:∀i (I:i<l.length),el i=l[i]:=λi I=>by
    show (l[W i]?).getD x0=_;rw[show W i=i from ϱ I,ω I];rfl
   let r:Nat->Value:=λi=>(us[W i]?).getD undef
   have henc:∀i,us[W i]? =some (r i):=λi=>by
    have h:W i<us.length:=by have:=X i;omega
    show us[W i]? =some ((us[W i]?).getD undef);rw[ω h];rfl
   let cf':Nat->Nat->Int:=λi j=>cf (el i) (el j)
   have hO':SWO (ltOf cf'):=⟨λx=>hO.irrefl (el x),λx y z=>hO.trans (el x) (el y) (el z),λx y z=>hO.ntrans (el x) (el y) (el z)⟩
   have hrow:∀i,((l.map A++M)[W i]?)=some (A (el i)):=λi=>by
    rw[nU (by rw[χ];exact X i),ς,ω (X i)];show some (A _)=some (A ((l[W i]?).getD x0));rw[ω (X i)];rfl
   have H:∀i,(r i).oneCell'=true/\A0 w (F.O R s.hp) (A (el i)) (r i):=λi=>by
    obtain ⟨u,J,Y,h4⟩:=q2.2.2 _ _ (hrow i) 0 (A (el i)) (by rw[hag];rfl);rw[lz,li,henc] at J;injection J with J;subst J
    exact ⟨Y,h4⟩
   have henc1:OneCell r:=λi=>(H i).1;have hd0:∀i,i<l.length->(Array.range l.length)[i]! =i:=λi I=>by rw[getElem!_pos _ i (by simpa using I)];simp
   have hcu:∀i,i<l.length->B[i]? =some (r i):=λi I=>by
    rw[<-hus i (by omega)];have:=henc i
    rwa [show W i=i from ϱ I] at this
   have hH:Holds r w b 0 (Array.range l.length):=by
    intro j hj;simp only[mr] at hj;rw[hd0 _ hj];refine ⟨?_,?_⟩
    .simp only[World.cell?,p1,lY];rw[hcu j hj];rfl
    .simp only[World.frozen?,p1]
     simp
   have hcmp:CmpLays1 P g #[] r cf' b 0 (Array.range l.length).size w:=by
    intro m os dk _ x y;have Q:w.heap.size<=(sortWorld r w b 0 m dk os).heap.size:=Hb;have hW:∀t,t<w.heap.size->¬F.O R s.hp t->(sortWorld r w b 0 m dk os).heap[t]? =w.heap[t]?:=λt hl hno=>vI (λe=>hno (e▸hOb)) hl;have ra:=(H x).2.mono Q hW (λ_ _ h=>h);have rb:=(H y).2.mono Q hW (λ_ _ h=>h)
    refine (Sg (hc (el x) (hel x) (el y) (hel y)) (w:=sortWorld r w b 0 m dk os) (λt h=>ln (hOl t h) Q) (vs:=[r x,r y]) Z (λi a v ha hv=>?_)).mono λe w' ⟨v,T,e2,e3,e4,e5⟩=>⟨?_,Pd e3 e4 e5⟩
    .match i,ha,hv with
     | 0,ha,hv=>injection ha with ha;injection hv with hv;subst ha hv;exact .d ra
     | 1,ha,hv=>injection ha with ha;injection hv with hv;subst ha hv;exact .d rb
    .cases e2 with
     | raw _=>exact T
   have eg:∀args w,(callFunc g args).run P w= .ok (.enter g args) w:=enters_of hfn hnm hbody;have key:=Any.slices_SortFunc L r henc1 cf' hO' g #[] b 0 K (Array.range l.length) w eg hcmp hH hlt (by simpa using hsz);rw[mr] at key;refine key.mono λe w' ⟨T,U,n,os,hp,hsort,hw⟩=>?_;subst T hw;obtain ⟨s1,_,s3⟩:=hp;rw[mr] at s1
   have hperm:U.toList.Perm (List.range l.length):=by
    have T:U.extract 0 l.length=U:=by rw[<-s1];exact Array.extract_size
    have e2:(Array.range l.length).extract 0 l.length=Array.range l.length:=by
     conv=>lhs;arg 3;rw[<-mr (n:=l.length)]
     exact Array.extract_size
    rw[T,e2] at s3
    simpa using s3
   refine ⟨Z,?_⟩
   have hys:U.toList.map el=V:=by
    apply hu
    .refine (hperm.map el).trans (List.Perm.of_eq ?_)
     apply ld (by simp)
     intro i h5 h6;simp only[kR,nV];exact heli i h6
    .rw[lc];intro i j I hj hij;simp only[χ,me] at I hj;have:=hsort i j (κ _) hij (by omega);rw[getElem!_pos _ j hj,getElem!_pos _ i I] at this;simp only[ltOf,decide_eq_false_iff_not] at this
     simpa using this
   have hlen':V.length=l.length:=by rw[<-hys];simp[s1]
   have Q:w.heap.size<=(sortWorld r w b 0 n U os).heap.size:=Hb;have hW:∀t,t<w.heap.size->¬F.O R s.hp t->(sortWorld r w b 0 n U os).heap[t]? =w.heap[t]?:=λt hl hno=>vI (λe=>hno (e▸hOb)) hl
   have hheap:(sortWorld r w b 0 n U os).heap[b]? =some (.cells (putCells r 0 U B) E (0,0)):=by
    unfold sortWorld;rw[Go.Sort.heap_grow_old _ _ (by rw[Go.Sort.size_putRow];exact hlt)];show (w.heap.modify b _)[b]? =_;rw[mp,ϱ Z,p1];rfl
   have hcs:(putCells r 0 U B).size=K:=by simp only[putCells,Array.size_mapIdx];omega
   have hO2:∀t,F.O R hp' t->F.O R s.hp t:=λt h=>h.imp id λ⟨g,i,o,J,Y⟩=>by
    rw[S] at J
    split at J
    .rename_i e;obtain ⟨rfl,rfl⟩:=e;exact ⟨g,0,_,hg0,Y⟩
    .exact ⟨g,i,o,J,Y⟩
   have dd:∀i,i<l.length+M.length->(putCells r 0 U B).toList[i]? =if h:i<l.length then some (r (U[i]'(by omega))) else us[i]?:=λi I=>by
    rw[mF,lM (by omega)];simp only[putCells,Array.getElem_mapIdx]
    by_cases h:i<l.length
    .rw[ϱ ⟨κ _,by omega⟩,dif_pos h];simp only[Nat.sub_zero];rw[getElem!_pos _ i (by omega)]
    .rw[υ (λY=>h (by omega)),dif_neg h,hus i I,lM (by omega)]
   refine hs.writeG f 0 _ _ ho S Z Z Z Q (Nat.le_add_right _ _) (λt hl hno=>vI (λe=>hno (by rw[e];exact hb)) hl) (λ_ _ e=>by cases e) λhrep=>?_;have hlr:(V.map A++M).length=l.length+M.length:=by rw[Δ,χ,hlen']
   have hlu:((putCells r 0 U B).toList.take (l.length+M.length)).length=(V.map A++M).length*1:=by
    have e2:(putCells r 0 U B).toList.length=K:=hcs;rw[hlr,lz,θ,e2];exact Nat.min_eq_left p3
   refine ⟨(putCells r 0 U B).toList.take (l.length+M.length),⟨hlu,.inr ⟨b,K,_,by rw[hρ,hlr],κ _,hheap,by rw[hlr];exact p3,p3',by omega,by rw[hlr,lz]⟩⟩,⟨hlu,λx C=>?_,λi x C j c G=>?_⟩,λx C c G=>?_⟩
   .rcases ν.1 C with h | h
    .obtain ⟨y,_,rfl⟩:=Γ.1 h;rw[hag];rfl
    .exact q2.2.1 _ (ν.2 (.inr h))
   .have I:i<l.length+M.length:=by rw[<-hlr];exact (φ.1 C).1
    by_cases h:i<l.length
    .rw[nU (by rw[χ];omega),ς,<-hys,ς,mF,lM (by omega)] at C;injection C with C;subst C
     rw[hag] at G
     match j,G with
     | 0,G=>
      injection G with G;subst G
      exact ⟨_,by rw[lz,li,ml I,dd i I,dif_pos h],(H _).1,(H _).2.mono Q hW λt _=>hO2 t⟩
    .rw[rC (by rw[χ];omega),χ,hlen'] at C;obtain ⟨u,J,Y,h4⟩:=q2.2.2 i x (by rw[rC (by rw[χ];omega),χ];exact C) j c G
     have hj:j=0:=by
      have J:x.cells.length=1:=q2.2.1 x (ν.2 (.inr (ϖ C)));have:=(φ.1 G).1;omega
     subst hj;rw[lz,li] at J;exact ⟨u,by rw[lz,li,ml I,dd i I,dif_neg h];exact J,Y,h4.mono Q hW λt _=>hO2 t⟩
   .rcases ν.1 C with h | h
    .obtain ⟨y,_,rfl⟩:=Γ.1 h;rw[hag] at G
     obtain ⟨k,hk⟩:∃k,el k=y\/y∉l:=by
      by_cases hy:y∈l
      .obtain ⟨k,hk,e⟩:=mE.1 hy;exact ⟨k,.inl ((heli k hk).trans e)⟩
      .exact ⟨0,.inr hy⟩
     have hyx:y∈l:=by
      rename_i hy
      rw[<-hys] at hy;obtain ⟨q,_,rfl⟩:=Γ.1 hy;exact hel q
     exact q3 (A y) (ν.2 (.inl (Γ.2 ⟨y,hyx,Z⟩))) c (by rw[hag];exact G)
    .exact q3 x (ν.2 (.inr h)) c G
end
end Go.Proofs.YteifpcnphnhaoaaGreat
namespace Go.Proofs.YteifpcnphnhaoaaGreat
open Go.RowKit
variable{a:List (List Nat)}{k:Nat}
set_option maxRecDepth 100000
def Gn(l:List Nat):Bool:=decide (l.length<2)
theorem Z6(l:List Nat)(a:l.length<=100000):AI prog 82 [.d (j0 l)] (Aj (Gn l)):=by
 refine Av func82 Z Z ntmps82 Z Z Z λF b=>(AD (AF (AB Z Z ?_)));refine AC (AD (AF (cl Z Z (J (BW Z E0 Z) (J (At Z Z Z) (AB Z Z (AC (A5 ?_))))))));exact ⟨_,[],_,A2 Z,Z,Z,XD (by omega),Z⟩
def kL(l:List Nat):Int:=((l.getD 0 0:Nat):Int)
theorem qN(a b:List Nat)(h:0<a.length)(g:0<b.length)(f:a.getD 0 0<=100000)(c:b.getD 0 0<=100000):AI prog 84 [.d (j0 a),.d (j0 b)] (AE (kL a-kL b)):=by
 have j:a.getD 0 0=a[0]:=by rw[Ψ,ω h];rfl
 have i:b.getD 0 0=b[0]:=by rw[Ψ,ω g];rfl
 unfold kL;rw[j] at f⊢;rw[i] at c⊢;refine Av func84 Z Z ntmps84 Z Z Z λF k=>(AD (AF (AB Z Z (AC (AD (Bm [[],[0],[0,1],[],[3],[3,4],rg 6,rg 7] mixed Z (BY (A7 0 Z Z ?_))))))));refine AK [5] Z (Al (0) Z Z (Z) (AP h) E0 Z BE Z) (AK [6] Z (BZ Z Z Ag Z) (A7 1 Z Z (AK [8] Z (Al (0) Z Z (Z) (AP g) E0 Z BE Z) (AK [9] Z (BZ Z Z Ag Z) (BR 6 Z Z Z (AZ 7 Z Z (J (MC Z Z (Ξ _ (by omega)) Z) (AC ⟨Z,?_⟩))))))));refine AZ 8 Z Z (AB Z Z (AC ⟨Z,?_⟩));refine Bb (A5 ?_);exact ⟨_,[],[],A2 Z,Z,Z,Z,Z⟩
theorem uF(l:List (List Nat))(r:l.length<=100000)(g:∀c∈l,c.length<=100000):AI prog 135 [.d (.sl none (l.map j0)),.d (.fn 82 [] [])] (AE (QR Gn l)):=by
 refine Av func135 Z Z ntmps135 Z Z Z λF s=>(AD (AF (AB Z Z (AC ?_))));refine AD (AD (AF (cl Z Z (J (BW Z R4 Z) (cl Z Z (AC (AX (FR (α:=Nat) (λk=>⟨19,[(0,.d (.sl none (l.map j0))),(1,.d (.fn 82 [] [])),(7,(.d (AE (l.length:Int)))),(8,(.d (AE (k:Int))))],[]⟩) (λk=>k<=l.length/\∀x∈l.take k,Gn x=false) (λk=>l.length-k) (0) (⟨κ _,by simp⟩) (Zm ⟨Z,Z,Z,Z,trivial⟩) ?_))))))));rintro k ⟨o,i⟩;refine AD (AF (J (At Z Z Z) (AC (AD (A4 Z (λj=>?_) (λj=>?_))))))
 .have a:k<l.length:=BG j;refine AU (AD (AX (AD (AF (cl Z Z (AB Z Z (AC (AD ?_))))))));refine AF (cl Z Z (cl Z Z (cl Z Z (J (Al (k) Z Z (Z) (AP a) R4 Z D8 Z) (J (BZ Z Z BJ Z) (J (MQ (Z6 l[k] (g _ (ϑ a))) Z Z) (AC (A4 Z (λf=>?_) (λf=>?_)))))))))
  .refine AD (AF (cl Z Z (AB Z Z (AC (A5 ?_)))));exact ⟨_,[],[],A2 Z,Z,Z,Ae (by unfold QR;rw[Hz a i (by unfold Gn;simpa using f)]),Z⟩
  .refine AU (AF (J (Ac Z Z (AJ (k+1) (by omega)) Z) (cl Z Z (AC ?_))));exact ⟨k+1,⟨by show k+1<=_;omega,by rw[ψ a];intro x b;rcases ν.1 b with b | b;exact i x b;rw[ξ.1 b];unfold Gn;simpa using f⟩,by show l.length-(k+1)<l.length-k;omega,⟨Z,Z,λ_ _=>SW.get (l:=[(0,_),(1,_),(7,_),(8,_)]) ⟨Z,Z,Z,Z,trivial⟩⟩⟩
 .refine Aq (AD (AF (AB Z Z (AC (A5 ?_)))));exact ⟨_,[],[],A2 Z,Z,Z,Ae (by unfold QR;rw[Ji (λx b=>i x (by rw[ζ (by have h:=j;omega)];exact b))]),Z⟩
def k9(l:List (List Nat)):List (List Nat):=l.filter λx=>!Gn x
theorem ZF(h:∀x∈a,Gn x=false):k9 a=a:=rE.2 λx b=>by rw[h x b];rfl
theorem te(b:k<a.length)(h:Gn a[k]=false):k9 (a.take (k+1))=k9 (a.take k)++ [a[k]]:=by
 unfold k9;rw[cT b,ϱ (by rw[h];rfl)]
theorem ZE(b:k<a.length)(h:Gn a[k]=true):k9 (a.take (k+1))=k9 (a.take k):=by grind[k9,cT]
theorem gD(l:List (List Nat)):(k9 l).length<=l.length:=lB _ _
def eO:Option (List Nat)->D
 | some l=>j0 l
 | none=> .raw (.slice none 0 0)
theorem iP(l:List (List Nat)):l.map j0=(l.map some).map eO:=by rw[jy];rfl
theorem u2(l:List (List Nat))(S:l.length<=100000)(z:∀c∈l,c.length<=100000):AO prog 81 [.own 10 0 l.length,.d (.fn 82 [] [])] [(10,[.rowD 28 1 (l.map j0)])] λr T=>r= .own 10 0 (k9 l).length/\T=[(10,[.rowD 28 1 ((k9 l).map j0++(List.replicate (l.length-(k9 l).length) none).map eO)])]:=by
 have f:=uF l S z
 cases hfi:l.findIdx? Gn with
 | none=>
  have G:∀x∈l,Gn x=false:=λx I=>by have:=List.findIdx?_eq_none_iff.1 hfi x I;simpa using this
  have b:QR Gn l= -1:=by unfold QR;rw[hfi]
  rw[b] at f;have A:=ZF G;refine Av func81 Z Z ntmps81 Z Z Z λF H=>(AD (AF (AB Z Z (AC (AD (AF ?_))))));refine cl Z Z (cl Z Z (J (qp [10] f (by exact ⟨.inr ⟨_,_,Z,.own Z Z (by simp) (ζ (by simp)),Z⟩,.inl Z,trivial⟩) Z Z) (AB Z Z (AC (AD (AD (AF (cl Z Z ?_))))))));refine J (GW Z Z Z) (AC (CM Z (Z) (AD (AF (cl Z Z (AB Z Z (AC (A5 ?_))))))));exact ⟨_,[10],_,A2 Z,Z,Z,by rw[A],by rw[A];simp⟩
 | some k=>
  obtain ⟨L,B,C⟩:=List.findIdx?_eq_some_iff_getElem.1 hfi;have b:QR Gn l=(k:Int):=by unfold QR;rw[hfi]
  rw[b] at f
  have y:∀x∈l.take k,Gn x=false:=λx I=>by
   obtain ⟨j,U,rfl⟩:=nD.1 I;have:=C j (by omega)
   simpa using this
  rw[iP l] at f⊢;have K:k9 (l.take (k+1))=l.take k:=by rw[ZE L B,ZF y]
  refine Av func81 Z Z ntmps81 Z Z Z λF H=>(AD ?_);refine AF (AB Z Z (AC (AD (AF (cl Z Z (cl Z Z (J (qp [10] f (by exact ⟨.inr ⟨_,_,Z,.own Z Z (by simp) (ζ (by simp)),Z⟩,.inl Z,trivial⟩) Z Z) (AB Z Z ?_))))))));refine AC (AD (AD (AF (cl Z Z (J (GW Z Z Z) (AC (Cr Z ((kD (by omega))) (AU ?_))))))));refine AD (AD (AF (cl Z Z (J (Ac Z Z (AJ (k+1) (by omega)) Z) (AB Z Z (AC (AX (BC (α:=Nat×Nat×List (Option (List Nat))) (λq=>⟨42,[(0,(.own 10 0 l.length)),(1,(.d (.fn 82 [] []))),(5,(.d (AE (q.1:Int)))),(6,(.d (AE (q.2.1:Int))))],[(10,[.rowD 28 1 (q.2.2.map eO)])]⟩) (λq=>q.2.1<=l.length/\q.1<q.2.1/\q.2.2.length=l.length/\q.2.2.take q.1=(k9 (l.take q.2.1)).map some/\q.2.2.drop q.2.1=(l.drop q.2.1).map some) (λq=>l.length-q.2.1) ((k,k+1,l.map some)) (⟨by show k+1<=_;omega,mS _,by show (l.map some).length=_;simp,by show (l.map some).take k=_;rw[K,List.map_take],by show (l.map some).drop (k+1)=_;rw[List.map_drop]⟩) (AR H [10] Z Z ⟨Z,Z,Z,Z,trivial⟩) ?_))))))));rintro ⟨i,j,c⟩ ⟨N,O,g,o,s⟩;dsimp only at N O g o s⊢;refine AD (AD (AF (cl Z Z (cl Z Z (J (QT Z R4 Z) (J (At Z Z Z) (AC (A4 Z (λw=>?_) (λw=>?_)))))))))
  .have a:j<l.length:=BG w;refine AU (AD (AX (AD (AF ?_))));have D:j<c.length:=by omega
   have Q:c[j]=some l[j]:=by have R:(c.drop j)[0]? =((l.drop j).map some)[0]?:=by {rw[s]};rw[mz,ς,mz,li,ω D,ω a] at R;injection R
   refine cl Z Z (cl Z Z (J (DO (j) Z Z (Z) (a) Z R4 D8 Z) (J (ED Z Z ((show (c.map eO)[j]? =some (j0 l[j]) from by rw[ς,ω D,Q];rfl)) Z BJ Z) ?_)));refine AB Z Z ?_;refine AC (AD (AF (cl Z Z (cl Z Z (J (MQ (Z6 l[j] (z _ (ϑ a))) Z Z) (J (JQ Z Z) (AC (A4 Z (λv=>?_) (λv=>?_)))))))))
   .have u:Gn l[j]=false:=by unfold Gn;simpa using v
    refine AD (AF (cl Z Z (cl Z Z (cl Z Z (J (DO (i) Z Z (Z) ((by omega)) Z R4 D8 Z) (V (Gy (c) (some l[j]) Z Z Z Z Z Z (by omega) Z D8) (AC (AF ?_))))))));refine cl Z Z (J (Ac Z Z (AJ (i+1) (by omega)) Z) (AB Z Z (AC (AF (cl Z Z (J (Ac Z Z (AJ (j+1) (by omega)) Z) (AB Z Z (AC ?_))))))));exact ⟨(i+1,j+1,_),⟨by show j+1<=_;omega,by show i+1<j+1;omega,by show (c.set i (some l[j])).length=_;rw[kq];exact g,by show (c.set i (some l[j])).take (i+1)=(k9 (l.take (j+1))).map some;rw[te a u,kA,<-o,ψ (by rw[kq];omega),List.getElem_set_self,List.take_set_of_le (Θ i)];rfl,by show (c.set i (some l[j])).drop (j+1)=(l.drop (j+1)).map some;rw[List.drop_set_of_lt (by omega),<-List.tail_drop,<-List.tail_drop,s,List.map_tail]⟩,by show l.length-(j+1)<l.length-j;omega,AR H [10] Z (Z) ⟨Z,Z,Z,Z,trivial⟩⟩
   .have u:Gn l[j]=true:=by unfold Gn;simpa using v
    refine AU (AF (cl Z Z (J (Ac Z Z (AJ (j+1) (by omega)) Z) (AB Z Z (AC ?_)))));exact ⟨(i,j+1,c),⟨by show j+1<=_;omega,by show i<j+1;omega,g,by show c.take i=(k9 (l.take (j+1))).map some;rw[ZE a u,o],by show c.drop (j+1)=(l.drop (j+1)).map some;rw[<-List.tail_drop,<-List.tail_drop,s,List.map_tail]⟩,by show l.length-(j+1)<l.length-j;omega,AR H [10] Z (Z) ⟨Z,Z,Z,Z,trivial⟩⟩
  .refine Aq (AD ?_);have M:j=l.length:=by have h:=w;omega
   have t:c.take i=(k9 l).map some:=by rw[o,M,kW]
   have E:i=(k9 l).length:=by have h:=jr List.length t;rw[θ,χ] at h;omega
   refine AF (cl Z Z (cl Z Z (Uv (emb:=eO) (zd:=none) c i Z Z Z Z g.symm Z (by omega) R4 D8 zeroValue28 Z Z Z Z Z Z ?_)));refine AC (AD (AF (cl Z Z (cl Z Z (J (J0 (i) Z Z Z (by simp only[χ,Δ,θ,List.length_replicate];omega) Z R4 D8 Z) (AB Z Z (AC (A5 ?_))))))));exact ⟨_,[10],_,A2 Z,Z,Z,by rw[<-E],by rw[t,g,E,kA,<-iP]⟩
end Go.Proofs.YteifpcnphnhaoaaGreat
namespace Go.Proofs.YteifpcnphnhaoaaGreat
end Go.Proofs.YteifpcnphnhaoaaGreat
namespace Go.Proofs.YteifpcnphnhaoaaGreat
open Go.RowKit
variable{a:Nat->Nat->Value}{c:Act}{w:World}{F:Fr}{f:Hp}{s:AS}{M:MF}
set_option maxRecDepth 100000
def qy(M:MF)(x y:D):Prop:=x=y\/∃h T zs,x=jj h zs.length/\B1 M h T 1 zs/\(∀z∈zs,z.one=true)/\y= .sl none zs
theorem A0.melt(hs:SR F s a c w){g:Nat}(S:ek s.hp g=some [.multi M])(O:∀b,F.O a f b->F.O a s.hp b)(N:∀i o b,dd s.hp g i=some o->CA (a g i)=some b->¬F.O a f b){x y:D}{v:Value}(hm:qy M x y)(H:A0 w (F.O a f) x v):A0 w (F.O a f) y v:=by
 rcases hm with rfl | ⟨h,T,C,rfl,l,G,rfl⟩
 .exact H
 .match h,l with
  | none,l=>
   have l:C=[]:=l;subst l
   cases H with
   | raw _=>exact .sl 0 (λb r=>by cases r) (λ_=>rfl) Z (Θ _) (κ _) (λx hx=>by cases hx) (λh=>absurd Z h) (λb o r=>by cases r)
  | some (b,j),l=>
   obtain ⟨hle,r⟩:=l
   cases H with
   | raw _=>
    obtain ⟨E,us,g1,U,g3⟩:=hs.rowN S r;obtain ⟨k,cap,e,Y,X,q3,W⟩:=Hj g1;injection e with e1 e2 e3
    subst e1 e3
    have K:∀z∈C,z.cells=[z]:=λz B=>by
     have h1:=G z B;have h2:=U.2.1 z B
     cases z with
     | agg cs=>simp[D.one] at h1
     | _=>rfl
    refine .sl 1 (λb r=>by cases r) (λh=>by cases h) Z Y X (λz B=>by rw[K z B];rfl) (λ_=>⟨b,0,Z⟩) (λb' o t i z J=>?_);injection t with t
    injection t with hb1 hb2
    subst hb1 hb2;have hil:i<C.length:=(φ.1 J).1;obtain ⟨b2,cur,A,R,r3,V⟩:=W (by omega);injection A with A
    injection A with A
    subst A;have I:b<w.heap.size:=(ll.1 R).1
    have hex:∀(q:Nat) j,z.cells[q]? =some j->∃u,w.cell? ⟨b,0+i*1+q,none⟩=some u/\A0 w (F.O a f) j u:=λq Q L=>by
     obtain ⟨u,d1,d2,d3⟩:=U.2.2 i z J q Q L;exact ⟨u,by rw[lY];exact EL R V d1,d3.mono (Θ _) (λ_ _ _=>rfl) λb _=>O b⟩
    refine .ptr (λq=>(w.cell? ⟨b,0+i*1+q,none⟩).getD undef) I (N b _ b (by rw[Gu S,r];rfl) (by rw[E];rfl)) (g3 z (ϖ J)) (λq Q L=>?_) (λq Q L=>?_)
    .grind
    grind
theorem SR.melt(U:SR F s a c w)(g i b:Nat){T:TypeId}{o B:List D}{v:List (Nat×AV)}{G A:Hp}(W:ek s.hp b=some [.multi M])(hE:Ab b s.env=some v)(hH:Aa b s.hp=some G)(hh:Cf b G=some A)(V:dd A g i=some (.rowD T 1 o))(l:B.length=o.length)(K:∀(j:Nat) x y,o[j]? =some x->B[j]? =some y->qy M x y)(I:(∀x∈o,x.one=true)/\∀y∈B,y.one=true)(C:Be A g i (.rowD T 1 B)=some f):SR F ⟨s.n,v,f⟩ a c w:=by
 obtain ⟨X,O,N⟩:=U.forget b hE hH hh (λj t cs e=>by
  rw[Gu W] at e
  cases hm:M j with
  | none=>rw[hm] at e;cases e
  | some m=>rw[hm] at e;injection e with e;exact Au.notBlk e)
 have k:∀z:D,z.one=true->z.cells=[z]:=λz hz=>by
  cases z with
  | agg cs=>simp[D.one] at hz
  | _=>rfl
 refine X.write g i (.rowD T 1 o) (.rowD T 1 B) V (BB C) Z Z Z Z (λ_ _=>rfl) (λ_ _ e=>by cases e) λE=>?_;obtain ⟨Y,k1,R,k3⟩:=X.heap.sim g i _ V;refine ⟨Y,by rw[l];exact k1,⟨by rw[l];exact R.1,λy J=>by rw[k y (I.2 y J)];rfl,λj y L q h r=>?_⟩,λy J h r=>by rw[k y (I.2 y J),ξ] at r;rw[r];exact I.2 y J⟩;have H:j<o.length:=by rw[<-l];exact (φ.1 L).1
 have S:o[j]? =some o[j]:=ω H;rw[k y (I.2 y (ϖ L))] at r
 cases q with
 | succ q=>cases r
 | zero=>
  injection r with r
  subst r;obtain ⟨u,d1,d2,d3⟩:=R.2.2 j _ S 0 _ (by rw[k _ (I.1 _ (ϑ H))];rfl);refine ⟨u,d1,d2,?_⟩;have h3:=A0.melt U W O N (K j _ _ S L) d3;have Q:=E (.d y) u (.d h3)
  cases Q with | d Q=>exact Q
section
variable{P:Program}{F:Fr}{Q:Exit->AS->Prop}{c:Code}{n:Nat}{env env':List (Nat×AV)}{hp hp1 hp2 hp':Hp}
theorem jO(g i f:Nat){M:MF}{T:TypeId}{l:List D}(k:List D)(z:ek hp f=some [.multi M])(B:Ab f env=some env')(A:Aa f hp=some hp1)(v:Cf f hp1=some hp2)(u:dd hp2 g i=some (.rowD T 1 l))(b:k.length=l.length)(o:∀(j:Nat) x y,l[j]? =some x->k[j]? =some y->qy M x y)(C:(∀x∈l,x.one=true)/\∀y∈k,y.one=true)(a:Be hp2 g i (.rowD T 1 k)=some hp')(h:CK P F c Q ⟨n,env',hp'⟩):CK P F c Q ⟨n,env,hp⟩:=
 λs r w t=>h s r w (t.melt g i f z B A v u b o C a)
end
theorem SR.weakRow{F:Fr}{s:AS}{I:Nat->Nat->Value}{B:Act}{w:World}(L:SR F s I B w)(g i:Nat){T:TypeId}{f k:List D}{r:Hp}(M:dd s.hp g i=some (.rowD T 1 f))(b:k.length=f.length)(E:∀(j:Nat) x y,f[j]? =some x->k[j]? =some y->∀w O v,A0 w O x v->A0 w O y v)(A:(∀x∈f,x.one=true)/\∀y∈k,y.one=true)(l:Be s.hp g i (.rowD T 1 k)=some r):SR F ⟨s.n,s.env,r⟩ I B w:=by
 have a:∀z:D,z.one=true->z.cells=[z]:=λz R=>by
  cases z with
  | agg U=>simp[D.one] at R
  | _=>rfl
 refine L.write g i (.rowD T 1 f) (.rowD T 1 k) M (BB l) Z Z Z Z (λ_ _=>rfl) (λ_ _ e=>by cases e) λo=>?_;obtain ⟨N,Q,J,S⟩:=L.heap.sim g i _ M;refine ⟨N,by rw[b];exact Q,⟨by rw[b];exact J.1,λy C=>by rw[a y (A.2 y C)];rfl,λj y G q c h=>?_⟩,λy C c h=>by rw[a y (A.2 y C),ξ] at h;rw[h];exact A.2 y C⟩;have t:j<f.length:=by rw[<-b];exact (φ.1 G).1
 have K:f[j]? =some f[j]:=ω t;rw[a y (A.2 y (ϖ G))] at h
 cases q with
 | succ q=>cases h
 | zero=>
  injection h with h
  subst h;obtain ⟨u,d1,d2,d3⟩:=J.2.2 j _ K 0 _ (by rw[a _ (A.1 _ (ϑ t))];rfl);refine ⟨u,d1,d2,?_⟩;have H:=o (.d y) u (.d (E j _ _ K G _ _ _ d3))
  cases H with | d H=>exact H
section
variable{P:Program}{F:Fr}{Q:Exit->AS->Prop}{c:Code}{n:Nat}{env:List (Nat×AV)}{hp hp':Hp}
theorem SP(g i:Nat){T:TypeId}{k:List D}(f:List D)(t:dd hp g i=some (.rowD T 1 k))(b:f.length=k.length)(l:∀(j:Nat) x y,k[j]? =some x->f[j]? =some y->∀w O v,A0 w O x v->A0 w O y v)(u:(∀x∈k,x.one=true)/\∀y∈f,y.one=true)(a:Be hp g i (.rowD T 1 f)=some hp')(h:CK P F c Q ⟨n,env,hp'⟩):CK P F c Q ⟨n,env,hp⟩:=
 λr o w s=>h r o w (s.weakRow g i t b l u a)
end
variable{a:Nat->List Nat}{c:Nat}{g:List (List Nat)}{f:Nat->Nat}{h:List (List Int)}{i:Nat->List Nat}{j:List Nat}{k:List (Nat×Nat)}{o:Nat}{S:TS}{s:Nat}{t:Option Nat}{u:Nat->Nat}{w:Nat}{x:Nat->Hd}{y:Nat}{z:List (Nat×Nat)}{K:Nat->Nat}{A:Nat->Int}{B:Nat}{C:List (Nat×Nat)}{E:List Nat}{F G:Nat}{H:Nat->Nat}{M:MF}{I:Nat}
structure Nx (M:MF) (n:Nat) (hs:Nat->Hd) (ls:Nat->List Nat):Prop where
 at_:∀j,j<n->B1 M (hs j) 3 1 ((ls j).map AY)
 inj:∀j k b c c',j<n->k<n->hs j=some (b,c)->hs k=some (b,c')->j=k
abbrev lC(n:Nat)(hs:Nat->Hd)(ls:Nat->List Nat):List D:=(List.range n).map λj=>jj (hs j) (ls j).length
theorem LC(h:F<c):(lC c x i)[F]? =some (jj (x F) (i F).length):=by simp[h]
theorem Fx(n:Nat)(b:Nat->Hd)(a:Nat->List Nat):(lC n b a).length=n:=by simp
theorem UY{h:Hd}:(lC c x i).set F (jj h j.length)=lC c (BK x F h) (BK i F j):=by grind[OC,H3,MH]
theorem Nx.zero(n:Nat):Nx (λ_=>none) n (λ_=>none) (λ_=> []):=⟨λ_ _=>rfl,λ_ _ _ _ _ _ _ h=>by cases h⟩
theorem Nx.app(h:Nx M c x i)(D:F<c){b:Nat}(G:Bq M (x F) b=none)(E:(j.map AY).length<=B):
  Nx (Bf (Bq M (x F)) b (.row 3 1 B (j.map AY))) c (BK x F (some (b,B))) (BK i F j):=by
 have u:∀k,k<c->k≠F->∀f s,x k=some (f,s)->f≠b/\Bf (Bq M (x F)) b (.row 3 1 B (j.map AY)) f=M f:=by
  intro k g v f s e;have a:=h.at_ k g;rw[e] at a;have z:∀o,x F≠some (f,o):=λo t=>v (h.inj k F f s o g D e t);refine ⟨λH=>?_,?_⟩
  .subst H;have:=K0 a.2 z
   grind
  .rw[lj G a.2 z,a.2]
 refine ⟨λk g=>?_,λk y K J I g w C t=>?_⟩
 .by_cases e:k=F
  .subst e;rw[MH,MH];exact ⟨E,Fj _ _ _⟩
  .rw[H3 e,H3 e];have a:=h.at_ k g
   match hh:x k,a with
   | none,a=>exact a
   | some (f,s),a=>exact ⟨a.1,by rw[(u k g e f s hh).2];exact a.2⟩
 .by_cases A:k=F<;>by_cases r:y=F
  .rw[A,r]
  .grind[MH,H3]
  .grind[MH,H3]
  .rw[H3 A] at C;rw[H3 r] at t;exact h.inj k y K J I g w C t
def gn(n:Nat)(ls:Nat->List Nat):List (List Nat):=(List.range n).map ls
theorem WX(n:Nat)(a:Nat->List Nat):(gn n a).length=n:=by simp[gn]
theorem V6(h:s<c):gs (gn c i) s=i s:=by
 rw[Fs (by rw[WX];exact h)];simp[gn]
theorem Nx.melt(h:Nx M c x i):∀(j:Nat) b y,(lC c x i)[j]? =some b->((gn c i).map j0)[j]? =some y->qy M b y:=by
 intro j b y f g;have k:j<c:=by have:=(φ.1 f).1;rwa [Fx] at this
 rw[LC k] at f;injection f with f
 rw[ba (by rw[WX];exact k),V6 k] at g;injection g with g
 subst f g;exact .inr ⟨x j,3,(i j).map AY,by rw[χ],h.at_ j k,λz l=>by obtain ⟨a,_,rfl⟩:=Γ.1 l;rfl,Z⟩
theorem LK(n:Nat)(f:Nat->Hd)(b:Nat->List Nat):∀x∈lC n f b,x.one=true:=λx c=>by
 obtain ⟨a,_,rfl⟩:=Γ.1 c;rfl
theorem fH(g:List (List Nat)):∀x∈g.map j0,x.one=true:=λx b=>by
 obtain ⟨a,_,rfl⟩:=Γ.1 b;rfl
theorem VA(n:Nat):∀(j:Nat) x y,(List.replicate n (D.sl (some true) []))[j]? =some x->(lC n (λ_=>none) (λ_=> []))[j]? =some y->∀w O v,A0 w O x v->A0 w O y v:=by
 intro j x y a b w O v g;have f:j<n:=by have:=(φ.1 a).1;rwa [List.length_replicate] at this
 rw[LC f] at b;injection b with b
 have c:x=D.sl (some true) []:=by rw[List.getElem?_replicate,ϱ f] at a;injection a with a;exact a.symm
 subst c b;exact g.nrm1
theorem Yf(n:Nat):∀x∈List.replicate n (D.sl (some true) []),x.one=true:=λx a=>by rw[(List.mem_replicate.1 a).2];rfl
theorem uN(g:List (List Nat))(K:Nat->Nat):∃a,SX g K a/\∀y,¬D2 g a y:=by
 have j:∀(m:Nat) (l:List Nat),SX g K l->g.length-l.length<=m->∃a,SX g K a/\∀y,¬D2 g a y:=by
  intro m
  induction m with
  | zero=>
   intro l h t;refine ⟨l,h,λy c=>?_⟩;obtain ⟨A,w⟩:=Jd h;have:=cU (nE.2 ⟨c.2.1,A⟩) (m:=List.range g.length) λx o=>Ω.2 ((ju.1 o).elim (λe=>e▸c.1) (w x))
   grind
  | succ m s=>
   intro l h t
   by_cases v:∃y,D2 g l y
   .have f:∀(b:Nat) y,D2 g l y->K y<=b->∃x,D2 g l x/\∀z,D2 g l z->K x<=K z:=by
     intro b
     induction b with
     | zero=>intro y c B;exact ⟨y,c,λz _=>by omega⟩
     | succ b r=>
      grind
    obtain ⟨y,c⟩:=v;obtain ⟨x,o,k⟩:=f (K y) y c (Θ _);refine s (l++ [x]) (V5 h o k) ?_
    grind
   grind
 exact j _ [] (λi u=>by simp at u) (Θ _)
theorem Ma(g:List (List Nat))(K:Nat->Nat):SX g K (kr g K)/\∀y,¬D2 g (kr g K) y:=Classical.epsilon_spec (p:=λa=>SX g K a/\∀y,¬D2 g a y) (uN g K)
theorem o5{g:List (List Nat)}{K:Nat->Nat}(h:o<(kr g K).length):hU (kr g K) o<g.length:=(Jd (Ma g K).1).2 _ (EQ h)
theorem fF(g:List (List Nat))(K:Nat->Nat):(kr g K).length<=g.length:=by
 obtain ⟨c,b⟩:=Jd (Ma g K).1;have:=cU c (m:=List.range g.length) λx a=>Ω.2 (b x a)
 grind
def nN(of:Nat->Nat)(n:Nat):Nat->Nat->Nat
 | 0=>λ_=>0
 | d+1=>BK (nN of n d) (of (n-1-d)) (n-1-d)
theorem It(a:Nat->Nat)(n:Nat):∀d,d<=n->∀c,(∃v,n-d<=v/\v<n/\a v=c)->a (nN a n d c)=c/\nN a n d c<n/\∀v,n-d<=v->v<n->a v=c->nN a n d c<=v
 | 0,_,c,⟨v,r,i,_⟩=>by omega
 | d+1,t,c,⟨v,r,i,h⟩=>by
  unfold nN
  by_cases e:c=a (n-1-d)
  .subst e;rw[MH];exact ⟨Z,by omega,λv o _ _=>by omega⟩
  .rw[H3 e];have o:v≠n-1-d:=λf=>e (by rw[<-h,f]);obtain ⟨l,k,j⟩:=It a n d (by omega) c ⟨v,by omega,i,h⟩;refine ⟨l,k,λu s b g=>j u ?_ b g⟩;have:u≠n-1-d:=λf=>e (by rw[<-g,f]);omega
def W9(of:Nat->Nat)(n cnt:Nat):List Nat:=(List.range cnt).map (nN of n n)
theorem OO{cnt:Nat}(h:B<cnt):hU (W9 f c cnt) B=nN f c c B:=by grind[W9,Qf]
theorem ot(a:Nat->Nat)(n cnt:Nat):(W9 a n cnt).length=cnt:=by simp[W9]
theorem dy(n:Nat)(f:Nat->Nat):rowN n f=((List.range n).map f).map AY:=by rw[jy];rfl
theorem tf{cnt:Nat}(h:ky c a f cnt):∀g b,g<cnt->b<cnt->hU (W9 f c cnt) g=hU (W9 f c cnt) b->g=b:=by
 intro g b k j e;rw[OO k,OO j] at e;obtain ⟨v,l,i⟩:=h.use g k;obtain ⟨u,r,o⟩:=h.use b j;have s:=(It f c c (Θ _) g ⟨v,by omega,l,i⟩).1
 grind[It]
def ZY(of:Nat->Nat)(a:Nat)(l:List Nat):List Nat:=(l.filter λx=>decide (of a≠of x)).map of
def OW(g:List (List Nat))(of:Nat->Nat)(i k c:Nat):List Nat:=((List.range i).flatMap λa=>if of a=c then ZY of a (gs g a) else [])++if of i=c then ZY of i ((gs g i).take k) else []
theorem iM(g:List (List Nat))(a:Nat->Nat):OW g a 0 0=λ_=> []:=by funext c;simp[OW,ZY]
theorem ZV(g:List (List Nat))(a:Nat->Nat)(i:Nat):OW g a i (gs g i).length=OW g a (i+1) 0:=by grind[OW,ki,ZY]
theorem Vn{a:Nat}(b:o<j.length):ZY f a (j.take (o+1))=ZY f a (j.take o)++if f a≠f (hU j o) then [f (hU j o)] else []:=by grind[ZY,ψ,Qf]
theorem iN{of:Nat->Nat}(a:o<(gs g s).length)(h:of s≠of (hU (gs g s) o)):BK (OW g of s o) (of s) (OW g of s o (of s)++ [of (hU (gs g s) o)])=OW g of s (o+1):=by grind[MH,OW,Vn,H3]
theorem iO{of:Nat->Nat}(a:o<(gs g s).length)(h:¬of s≠of (hU (gs g s) o)):OW g of s o=OW g of s (o+1):=by
 funext c
 unfold OW;rw[Vn a,υ h,kZ]
def KM(g:List (List Nat))(i:Nat):Nat:=((List.range i).map λa=>(gs g a).length).sum
theorem ZX(b:Nat->Nat)(a:Nat)(l:List Nat):(ZY b a l).length<=l.length:=by unfold ZY;rw[χ];exact lB _ _
theorem ZW(g:List (List Nat))(b:Nat->Nat)(i k c:Nat):(OW g b i k c).length<=KM g i+((gs g i).take k).length:=by
 have f:∀m,((List.range m).flatMap λa=>if b a=c then ZY b a (gs g a) else []).length<=KM g m:=by
  intro m
  induction m with
  | zero=>exact κ _
  | succ m h=>
   unfold KM at h⊢;rw[ki,List.flatMap_append,Δ,kA,mj,List.flatMap_singleton,List.map_singleton,List.sum_singleton]
   grind[ZX]
 grind[OW,ZX]
theorem Qm(g:List (List Nat)){i j:Nat}(h:i<=j):KM g i<=KM g j:=by
 induction j with
 | zero=>
  have:i=0:=by omega
  subst this;exact Θ _
 | succ j a=>
  grind[KM,ki]
structure GT (g:List (List Nat)):Prop where
 gb:GB g
 tot:KM g g.length<=1048576
def Ln(g:List (List Nat))(of:Nat->Nat)(cnt:Nat):List (List Nat):=gn cnt (OW g of g.length 0)
theorem uX{cnt:Nat}(o:GT g)(h:ky g.length (gs g) f cnt):GB (Ln g f cnt):=by
 have t:=o.gb.n;have s:=h.le;refine ⟨by rw[Ln,WX];omega,λl i=>?_,λl i x b=>?_⟩
 .obtain ⟨c,_,rfl⟩:=Γ.1 i;have:=ZW g f g.length 0 c;have:=o.tot
  simp at*;omega
 .obtain ⟨c,_,rfl⟩:=Γ.1 i;rw[Ln,WX]
  have j:∀a l,a<g.length->(∀x∈l,x<g.length)->x∈ZY f a l->x<cnt:=λa l _ i b=>by
   unfold ZY at b;obtain ⟨y,k,rfl⟩:=Γ.1 b;exact h.lt y (i y (Φ.1 k).1)
  unfold OW at b;rcases ν.1 b with b | b
  .obtain ⟨a,r,b⟩:=mO.1 b
   split at b
   .exact j a _ (Ω.1 r) (λy k=>o.gb.suc (Ω.1 r) k) b
   .cases b
  grind[ZY]
def Dz(seq:List Nat):Nat->Nat->Nat
 | 0=>λ_=>0
 | k+1=>BK (Dz seq k) (hU seq k) k
theorem Ys(a:List Nat){cnt:Nat}(b:0<cnt)(f:a.length<=cnt):∀k,k<=a.length->∀c,Dz a k c<cnt
 | 0,_,c=>b
 | k+1,g,c=>by
  unfold Dz
  by_cases e:c=hU a k
  .subst e;rw[MH];omega
  .rw[H3 e];exact Ys a b f k (by omega) c
noncomputable def l9(g:List (List Nat))(of:Nat->Nat)(cnt:Nat):List Nat:=kr (Ln g of cnt) (hU (W9 of g.length cnt))
noncomputable def kN(g:List (List Nat))(of:Nat->Nat)(cnt:Nat):Nat->Nat:=Dz (l9 g of cnt) (l9 g of cnt).length
def GV(no:Nat->Nat)(i c:Nat):List Nat:=(List.range i).filter λv=>decide (no v=c)
def oc(of no:Nat->Nat)(i v:Nat):Nat:=if v<i then no v else of v
theorem al(a:Nat->Nat)(i:Nat):BK (GV a i) (a i) (GV a i (a i)++ [i])=GV a (i+1):=by grind[MH,GV,ki,H3]
theorem fD(a:Nat->Nat)(i c:Nat):(GV a i c).length<=i:=by grind[GV]
theorem fN(b a:Nat->Nat)(i:Nat):BK (oc b a i) i (a i)=oc b a (i+1):=by grind[MH,oc,H3]
structure CN (n:Nat) (suc:Nat->List Nat) (no:Nat->Nat) (cnt:Nat):Prop where
 lt:∀v,v<n->no v<cnt
 scc:∀i j,i<n->j<n->(no i=no j↔Rh suc i j/\Rh suc j i)
 use:∀c,c<cnt->∃v,v<n/\no v=c
 top:∀u v,u<n->v<n->v∈suc u->no u<=no v
 mn:∀c,c<cnt->∀i,i<n->c<=no i->(∀k,k<n->c<=no k->Rh suc k i->Rh suc i k)->∃j,j<n/\no j=c/\j<=i
theorem CN.rh{cnt:Nat}(h:CN c a u cnt)(j:∀y,y<c->∀b∈a y,b<c)(i:I<c)(k:Rh a I y):y<c/\u I<=u y:=by
 induction k with
 | refl=>exact ⟨i,Θ _⟩
 | step _ e f=>
  have g:=j _ f.1 _ e;exact ⟨g,jq f.2 (h.top _ _ f.1 g e)⟩
theorem CN.crit{cnt:Nat}(h:CN c a u cnt)(f:∀v,v<c->∀y∈a v,y<c)(j:s<c)(o:u s=B):∀k,k<c->B<=u k->Rh a k s->Rh a s k:=λk b l g=>by
 have:=(h.rh f b g).2;exact ((h.scc s k j b).1 (by omega)).1
theorem sJ(p:Nat->Prop):∀(m x:Nat),p x->x<=m->∃y,p y/\∀z,p z->y<=z:=by
 intro m
 induction m with
 | zero=>intro x a c;exact ⟨x,a,λz _=>by omega⟩
 | succ m b=>
  grind
theorem Py{n:Nat}{g:Nat->List Nat}{t a:Nat->Nat}{cnt f:Nat}(h:CN n g t cnt)(B:CN n g a f)(E:∀v,v<n->∀y∈g v,y<n):
  ∀c,c<=cnt->c<=f->∀v,v<n->∀d,d<c->(t v=d↔a v=d)
 | 0,_,_,v,_,d,O=>by omega
 | c+1,S,R,v,s,d,O=>by
  have C:=Py h B E c (by omega) (by omega)
  by_cases e:d<c
  .exact C v s d e
  .have e:d=c:=by omega
   subst e
   have b:∀v,v<n->(d<=t v↔d<=a v):=λv s=>by
    constructor
    .intro Q;rcases Nat.lt_or_ge (a v) d with r | r
     .have:=(C v s _ r).2 rfl;omega
     .exact r
    .intro Q;rcases Nat.lt_or_ge (t v) d with r | r
     .have:=(C v s _ r).1 rfl;omega
     .exact r
   obtain ⟨x,M,D⟩:=h.use d (by omega);obtain ⟨i,⟨A,l⟩,H⟩:=sJ (λy=>y<n/\t y=d) x x ⟨M,D⟩ (Θ _);obtain ⟨j,G,w,N⟩:=B.mn d (by omega) i A ((b i A).1 (by omega)) λk u o F=>h.crit E A l k u ((b k u).2 o) F;obtain ⟨L,J,z,K⟩:=h.mn d (by omega) j G ((b j G).2 (by omega)) λk u o F=>B.crit E G w k u ((b k u).1 o) F;have:=H L ⟨J,z⟩;have I:i=j:=by omega
   subst I;rw[<-l,h.scc v i s A,l,<-w,B.scc v i s A]
theorem qG{cnt b:Nat}(h:CN c a u cnt)(f:CN c a H b)(l:∀v,v<c->∀y∈a v,y<c):cnt=b/\∀v,v<c->u v=H v:=by
 have g:∀{u H:Nat->Nat} {cnt b:Nat},CN c a u cnt->CN c a H b->cnt<=b:=by
  intro u H cnt b h f;rcases Nat.lt_or_ge b cnt with j | k
  .obtain ⟨v,i,o⟩:=h.use b j;have r:=f.lt v i;have:=(Py h f l b (by omega) (Θ _) v i (H v) r).2 rfl;omega
  .exact k
 have e:cnt=b:=Nat.le_antisymm (g h f) (g f h);subst e;exact ⟨Z,λv i=>((Py h f l cnt (Θ _) (Θ _) v i (H v) (f.lt v i)).2 Z)⟩
theorem TZ{cnt x:Nat}(o:B<cnt):x∈gs (Ln g f cnt) B↔∃a,a<g.length/\f a=B/\∃y∈gs g a,f a≠f y/\f y=x:=by
 rw[Ln,V6 o];unfold OW ZY;rw[List.take_zero];simp only[List.filter_nil,List.map_nil,ite_self,kZ,mO,Ω]
 constructor
 .rintro ⟨a,l,j⟩
  split at j
  .rename_i e
   obtain ⟨y,i,rfl⟩:=Γ.1 j;obtain ⟨h,b⟩:=Φ.1 i;exact ⟨a,l,e,y,h,lG b,Z⟩
  .cases j
 .rintro ⟨a,l,e,y,i,k,rfl⟩;refine ⟨a,l,?_⟩;rw[ϱ e];exact Γ.2 ⟨y,Φ.2 ⟨i,Υ k⟩,Z⟩
theorem Yt{a:List Nat}(b:a.Nodup):∀m,m<=a.length->∀k,k<m->Dz a m (hU a k)=k
 | 0,_,k,c=>by omega
 | m+1,g,k,c=>by
  unfold Dz
  by_cases e:k=m
  .subst e;rw[MH]
  .rw[H3,Yt b m (by omega) k (by omega)];rw[Qf (by omega),Qf (by omega)];intro f;exact e ((List.getElem_inj b).1 f)
theorem qB(O:GB g){cnt:Nat}(h:ky g.length (gs g) f cnt){K:Nat->Nat}{j:List Nat}(r:∀y,¬D2 (Ln g f cnt) j y):∀c,c<cnt->c∈j:=by
 let Rc:Nat->Nat->Prop:=λd c=>∃u v,u<g.length/\v<g.length/\f u=d/\f v=c/\Rh (gs g) u v
 have dec:∀c,DecidablePred λd=>Rc d c:=λc d=>Classical.propDecidable _
 let b:Nat->Nat:=λc=>((List.range cnt).filter λd=> @decide (Rc d c) (dec c d)).length
 have C:∀k c,k<cnt->c∈gs (Ln g f cnt) k->b k<b c:=by
  intro k c G o;obtain ⟨a,s,rfl,y,w,E,rfl⟩:=(TZ G).1 o;have i:=O.suc s w
  have:=cU (l:=f y::(List.range cnt).filter λd=> @decide (Rc d (f a)) (dec (f a) d)) (m:=(List.range cnt).filter λd=> @decide (Rc d (f y)) (dec (f y) d)) (nE.2 ⟨λr=>by
   obtain ⟨_,J⟩:=Φ.1 r;obtain ⟨u,v,B,A,M,L,D⟩:= @of_decide_eq_true _ (dec _ _) J;have R:=(h.scc u y B i).1 M;have I:=(h.scc v a A s).1 L
   exact E ((h.scc a y s i).2 ⟨Rh.one w,R.2.trans (D.trans I.1)⟩),List.nodup_range.filter _⟩) (λx z=>by
   rcases ju.1 z with rfl | z
   .exact Φ.2 ⟨Ω.2 (h.lt y i), @decide_eq_true _ (dec _ _) ⟨y,y,i,i,Z,Z,.refl y⟩⟩
   .obtain ⟨S,J⟩:=Φ.1 z;obtain ⟨u,v,B,A,M,L,D⟩:= @of_decide_eq_true _ (dec _ _) J;have I:=(h.scc v a A s).1 L
    exact Φ.2 ⟨S, @decide_eq_true _ (dec _ _) ⟨u,y,B,i,M,Z,D.trans (I.1.trans (Rh.one w))⟩⟩)
  grind
 have t:∀(m c:Nat),b c<=m->c<cnt->c∈j:=by
  intro m
  induction m with
  | zero=>
   intro c Q o;refine Classical.byContradiction λF=>r c ⟨by rw[Ln,WX];exact o,F,λk G _ H=>?_⟩
   grind[Ln,WX]
  | succ m T=>
   intro c Q o;refine Classical.byContradiction λF=>r c ⟨by rw[Ln,WX];exact o,F,λk G N H=>?_⟩
   grind[Ln,WX]
 exact λc o=>t (b c) c (Θ _) o
theorem Xk(hg:GT g){cnt:Nat}(h:ky g.length (gs g) f cnt):CN g.length (gs g) (λv=>kN g f cnt (f v)) cnt:=by
 obtain ⟨N,h2⟩:=Ma (Ln g f cnt) (hU (W9 f g.length cnt));have W:kr (Ln g f cnt) (hU (W9 f g.length cnt))=l9 g f cnt:=rfl;rw[W] at N h2;have hM:∀c,kN g f cnt c=Dz (l9 g f cnt) (l9 g f cnt).length c:=λ_=>rfl;have r:=qB hg.gb h (K:=hU (W9 f g.length cnt)) h2;obtain ⟨C,o⟩:=Jd N;have z:(Ln g f cnt).length=cnt:=by rw[Ln,WX]
 rw[z] at o
 obtain ⟨b,A⟩:∃b,l9 g f cnt=b:=⟨_,Z⟩
 rw[A] at N h2 r C o;simp only[A] at hM
 have hlen:b.length=cnt:=Nat.le_antisymm (by have:=cU C (m:=List.range cnt) λx T=>Ω.2 (o x T);rwa [kj] at this)
  (by have:=cU (List.nodup_range (n:=cnt)) (m:=b) λx T=>r x (Ω.1 T);rwa [kj] at this)
 have G:∀k,k<cnt->kN g f cnt (hU b k)=k:=λk t=>by rw[hM];exact Yt C _ (Θ _) k (by omega)
 have l:∀c,c<cnt->∃k,k<cnt/\hU b k=c/\kN g f cnt c=k:=λc F=>by
  obtain ⟨k,t,rfl⟩:=mE.1 (r c F)
  grind[Qf]
 have J:∀c d,c<cnt->c<=kN g f cnt d->d<cnt->d∉b.take c:=λc d F hcd hd hm=>by
  obtain ⟨k,t,e⟩:=mE.1 hm;rw[θ] at t;rw[List.getElem_take,<-Qf (by omega)] at e
  grind
 refine ⟨λv B=>?_,λi j s hj=>?_,λc F=>?_,λu v V B he=>?_,λc F i s E hcr=>?_⟩
 .obtain ⟨k,t,_,e⟩:=l (f v) (h.lt v B);omega
 .rw[<-h.scc i j s hj]
  constructor
  .intro e;obtain ⟨k,_,O,e2⟩:=l (f i) (h.lt i s);obtain ⟨m,_,R,e4⟩:=l (f j) (h.lt j hj);have e:kN g f cnt (f i)=kN g f cnt (f j):=e;rw[<-O,<-R,show k=m by omega]
  .intro e;show kN g f cnt (f i)=kN g f cnt (f j);rw[e]
 .obtain ⟨v,B,e⟩:=h.use (hU b c) (o _ (EQ (by omega)));exact ⟨v,B,by show kN g f cnt (f v)=c;rw[e];exact G c F⟩
 .show kN g f cnt (f u)<=kN g f cnt (f v)
  by_cases e:f u=f v
  .rw[e];exact Θ _
  .obtain ⟨p,hp,O,e2⟩:=l (f v) (h.lt v B);have w:=(N p (by omega)).1;rw[O] at w;have D:f u∈b.take p:=Classical.byContradiction λhn=>w.2.2 (f u) (by rw[z];exact h.lt u V) hn ((TZ (h.lt u V)).2 ⟨u,V,Z,v,he,e,Z⟩);obtain ⟨k,t,R⟩:=mE.1 D;rw[θ] at t;rw[List.getElem_take,<-Qf (by omega)] at R;rw[<-R,G k (by omega),e2];omega
 .have E:c<=kN g f cnt (f i):=E
  have w:D2 (Ln g f cnt) (b.take c) (f i):=by
   refine ⟨by rw[z];exact h.lt i s,J c _ F E (h.lt i s),λk t Y D=>?_⟩;rw[z] at t;obtain ⟨a,Q,rfl,y,hy,X,I⟩:=(TZ t).1 D;have S:=hg.gb.suc Q hy
   have hca:c<=kN g f cnt (f a):=by
    rcases Nat.lt_or_ge (kN g f cnt (f a)) c with hl | hl
    .obtain ⟨m,hm,O,e2⟩:=l (f a) (h.lt a Q);exact (Y (mE.2 ⟨m,by rw[θ];omega,by rw[List.getElem_take,<-Qf (by omega)];exact O⟩)).elim
    .exact hl
   have H:=(h.scc y i S s).1 I;have M:Rh (gs g) a i:=(Rh.one hy).trans H.1;have:=(h.scc a i Q s).2 ⟨M,hcr a Q hca M⟩;exact X (by rw[this,I])
  have hK:=(N c (by omega)).2 _ w;have L:hU b c<cnt:=o _ (EQ (by omega));rw[OO L,OO (h.lt i s)] at hK;obtain ⟨v,B,U⟩:=h.use _ L;obtain ⟨q1,q2,_⟩:=It f g.length g.length (Θ _) (hU b c) ⟨v,by omega,B,U⟩;obtain ⟨_,_,q3⟩:=It f g.length g.length (Θ _) (f i) ⟨i,by omega,s,Z⟩;exact ⟨_,q2,by show kN g f cnt (f _)=c;rw[q1];exact G c F,jq hK (q3 i (by omega) s Z)⟩
abbrev ZL(l:List Int):D:= .sl none (l.map AE)
abbrev sH(g:List (List Int)):D:= .sl none (g.map ZL)
def MO(g:List (List Int))(i:Nat):Nat:=((g.take i).map List.length).sum
def bz(n:Nat)(l:List Int):Prop:=∃x∈l,¬(0<=x/\x<(n:Int))
instance (n:Nat) (l:List Int):Decidable (bz n l):=inferInstanceAs (Decidable (∃x∈l,¬(0<=x/\x<(n:Int))))
def WL(g:List (List Int)):Int:=if 65536<g.length\/1048576<MO g g.length then 8 else if ∃l∈g,bz g.length l then 2 else 0
theorem MN(a:s<h.length):MO h (s+1)=MO h s+h[s].length:=by
 unfold MO;rw[ψ a,kA,mj];simp
theorem YI{g:List (List Int)}(h:∀l∈g,l.length<=2000000):∀i,i<=g.length->MO g i<=i*2000000
 | 0,_=>by simp[MO]
 | i+1,a=>by
  have:=YI h i (by omega);have:=h g[i] (ϑ (by omega));rw[MN (by omega)];omega
theorem yG{l:List Int}(h:o<l.length):(l.map AE)[o]? =some (AE l[o]):=AP h
theorem sI(a:s<h.length):(h.map ZL)[s]? =some (ZL h[s]):=AP a
theorem xA(a:65536<h.length\/1048576<MO h h.length):(8:Int)=WL h:=by unfold WL;rw[ϱ a]
theorem xB(c:¬65536<h.length)(b:¬1048576<MO h h.length)(a:∃l∈h,bz h.length l):(2:Int)=WL h:=by grind[WL]
theorem xC(c:¬65536<h.length)(b:¬1048576<MO h h.length)(a:¬∃l∈h,bz h.length l):(0:Int)=WL h:=by grind[WL]
theorem io(g:List (List Int))(R:g.length<=1000000)(w:∀l∈g,l.length<=2000000):AI prog 133 [.d (sH g)] (AE (WL g)):=by
 refine Av func133 Z Z ntmps133 Z Z Z λF V=>(AD (AF (AB Z Z (AC (AD (AF (AB Z Z (AC ?_))))))));refine AD (AD (AF (cl Z Z (J (IR Z (χ ..) R3 Z) (cl Z Z (AC (AX (FR (α:=Nat) (λk=>⟨50,[(0,.d (sH g)),(3,(.d (AY (MO g k)))),(10,(.d (sH g))),(11,(.d (AY g.length))),(12,(.d (AY k)))],[]⟩) (λk=>k<=g.length) (λk=>g.length-k) (0) (κ _) (Zm ⟨Z,Z,Z,Z,Z,trivial⟩) ?_))))))));intro k S;refine AD (AF (J (At Z Z Z) (AC (AD (A4 Z (λs=>?_) (λs=>?_))))))
 .refine AU (AD (AX (AD ?_)));have c:k<g.length:=BG s;have Q:=YI w k (by omega);have B:=w _ (ϑ c);have O:=MN c;refine AF (J (Al (k) Z Z (Z) (sI c) R3 Z D8 Z) (J (BZ Z Z BJ Z) (AB Z Z (AC (AF (cl Z Z (cl Z Z ?_)))))));refine J (IR Z (χ ..) E0 Z) (J (Ac Z Z (Ξ _ (by omega)) Z) (Q4 19 (.d (AY (MO g (k+1)))) Z (eqv (jr AE (by omega))) (AB Z Z (AC (AF (J (Ac Z Z (Ξ _ (by omega)) Z) (cl Z Z (AC ?_))))))));exact ⟨k+1,by omega,by omega,⟨Z,Z,λ_ _=>SW.get (l:=[(0,_),(3,_),(10,_),(11,_),(12,_)]) ⟨Z,Z,Z,Z,Z,trivial⟩⟩⟩
 .refine Aq (AD (AD ?_));have E:k=g.length:=by have:=s;omega
  subst E;refine AF (cl Z Z (J (IR Z (χ ..) R3 Z) (J (H1 Z Z Z) (cl Z Z (C5 24 Z (λM=>?_) (λM=>?_))))))
  .refine AN Z Z Z Z ?_;refine AN Z Z Z Z (J (B4 Z Z Z Z) (AC (CM Z Z (AD (AF (AB Z Z (AC (A5 ?_))))))));exact ⟨_,[],[],A2 Z,Z,Z,eqv (jr AE (xA (by omega))),Z⟩
  .refine AT Z Z Z (cl Z Z (AT Z Z Z (J (H1 Z Z Z) (J (Br Z Z Z Z) (AC (A4 Z (λL=>?_) (λL=>?_)))))))
   .refine AD (AF (AB Z Z (AC (A5 ?_))));exact ⟨_,[],[],A2 Z,Z,Z,eqv (jr AE (xA (by omega))),Z⟩
   .refine AU (AD (AD ?_));have h:¬65536<g.length:=by omega
    have f:¬1048576<MO g g.length:=by omega
    refine AF (cl Z Z (J (IR Z (χ ..) R3 Z) (cl Z Z (AC (AX (FR (α:=Nat) (λi=>⟨50,[(0,.d (sH g)),(28,(.d (sH g))),(29,(.d (AY g.length))),(30,(.d (AY i)))],[]⟩) (λi=>i<=g.length/\∀l∈g.take i,¬bz g.length l) (λi=>g.length-i) (0) (⟨κ _,λl w=>by simp at w⟩) (Zm ⟨Z,Z,Z,Z,trivial⟩) ?_))))));rintro i ⟨U,N⟩;refine AD (AF (J (At Z Z Z) (AC (AD (A4 Z (λr=>?_) (λr=>?_))))))
    .refine AU (AD (AX (AD ?_)));have a:i<g.length:=BG r;have B:=w _ (ϑ a);refine AF (J (Al (i) Z Z (Z) (sI a) R3 Z D8 Z) (J (BZ Z Z BJ Z) (AB Z Z ?_)));refine AC (AD (AF (cl Z Z (J (IR Z (χ ..) E0 Z) (cl Z Z (AC (AX (FR (α:=Nat) (λj=>⟨50,[(0,.d (sH g)),(28,(.d (sH g))),(29,(.d (AY g.length))),(30,(.d (AY i))),(34,(.d (ZL g[i]))),(35,(.d (AY g[i].length))),(36,(.d (AY j)))],[]⟩) (λj=>j<=g[i].length/\∀x∈g[i].take j,0<=x/\x<(g.length:Int)) (λj=>g[i].length-j) (0) (⟨κ _,λx y=>by simp at y⟩) (Zm ⟨Z,Z,Z,Z,Z,Z,Z,trivial⟩) ?_))))))));rintro j ⟨T,y⟩;refine AD (AF (J (At Z Z Z) (AC (AD (A4 Z (λo=>?_) (λo=>?_))))))
     .refine AU (AD (AX (AD ?_)));have b:j<g[i].length:=BG o;refine AF (J (Al (j) Z Z (Z) (yG b) E0 Z BE Z) ?_);refine J (BZ Z Z Ag Z) (AB Z Z (AC (AD (AF (cl Z Z (J (At Z Z Z) (cl Z Z (C5 42 Z (λK=>?_) (λK=>?_)))))))))
      .refine AN Z Z Z Z (AN Z Z Z Z (AN Z Z Z Z ?_));refine AN Z Z Z Z (J (B4 Z Z Z Z) (AC (CM Z Z (AD (AF (AB Z Z (AC (A5 ?_))))))));exact ⟨_,[],[],A2 Z,Z,Z,eqv (jr AE (xB h f ⟨g[i],ϑ a,g[i][j],ϑ b,by omega⟩)),Z⟩
      .refine AT Z Z Z (cl Z Z ?_);refine AT Z Z Z (cl Z Z (AT Z Z Z (J (IR Z (χ ..) R3 Z) (AT Z Z Z (J (EH Z Z Z) (J (Br Z Z Z Z) (AC (A4 Z (λI=>?_) (λI=>?_)))))))))
       .refine AD (AF (AB Z Z (AC (A5 ?_))));exact ⟨_,[],[],A2 Z,Z,Z,eqv (jr AE (xB h f ⟨g[i],ϑ a,g[i][j],ϑ b,by omega⟩)),Z⟩
       .refine AU (AF (J (Ac Z Z (Ξ _ (by omega)) Z) (cl Z Z (AC ?_))));exact ⟨j+1,⟨by omega,λx t=>by rw[ψ b] at t;exact (ν.1 t).elim (y x) λe=>by rw[ξ.1 e];exact ⟨by omega,by omega⟩⟩,by omega,⟨Z,Z,λ_ _=>SW.get (l:=[(0,_),(28,_),(29,_),(30,_),(34,_),(35,_),(36,_)]) ⟨Z,Z,Z,Z,Z,Z,Z,trivial⟩⟩⟩
     .refine Aq ?_;have G:j=g[i].length:=by have:=o;omega
      have u:¬bz g.length g[i]:=λ⟨x,A,z⟩=>z (y x (by rw[G,kW];exact A));refine AF (J (Ac Z Z (Ξ _ (by omega)) Z) (cl Z Z (AC ?_)));exact ⟨i+1,⟨by omega,λl v=>by rw[ψ a] at v;exact (ν.1 v).elim (N l) λe=>by rw[ξ.1 e];exact u⟩,by omega,⟨Z,Z,λ_ _=>SW.get (l:=[(0,_),(28,_),(29,_),(30,_)]) ⟨Z,Z,Z,Z,trivial⟩⟩⟩
    .refine Aq (AD (AF (AB Z Z (AC (A5 ?_)))));have H:i=g.length:=by have:=r;omega
     exact ⟨_,[],[],A2 Z,Z,Z,eqv (jr AE (xC h f (λ⟨l,D,C⟩=>N l (by rw[H,kW];exact D) C))),Z⟩
theorem YM(h:TB c a w S k y o)(l:o=(a y).length)(s:S.low y≠S.idx y):
  ∃b u f,k=b++ [(u,f)]/\TH c a w {S with low:=BK S.low u (min (S.low u) (S.low y)),cs:=k} none:=by
 subst l;have g:=Wh h;have j:=(h.ti.lw y g.2.1).1;obtain ⟨b,u,f,e,i⟩:=na h.ti h.hcs (by omega);exact ⟨b,u,f,e,i,h.k1,h.old,.inl h.rt⟩
theorem YL{jo jn:List Nat}(h:TB c a w S k y o)(l:o=(a y).length)(j:S.low y=S.idx y)(g:S.st=jo++y::jn):
  TH c a w {S with of:=λx=>if x∈y::jn then (S.cnt:Int) else S.of x,st:=jo,cs:=k,cnt:=S.cnt+1} none/\∀b u f,k=b++ [(u,f)]->BK S.low u (min (S.low u) (S.low y))=S.low:=by
 subst l;obtain ⟨t,s⟩:=n9 h.ti h.hcs j g;refine ⟨⟨s,h.k1,h.old,.inl h.rt⟩,λb u f e=>funext λx=>?_⟩
 by_cases i:x=u
 .subst i;have:=t (x,f) (by rw[e];exact mG _ (ξ.2 Z));rw[MH]
  grind
 .rw[H3 i]
theorem si{b:Nat}(h:TB c a w S (z++ [(I,b)]) y o):I<c/\y≠I:=by
 have g:(I,b)∈S.cs:=by rw[h.hcs];exact mP _ (mG _ (ξ.2 Z))
 refine ⟨h.ti.lt I ((h.ti.st I).1 (h.ti.csm _ g)).1,λe=>?_⟩;have f:=h.ti.css;rw[h.hcs] at f
 grind
theorem cy{jo jn:List Nat}(h:TI c a S t)(b:S.st=jo++y::jn):y∉jn:=by
 have f:=h.srt;rw[b,rG] at f;intro g;exact mq _ ((mC.1 f.2.1).1 y g)
theorem wq{m j:List (Nat×Nat)}{x:Nat×Nat}(h:o=C.length):((C++ [x]++m++j).map bc)[o]? =some (bc x):=by
 subst h;simp
theorem yF{a c j:List Nat}(h:o=(a++c).length):((a++(c++ [G])++j).map AY)[o]? =some (AY G):=by grind
theorem wX:(IT c (λx=>if x∈E then (B:Int) else A x)).set G (AY B)=IT c (λx=>if x∈G::E then (B:Int) else A x):=by grind[OC]
theorem ee{a jn:List Nat}(h:a++ [G]++E=y::jn)(b:G≠y):a++G::E=y::jn/\a≠ []:=by grind
theorem oR{b jn:List Nat}(h:b++ [G]++E=y::jn)(f:G=y)(g:y∉jn):b=[]/\E=jn:=by
 subst f
 cases b with
 | nil=>simp at h;exact ⟨Z,h⟩
 | cons a c=>
  grind
theorem SE{c:Type}{l:List c}(h:l≠ []):∃a b,l=a++ [b]:=by
 rcases List.eq_nil_or_concat l with e | ⟨a,b,e⟩
 .grind
 grind
theorem nj{g:List Nat}(h:TH c a w S t)(j:S.cs=k++ [(y,o)]/\t=none)(i:∃f,g=S.st++f):
  ∃b:TS,mu c a b=mu c a S/\TB c a w b k y o/\S.idx=b.idx/\S.low=b.low/\S.of=b.of/\S.st.length=b.st.length/\S.cnt=b.cnt/\S.clk=b.clk/\∃f,g=b.st++f:=by grind[sj]
theorem dV(h:TI c a S t):S.st.length<=c:=by
 have:=h.num;have:=(UE h).1;omega
theorem Ur{f:Nat->Nat}(h:∀v,v<s->f v≠0)(a:f s≠0):∀v,v<s+1->f v≠0:=by grind
theorem ng(h:TI c a S none)(g:S.cs=[])(j:s<c)(l:S.idx s=0)(b:∀v,v<s->S.idx v≠0):TH c a s S (some s):=
 ⟨n8 h g j l,λf k=>(by rw[g] at k;cases k),b,.inr Z⟩
theorem wu(h:TI c a S t)(e:S.cs++pend t=C):C.length<=c+1:=by
 have f:=(UE h).2;have b:=dV h;rw[<-e,Δ];have:(pend t).length<=1:=by cases t<;>simp[pend]
 omega
theorem cw(h:TH c a w S t)(b:S.cs++pend t=[]):TI c a S none/\S.cs=[]/\S.idx w≠0:=by
 cases t with
 | some v=>simp[pend] at b
 | none=>exact ⟨h.ti,by simpa [pend] using b,h.rt.resolve_right λe=>by cases e⟩
structure PF (n:Nat) (suc:Nat->List Nat) (r:Nat) (S:TS) (cs0:List (Nat×Nat)) (v:Nat) (low:Nat->Nat):Prop where
 a:low v=S.low v
 b:low v≠S.idx v->TH n suc r {S with low:=low,cs:=cs0} none
 c:∀jo jn,low v=S.idx v->S.st=jo++v::jn->TH n suc r {S with low:=low,of:=λx=>if x∈v::jn then (S.cnt:Int) else S.of x,st:=jo,cs:=cs0,cnt:=S.cnt+1} none
theorem oX{j:Nat}(h:TB c a w S (z++ [(I,j)]) y o)(l:o=(a y).length)(f:y≠I):
  ∃b,BK S.low I (min (S.low I) (S.low y))=b/\PF c a w S (z++ [(I,j)]) y b:=by
 refine ⟨_,Z,⟨H3 f,λi=>?_,λjo jn i g=>?_⟩⟩
 .grind[H3,YM,List.append_inj_right']
 .rw[H3 f] at i;obtain ⟨t,s⟩:=YL h l i g
  grind
theorem oY(h:TB c a w S k y o)(i:o=(a y).length)(u:k=[]):
  ∃b,S.low=b/\PF c a w S k y b:=by
 refine ⟨_,Z,⟨Z,λg=>?_,λjo jn g f=>(YL h i g f).1⟩⟩;obtain ⟨l,s,j,e,t⟩:=YM h i g
 simp_all
theorem sd(a:∀v,v<o->A v= -1):∀v,v<o+1->BK A o (-1) v= -1:=by grind[MH,H3]
theorem Vz(g:List (List Nat))(hg:GB g):AO prog 180 [.d (Nb g)] [] λr H'=>∃of cnt,ky g.length (gs g) of cnt/\r= .tup [.own 2 0 g.length,.d (AY cnt)]/\H'=[(2,[.rowD 3 1 (rowN g.length of)])]:=by
 have hn:=hg.n;refine Av func180 Z Z ntmps180 Z Z Z λF Q=>(AD (AF (AB Z Z (AB Z Z (AC (AD (AF (cl Z Z ?_))))))));refine J (IR Z (χ ..) R3 Z) (AB Z Z (AC (AD (Bm [[],[0],[],[2],[],[4],[0,1],[0,1,2,3,6],rg 8] mixed Z (BY (A7 4 Z Z (Cq [21] [0] [(22,_)] Z Z (λ_=>Cd (FY 0 Ap Z Z Z (by omega) s8 Z Z Z Z)) (.inr ⟨22,_,Z,Z,Z,Z,Z⟩) Z Z Z Z Z (A7 4 Z Z ?_))))))));refine Cq [23] [1] [(24,_)] Z Z (λ_=>Cd (FY 1 Ap Z Z Z (by omega) s8 Z Z Z Z)) (.inr ⟨24,_,Z,Z,Z,Z,Z⟩) Z Z Z Z Z (A7 4 Z Z (Cq [25] [2] [(26,_)] Z Z (λ_=>Cd (FY 2 Ap Z Z Z (by omega) s8 Z Z Z Z)) (.inr ⟨26,_,Z,Z,Z,Z,Z⟩) Z Z Z Z Z (AK [22] Z (J1 Z Z) (AK [24] Z (J1 Z Z) (BR 8 Z Z Z (AZ 9 Z Z (AB Z Z (AC ⟨Z,?_⟩))))))));refine Bb (AD (AD ?_));rw[xf];refine AF (cl Z Z (J (QT Z E0 Z) (cl Z Z (AC (AX (BC (α:=Nat×(Nat->Int)) (λq=>⟨214,[(0,.d (Nb g)),(5,(.own 0 0 g.length)),(6,(.own 1 0 g.length)),(7,(.own 2 0 g.length)),(28,(.d (AY g.length))),(29,(.d (AY q.1)))],[(0,[.rowD 3 1 (IT g.length λ_=>0)]),(1,[.rowD 3 1 (IT g.length λ_=>0)]),(2,[.rowD 3 1 (IT g.length q.2)])]⟩) (λq=>q.1<=g.length/\∀v,v<q.1->q.2 v= -1) (λq=>g.length-q.1) ((0,λ_=>0)) (⟨κ _,λv h=>absurd h (nI _)⟩) (AR Q [0,1,2] Z Z ⟨Z,Z,Z,Z,Z,Z,trivial⟩) ?_))))));rintro ⟨k,f⟩ ⟨hk,hf⟩;dsimp only at hk hf⊢;refine AD (AF (J (At Z Z Z) (AC (AD (A4 Z (λh30=>?_) (λh30=>?_))))))
 .refine AU (AD (AX (AD ?_)));have A:k<g.length:=BG h30;refine AF (cl Z Z (AB Z Z (AC (AF ?_))));refine cl Z Z (cl Z Z (J (DO (k) Z Z (Z) (A) Z E0 BE Z) (V (Zp Z Z Z Z Z (by rw[UX];exact A) dz Z BE) (AC (AF (J (Ac Z Z (Ξ _ (by omega)) Z) (cl Z Z (AC ?_))))))));exact ⟨(k+1,BK f k (-1)),⟨A,sd hf⟩,by show g.length-(k+1)<g.length-k;omega,AR Q [0,1,2] Z (Z) ⟨Z,Z,Z,Z,Z,Z,trivial⟩⟩
 .refine Aq (AD ?_);have hke:k=g.length:=by have:=h30;omega
  subst hke;have hfe:IT g.length f=IT g.length (λ_=> -1):=kT λv hv=>by rw[hf v (Ω.1 hv)]
  rw[hfe];refine AF (AB Z Z ?_);skip;refine AC (AD (AF (AB Z Z (AB Z Z (AC (AD ?_))))));refine AD (AF (cl Z Z (J (IR Z (χ ..) R3 Z) (cl Z Z (AC (AX (IY 9 3 Ap Z Z Z Z (BC (α:=Nat×TS×List Nat) (λq=>⟨214,[(0,.d (Nb g)),(5,(.own 0 0 g.length)),(6,(.own 1 0 g.length)),(7,(.own 2 0 g.length)),(9,(.own 3 0 q.2.1.st.length)),(10,(.d (AY q.2.1.cnt))),(11,(.d (AY q.2.1.clk))),(37,(.d (AY g.length))),(38,(.d (AY q.1)))],[(0,[.rowD 3 1 (rowN g.length q.2.1.idx)]),(1,[.rowD 3 1 (rowN g.length q.2.1.low)]),(2,[.rowD 3 1 (IT g.length q.2.1.of)]),(3,[.rowD 3 1 (q.2.2.map AY)])]⟩) (λq=>q.1<=g.length/\TI g.length (gs g) q.2.1 none/\q.2.1.cs=[]/\(∀v,v<q.1->q.2.1.idx v≠0)/\∃W,q.2.2=q.2.1.st++W) (λq=>g.length-q.1) ((0,⟨λ_=>0,λ_=>0,λ_=> -1,[],[],0,0⟩,[])) (⟨κ _,n7 _ _,Z,λv h=>absurd h (nI _),[],Z⟩) (AR Q [0,1,2,3] Z Z ⟨Z,Z,Z,Z,Z,Z,Z,Z,Z,trivial⟩) ?_))))))));rintro ⟨i,S,E⟩ ⟨hi,hti,hcs,I,C⟩;dsimp only at hi hti hcs I C⊢;refine AD (AF (J (At Z Z Z) (AC (AD (A4 Z (λh39=>?_) (λh39=>?_))))))
  .refine AU (AD (AX (AD ?_)));have hil:i<g.length:=BG h39;refine AF (cl Z Z (AB Z Z (AC (AD ?_))));refine AD (AF (cl Z Z (cl Z Z (J (DO (i) Z Z (Z) (hil) Z E0 BE Z) (J (ED Z Z (O4 hil) Z Ag Z) (J (DP Z Z Z) (AC (A4 Z (λh45=>?_) (λh45=>?_)))))))))
   .refine Aq ?_
    first | have hE:=cw y (hfr▸List.length_eq_zero_iff.1 (by omega)) | skip
    refine AF (J (Ac Z Z (Ξ _ (by omega)) Z) (cl Z Z (AC ?_)));exact ⟨(i+1,S,E),⟨hil,hti,hcs,Ur I (λe2=>h45 (jr Int.ofNat e2)),C⟩,by show g.length-(i+1)<g.length-i;omega,AR Q [0,1,2,3] Z (Z) ⟨Z,Z,Z,Z,Z,Z,Z,Z,Z,trivial⟩⟩
   .refine AU (AD ?_);have h0:S.idx i=0:=Int.ofNat.inj (Classical.not_not.1 h45);refine AF (cl Z Z (J (Dx rI rn Z Z Z) (V (CB 4 da Z Z Z Z Z Z Z Z) (AB Z Z (AC (AX (BC (α:=TS×Option Nat×List (Nat×Nat)×List Nat×List (Nat×Nat)) (λq=>⟨214,[(0,.d (Nb g)),(5,(.own 0 0 g.length)),(6,(.own 1 0 g.length)),(7,(.own 2 0 g.length)),(9,(.own 3 0 q.1.st.length)),(10,(.d (AY q.1.cnt))),(11,(.d (AY q.1.clk))),(13,(.own 4 0 q.2.2.1.length)),(37,(.d (AY g.length))),(38,(.d (AY i)))],[(0,[.rowD 3 1 (rowN g.length q.1.idx)]),(1,[.rowD 3 1 (rowN g.length q.1.low)]),(2,[.rowD 3 1 (IT g.length q.1.of)]),(3,[.rowD 3 1 (q.2.2.2.1.map AY)]),(4,[.rowD 318 2 (q.2.2.2.2.map bc)])]⟩) (λq=>TH g.length (gs g) i q.1 q.2.1/\q.2.2.1=q.1.cs++pend q.2.1/\(∃W,q.2.2.2.1=q.1.st++W)/\∃U,q.2.2.2.2=q.2.2.1++U) (λq=>mu g.length (gs g) q.1) ((S,some i,[(i,0)],E,[(i,0)])) (⟨ng hti hcs hil h0 I,by rw[hcs];rfl,C,[],Z⟩) (AR Q [0,1,2,3,4] Z Z ⟨Z,Z,Z,Z,Z,Z,Z,Z,Z,Z,trivial⟩) ?_)))))));rintro ⟨S,p,fr,E,r4⟩ ⟨y,hfr,C,U,hr4⟩;dsimp only at y hfr C hr4⊢;have hclk:=UE y.ti;refine AD (AD (AF (cl Z Z (J (QT Z cG Z) (J (H1 Z Z Z) (AC (A4 Z (λh51=>?_) (λh51=>?_))))))))
    .refine AU (AX (AD ?_));have hne:S.cs++pend p≠ []:=λe=>by rw[hfr,e] at h51;exact absurd h51 (by decide)
     obtain ⟨o,v,k,hcs2,s,hk0,hk1⟩:=nf y hne;have hfrl:=wu y.ti hcs2;have hfr2:=hfr.trans hcs2;subst hfr2;have hlen1:(((o++ [(v,k)]).length:Nat):Int)-1=(o.length:Int):=by simp
     have hlen2:o.length<(o++ [(v,k)]).length:=by simp
     subst hr4;refine AF (cl Z Z (cl Z Z (J (QT Z cG Z) (J (MC Z Z (Ξ _ (by omega)) Z) (J (DO (o.length) Z Z (hlen1) (hlen2) Z cG dD Z) (AB Z Z (AC (AD ?_))))))));refine AD (AF (cl Z Z (J (cL Z Z) (J (Zn Z L5 Z Z Z) (J (ED Z Z (Mq Z) Z Ag Z) (J (GW Z Z Z) (AC (A4 Z (λh61=>?_) (λh61=>?_)))))))));refine AD ?_;obtain ⟨hcs3,hp3⟩:=hk0 (Int.ofNat.inj h61);have hcl:=hclk.1;refine AF (cl Z Z (J (Ac Z Z (Ξ _ (by omega)) Z) (Q4 63 (.d (AY (S.clk+1))) Z (eqv (jr AE (by omega))) (AB Z Z (AC (AD (Bm [[],[],[1],[1,2],[1,2,3],[],[],[6],[6,7],[6,7,8],[],[],[0,1,2,3,4,6,7,8,9,10],[0,1,2,3,4,6,7,8,9,10,12],rg 14,rg 15] mixed Z (BY ?_))))))));refine A7 5 Z Z (A7 14 Z Z (AK [65] Z (cL Z Z) (AK [66] Z (Zn Z F4 Z Z Z) (Ay [67] Z Z (λ_=>A9 (ED Z Z (Mq Z) Z Ag Z)) (A7 6 Z Z (A7 14 Z Z (AK [70] Z (cL Z Z) (AK [71] Z (Zn Z F4 Z Z Z) ?_))))))));refine Ay [72] Z Z (λ_=>A9 (ED Z Z (Mq Z) Z Ag Z)) (A7 11 Z Z (A7 11 Z Z (Ay [64,68] Z Z (λ_=>A9 (DO (v) Z Z (Z) (s) Z E0 BE Z)) (Cq [76,74] [0] [] Z Z (λ_=>Cd (Zp Z Z Z Z Z (by rw[EN];exact s) EM Z BE)) (.inl ⟨Z,Z⟩) Z Z Z Z Z (BR 14 Z Z Z (AZ 15 Z Z (J (DO (v) Z Z (Z) (s) Z E0 BE Z) (AC ⟨Z,?_⟩))))))));refine AZ 16 Z Z (V (Zp Z Z Z Z Z (by rw[EN];exact s) EM Z BE) (AC ⟨Z,?_⟩));refine Bb ?_;obtain ⟨W,M⟩:=C;subst M;have hstl:=dV y.ti;refine AF (cl Z Z (cl Z Z (J (cL Z Z) (J (Zn Z F4 Z Z Z) (J (ED Z Z (Mq Z) Z Ag Z) (V (CB 21 Ap Z Z Z Z Z Z Z Z) (V (H9 Z Z Z (by simp) Z Z (by simp) Ap (by omega) Z Z (rP S.st W) Z Z) (AB Z Z ?_))))))));subst hp3;have X:=cx y;have hmu0:mu g.length (gs g) _=mu g.length (gs g) S:=fh (S:=S) (l:=BK S.low v (S.clk+1)) (st:=S.st++ [v]) (c:=S.clk+1) s (y.ti.pnd v Z).2.1
     obtain ⟨a,D⟩:∃a:TS,a=⟨BK S.idx v (S.clk+1),BK S.low v (S.clk+1),S.of,S.st++ [v],S.cs++ [(v,0)],S.cnt,S.clk+1⟩:=⟨_,Z⟩
     have e1:BK S.idx v (S.clk+1)=a.idx:=by rw[D]
     have e2:BK S.low v (S.clk+1)=a.low:=by rw[D]
     have e3:S.of=a.of:=by rw[D]
     have e4:S.st.length+1=a.st.length:=by rw[D];simp
     have e5:S.cnt=a.cnt:=by rw[D]
     have e6:S.clk+1=a.clk:=by rw[D]
     have z:∃W,S.st++ [v]=a.st++W:=⟨[],by rw[D,kZ]⟩
     obtain ⟨E,hr3e⟩:∃E,S.st++ [v]=E:=⟨_,Z⟩
     rw[<-D] at X hmu0;rw[e1,e2,e3,e4,e5,e6,hr3e];rw[hr3e] at z;have N:=hmu0;have b:TB g.length (gs g) i a o v k:=by rw[hcs3,<-Int.ofNat.inj h61] at X;exact X
     refine AC ?_
     rotate_left
     obtain ⟨a,N,b,e1,e2,e3,e4,e5,e6,z⟩:=nj y (hk1 λe=>h61 (jr Int.ofNat e)) C;rw[e1,e2,e3,e4,e5,e6];refine AU ?_
     all_goals
      refine AD (AD ?_);refine Bm [[],[0],[0,1],[0,1,2],[],[],[5],[5,6],[5,6,7],[4,5,6,7,8],[4,5,6,7,8,9],[4,5,6,7,8,9,10],rg 12] mixed Z (BY (A7 14 Z Z (AK [85] Z (cL Z Z) (AK [86] Z (Zn Z L5 Z Z Z) (Ay [87] Z Z (λ_=>A9 (ED Z Z (Mq Z) Z Ag Z)) (A7 0 Z Z (A7 14 Z Z (AK [90] Z (cL Z Z) ?_))))))));refine AK [91] Z (Zn Z F4 Z Z Z) (Ay [92] Z Z (λ_=>A9 (ED Z Z (Mq Z) Z Ag Z)) (AK [89,93] Z (Al (v) Z Z (Z) (ba s) R3 Z D8 Z) (AK [94] Z (BZ Z Z BJ Z) (AK [95] Z (IR Z (χ ..) E0 Z) (BR 12 Z Z Z (AZ 13 Z Z (J (At Z Z Z) (AC ⟨Z,?_⟩))))))));refine Bb (A4 Z (λh97=>?_) (λh97=>?_))
      .refine AD ?_;have A:k<(gs g v).length:=BG h97;have B:hU (gs g v) k<g.length:=hg.suc s (EQ A);have hgn:=Pe A;have hjk:(gs g v)[k]? =some (hU (gs g v) k):=fT A
       obtain ⟨j,hje⟩:∃j,hU (gs g v) k=j:=⟨_,Z⟩
       rw[hje] at B hgn hjk;have hsl:=hg.len s;refine Bm [[],[],[1],[1,2],[1,2,3],rg 5,rg 6,[],[7],[7,8],[7,8,9],rg 11,rg 12,rg 13] mixed Z (BY (A7 0 Z Z (A7 14 Z Z (AK [99] Z (cL Z Z) (AK [100] Z (Zn Z F4 Z Z Z) (Ay [101] Z Z (λ_=>A9 (ED Z Z (Mq Z) Z Ag Z)) (AK [98,102] Z (Al (v) Z Z (Z) (ba s) R3 Z D8 Z) ?_)))))));refine AK [103] Z (BZ Z Z BJ Z) (A7 14 Z Z (AK [105] Z (cL Z Z) (AK [106] Z (Zn Z L5 Z Z Z) (Ay [107] Z Z (λ_=>A9 (ED Z Z (Mq Z) Z Ag Z)) (BR 11 Z Z Z (AZ 12 Z Z (J (Al (k) Z Z (Z) (hgn) E0 Z BE Z) (AC ⟨Z,?_⟩))))))));refine AZ 13 Z Z (J (BZ Z Z Ag Z) (AC ⟨Z,?_⟩));refine AZ 14 Z Z (AB Z Z (AC ⟨Z,?_⟩));refine Bb (AD (AF (cl Z Z (J (cL Z Z) (J (Zn Z L5 Z Z Z) ?_)))));refine J (ED Z Z (Mq Z) Z Ag Z) (J (Ac Z Z (Ξ _ (by omega)) Z) (Q4 115 (.d (AY (k+1))) Z (eqv (jr AE (by omega))) (J (cL Z Z) (J (Zn Z L5 Z Z Z) (V (Qq (z':=bc (v,k+1)) Z Z Z Z (Mq Z) Z (Θ 2) (xb Z) Z Z BE) (AC (AD (AD ?_))))))));rw[show (o++ [(v,k)]).length=(o++ [(v,k+1)]).length by simp] at hfrl⊢;refine AF (cl Z Z (cl Z Z (J (DO (j) Z Z (Z) (B) Z E0 BE Z) (J (ED Z Z (O4 B) Z Ag Z) (J (GW Z Z Z) (AC (A4 Z (λL=>?_) (λL=>?_))))))))
       .refine AF ?_;refine cl Z Z (cl Z Z (J (Dx rI rn Z Z Z) (V (CB 22 da Z Z Z Z Z Z Z Z) (V (H9 Z Z Z (by simp) Z Z (by simp) da (by omega) Z Z (v8 (x:=(j,0)) (o++ [(v,k+1)]) U) Z Z) (Q4 127 (.own 4 0 (o++ [(v,k+1)]++ [(j,0)]).length) Z (by simp) (AB Z Z (AC (Aq ?_))))))));exact ⟨(⟨a.idx,a.low,a.of,a.st,o++ [(v,k+1)],a.cnt,a.clk⟩,some j,o++ [(v,k+1)]++ [(j,0)],E,o++ [(v,k+1)]++ [(j,0)]),⟨sk b hjk B (Int.ofNat.inj L),Z,z,[],(kZ _).symm⟩,by rw[<-N];exact XU b.hcs A,AR Q [0,1,2,3,4] Z (Z) ⟨Z,Z,Z,Z,Z,Z,Z,Z,Z,Z,trivial⟩⟩
       .refine AD (AF (cl Z Z (cl Z Z (J (DO (j) Z Z (Z) (B) Z E0 BE Z) (J (ED Z Z (eA B) Z Ag Z) (J (At Z Z Z) (AC (A4 Z (λh132=>?_) (λh132=>?_)))))))))
        .refine Bm [[],[],[1],[1,2],[1,2,3],[],[],[6],[6,7],[6,7,8],[5,6,7,8,9],[5,6,7,8,9,10],[],[],[12,13],[12,13,14],[5,6,7,8,9,10,11,12,13,14,15],rg 17,rg 18] mixed Z (BY (A7 6 Z Z (A7 14 Z Z (AK [134] Z (cL Z Z) ?_))));refine AK [135] Z (Zn Z F4 Z Z Z) (Ay [136] Z Z (λ_=>A9 (ED Z Z (Mq Z) Z Ag Z)) (A7 6 Z Z (A7 14 Z Z (AK [139] Z (cL Z Z) (AK [140] Z (Zn Z F4 Z Z Z) (Ay [141] Z Z (λ_=>A9 (ED Z Z (Mq Z) Z Ag Z)) (Ay [138,142] Z Z (λ_=>A9 (DO (v) Z Z (Z) (s) Z E0 BE Z)) (Ay [143] Z Z (λ_=>A9 (ED Z Z (O4 s) Z Ag Z)) ?_))))))));refine A7 5 Z Z (A7 15 Z Z (Ay [145,146] Z Z (λ_=>A9 (DO (j) Z Z (Z) (B) Z E0 BE Z)) (Ay [147] Z Z (λ_=>A9 (ED Z Z (O4 B) Z Ag Z)) (AK [144,148] Z (S7 Z Z (tc _ _) Z) (BR 17 Z Z Z (AZ 18 Z Z (J (DO (v) Z Z (Z) (s) Z E0 BE Z) (AC ⟨Z,?_⟩))))))));refine AZ 19 Z Z (V (Zp Z Z Z Z Z (by rw[EN];exact s) EM Z BE) (AC ⟨Z,?_⟩));refine Bb (Aq ?_);exact ⟨(⟨a.idx,BK a.low v (min (a.low v) (a.idx j)),a.of,a.st,o++ [(v,k+1)],a.cnt,a.clk⟩,none,o++ [(v,k+1)],E,o++ [(v,k+1)]++U),⟨sm b hjk B (λe=>L (jr Int.ofNat e)) h132,(kZ _).symm,z,U,Z⟩,by rw[<-N];exact XU b.hcs A,AR Q [0,1,2,3,4] Z (Z) ⟨Z,Z,Z,Z,Z,Z,Z,Z,Z,Z,trivial⟩⟩
        .refine AU (Aq ?_);exact ⟨(⟨a.idx,a.low,a.of,a.st,o++ [(v,k+1)],a.cnt,a.clk⟩,none,o++ [(v,k+1)],E,o++ [(v,k+1)]++U),⟨nk b hjk B (λe=>L (jr Int.ofNat e)) h132,(kZ _).symm,z,U,Z⟩,by rw[<-N];exact XU b.hcs A,AR Q [0,1,2,3,4] Z (Z) ⟨Z,Z,Z,Z,Z,Z,Z,Z,Z,Z,trivial⟩⟩
      .refine AU (AD ?_);have hke:k=(gs g v).length:=by have:=(Wh b).2.2.2;have:=h97;omega
       refine AF (cl Z Z (J (cL Z Z) (J (Zn Z F4 Z Z Z) (J (ED Z Z (Mq Z) Z Ag Z) (AB Z Z ?_)))));refine AC (AD (AF (cl Z Z (cl Z Z (J (QT Z cG Z) (J (MC Z Z (Ξ _ (by omega)) Z) (J (J0 o.length Z Z hlen1 (by simp) Z cG dD Z) (AB Z Z ?_))))))));refine AC (AD (AD (AF (cl Z Z (J (QT Z cG Z) (J (H1 Z Z Z) (AC (A4 Z (λh162=>?_) (λh162=>?_)))))))));refine AD ?_;obtain ⟨R,⟨u,ku⟩,hcu⟩:=SE (l:=o) (λe=>by rw[e] at h162;exact absurd h162 (by decide));subst hcu;obtain ⟨hun,hvu⟩:=si b;have hlen3:(((R++ [(u,ku)]).length:Nat):Int)-1=(R.length:Int):=by simp
       have hlen4:R.length<(R++ [(u,ku)]).length:=by simp
       refine AF (cl Z Z (cl Z Z (J (QT Z cG Z) (J (MC Z Z (Ξ _ (by omega)) Z) (J (DO (R.length) Z Z (hlen3) (hlen4) Z cG dD Z) (J (Zn Z F4 Z Z Z) (J (ED Z Z (wq Z) Z Ag Z) (AB Z Z ?_))))))));refine AC (Bm [[],[],[],[],[2,3],[2,3,4],[],[],[6,7],[6,7,8],[2,3,4,5,6,7,8,9],rg 11,rg 12] mixed Z (BY (A7 6 Z Z (A7 17 Z Z (A7 6 Z Z (A7 17 Z Z (Ay [172,173] Z Z (λ_=>A9 (DO (u) Z Z (Z) (hun) Z E0 BE Z)) (Ay [174] Z Z (λ_=>A9 (ED Z Z (O4 hun) Z Ag Z)) ?_))))))));refine A7 6 Z Z (A7 16 Z Z (Ay [176,177] Z Z (λ_=>A9 (DO (v) Z Z (Z) (s) Z E0 BE Z)) (Ay [178] Z Z (λ_=>A9 (ED Z Z (O4 s) Z Ag Z)) (AK [175,179] Z (S7 Z Z (tc _ _) Z) (BR 11 Z Z Z (AZ 12 Z Z (J (DO (u) Z Z (Z) (hun) Z E0 BE Z) (AC ⟨Z,?_⟩))))))));refine AZ 13 Z Z (V (Zp Z Z Z Z Z (by rw[EN];exact hun) EM Z BE) (AC ⟨Z,?_⟩));refine Bb ?_
       rotate_left
       refine AU ?_
       all_goals
        refine AD (AD ?_)
        first | (obtain ⟨H,G,hPX⟩:=oX b hke hvu;rw[G];obtain ⟨t,hcX⟩:∃l,R++ [(u,ku)]=l:=⟨_,Z⟩;rw[hcX] at b hPX⊢) | (obtain ⟨H,G,hPX⟩:=oY b hke (List.length_eq_zero_iff.1 (by omega));rw[G];obtain ⟨t,hcX⟩:∃l,o=l:=⟨_,Z⟩;rw[hcX] at b hPX⊢)
        refine Bm [[],[],[0,1],[0,1,2],[],[],[4,5],[4,5,6],rg 8] mixed Z (BY (A7 6 Z Z (A7 16 Z Z (Ay [182,183] Z Z (λ_=>A9 (DO (v) Z Z (Z) (s) Z E0 BE Z)) ?_))));refine Ay [184] Z Z (λ_=>A9 (ED Z Z (O4 s) Z Ag Z)) (A7 5 Z Z (A7 16 Z Z (Ay [186,187] Z Z (λ_=>A9 (DO (v) Z Z (Z) (s) Z E0 BE Z)) (Ay [188] Z Z (λ_=>A9 (ED Z Z (O4 s) Z Ag Z)) (BR 8 Z Z Z (AZ 9 Z Z (J (DP Z Z Z) (AC ⟨Z,?_⟩))))))));refine Bb (A4 Z (λh190=>?_) (λh190=>?_))
        .refine Aq ?_;exact ⟨(⟨a.idx,H,a.of,a.st,t,a.cnt,a.clk⟩,none,t,E,t++ [(v,k)]++U),⟨hPX.b (λe=>h190 (jr Int.ofNat e)),(kZ _).symm,z,[(v,k)]++U,lm _ _ _⟩,by rw[<-N];exact fi b.hcs,AR Q [0,1,2,3,4] Z (Z) ⟨Z,Z,Z,Z,Z,Z,Z,Z,Z,Z,trivial⟩⟩
        .refine AU (AD (AX ?_));obtain ⟨jo,jn,hst⟩:=List.append_of_mem (Wh b).2.1;obtain ⟨W,M⟩:=z;have hndp:=cy b.ti hst;have hof:IT g.length a.of=IT g.length (λx=>if x∈([]:List Nat) then (a.cnt:Int) else a.of x):=(by simp);rw[hof,show a.st.length=(jo++(v::jn)).length by rw[hst]];have Y:=dV b.ti;have hstv:∀x∈jo++v::jn,x<g.length:=(λx hx=>b.ti.lt x ((b.ti.st x).1 (by rw[hst];exact hx)).1);rw[hst] at M Y;refine BC (α:=List Nat×List Nat) (λq=>⟨214,[(0,.d (Nb g)),(5,(.own 0 0 g.length)),(6,(.own 1 0 g.length)),(7,(.own 2 0 g.length)),(9,(.own 3 0 (jo++q.1).length)),(10,(.d (AY a.cnt))),(11,(.d (AY a.clk))),(13,(.own 4 0 t.length)),(16,(.d (AY v))),(37,(.d (AY g.length))),(38,(.d (AY i)))],[(0,[.rowD 3 1 (rowN g.length a.idx)]),(1,[.rowD 3 1 (rowN g.length H)]),(2,[.rowD 3 1 (IT g.length (λx=>if x∈q.2 then (a.cnt:Int) else a.of x))]),(3,[.rowD 3 1 (E.map AY)]),(4,[.rowD 318 2 ((t++ [(v,k)]++U).map bc)])]⟩) (λq=>q.1++q.2=v::jn/\q.1≠ []) (λq=>q.1.length) ((v::jn,[])) (⟨kZ _,λe=>by cases e⟩) (AR Q [0,1,2,3,4] Z Z ⟨Z,Z,Z,Z,Z,Z,Z,Z,Z,Z,Z,trivial⟩) ?_;rintro ⟨c,dn⟩ ⟨O,hcne⟩;dsimp only at O hcne⊢;refine AX (AD ?_);obtain ⟨T,w,hcw⟩:=SE hcne;subst hcw;have hws:jo++v::jn++W=jo++(T++ [w])++(dn++W):=by rw[<-O];simp
         have hwn:w<g.length:=hstv w (by rw[<-O];simp);have hl6:(jo++(T++ [w])).length<=g.length:=by rw[<-O] at Y;simp at Y⊢;omega
         have hl7:(((jo++(T++ [w])).length:Nat):Int)-1=((jo++T).length:Int):=by simp<;>omega
         have hl8:(jo++T).length<(jo++(T++ [w])).length:=by simp
         have hl9:(jo++T).length<=(E.map AY).length:=by rw[M,hws];simp<;>omega
         have hgw:(E.map AY)[(jo++T).length]? =some (AY w):=by rw[M,hws];exact yF rfl
         refine AF (cl Z Z (cl Z Z (J (QT Z E0 Z) (J (MC Z Z (Ξ _ (by omega)) Z) (J (DO ((jo++T).length) Z Z (hl7) (hl8) Z E0 BE Z) (J (ED Z Z (hgw) Z Ag Z) (AB Z Z ?_)))))));refine AC (AD (AF (cl Z Z (cl Z Z (J (QT Z E0 Z) (J (MC Z Z (Ξ _ (by omega)) Z) (J (J0 (jo++T).length Z Z hl7 hl9 Z E0 BE Z) (AB Z Z ?_))))))));skip;refine AC (AD (AF (cl Z Z (cl Z Z (cl Z Z (J (DO (w) Z Z (Z) (hwn) Z E0 BE Z) ?_))))));refine V (Zp Z Z Z Z Z (by rw[UX];exact hwn) wX Z BE) (AC (AD (AF (cl Z Z (cl Z Z (J (GW Z Z Z) (AC (A4 Z (λK=>?_) (λK=>?_)))))))))
         .refine Aq ?_;obtain ⟨hc0,hdn⟩:=oR O (Int.ofNat.inj K) hndp;subst hc0;rw[kZ,hdn,Int.ofNat.inj K];have hcl3:=b.ti.num;have hcl4:=(UE b.ti).1;refine AF (cl Z Z (J (Ac Z Z (Ξ _ (by omega)) Z) (Q4 210 (.d (AY (a.cnt+1))) Z (eqv (jr AE (by omega))) (AB Z Z (AC ?_)))));exact ⟨(⟨a.idx,H,λx=>if x∈v::jn then (a.cnt:Int) else a.of x,jo,t,a.cnt+1,a.clk⟩,none,t,E,t++ [(v,k)]++U),⟨hPX.c jo jn (Int.ofNat.inj (Classical.not_not.1 h190)) hst,(kZ _).symm,⟨v::jn++W,by rw[M];simp⟩,[(v,k)]++U,lm _ _ _⟩,by rw[<-N];exact fi b.hcs,AR Q [0,1,2,3,4] Z (Z) ⟨Z,Z,Z,Z,Z,Z,Z,Z,Z,Z,trivial⟩⟩
         .refine AU ?_;exact ⟨(T,w::dn),ee O (λe=>K (jr Int.ofNat e)),by show T.length<(T++ [w]).length;simp,AR Q [0,1,2,3,4] Z (Z) ⟨Z,Z,Z,Z,Z,Z,Z,Z,Z,Z,Z,trivial⟩⟩
    .refine Aq ?_
     first | have hE:=cw y (hfr▸List.length_eq_zero_iff.1 (by omega)) | skip
     refine AF (J (Ac Z Z (Ξ _ (by omega)) Z) (cl Z Z (AC ?_)));exact ⟨(i+1,S,E),⟨hil,hE.1,hE.2.1,Ur y.old hE.2.2,C⟩,by show g.length-(i+1)<g.length-i;omega,AR Q [0,1,2,3] Z (Z) ⟨Z,Z,Z,Z,Z,Z,Z,Z,Z,trivial⟩⟩
  .refine Aq (AD ?_);have hin:i=g.length:=by have:=h39;omega
   subst hin;obtain ⟨hof,hofe⟩:=cv hti hcs I;have hre:IT g.length S.of=rowN g.length (λv=>(S.of v).toNat):=kT λv hv=>jr AE (hofe v (Ω.1 hv));rw[hre];refine AF (cl Z Z (cl Z Z (AB Z Z (AB Z Z (AC (A5 ?_))))));exact ⟨_,[2],_,A2 Z,Z,Z,_,_,hof,Z,Z⟩
abbrev HL(lst:List Nat):Hp:=[(5,[.blk 28 [.own 6 0 lst.length]]),(6,[.rowD 3 1 (lst.map AY)])]
theorem ou(c:List Nat)(a b:Nat)(g:a<c.length)(f:b<c.length):AO prog 182 [.d (AY a),.d (AY b),.ptr 5 0 0] (HL c) λr h=>r= .d (Aj (decide (hU c a<hU c b)))/\h=HL c:=by
 refine Av func182 Z Z ntmps182 Z Z Z λF i=>(AD ?_);refine AF (AB Z Z (AC (AD (Bm [[],[],[0,1],[0,1,2],[],[],[4,5],[4,5,6],rg 8,rg 9] mixed Z (BY (Ay [2] Z Z (λ_=>A9 (AQ Z Z Z BJ Z)) (A7 0 Z Z (Ay [6,7] Z Z (λ_=>A9 (DO (a) Z Z (Z) (g) Z E0 BE Z)) ?_))))))));refine Ay [8] Z Z (λ_=>A9 (ED Z Z (Pe g) Z Ag Z)) (Ay [2] Z Z (λ_=>A9 (AQ Z Z Z BJ Z)) (A7 1 Z Z (Ay [10,11] Z Z (λ_=>A9 (DO (b) Z Z (Z) (f) Z E0 BE Z)) (Ay [12] Z Z (λ_=>A9 (ED Z Z (Pe f) Z Ag Z)) (BR 8 Z Z Z (AZ 9 Z Z (J (At Z Z Z) (AC ⟨Z,?_⟩))))))));refine AZ 10 Z Z (AB Z Z (AC ⟨Z,?_⟩));refine Bb (A5 ?_);exact ⟨_,[5,6],_,A2 Z,Z,Z,yJ Int.ofNat_lt,Z⟩
abbrev Nm(lst:List Nat)(l j:List Nat):Hp:=[(1,[.blk 323 [.own 2 0 l.length,.fn 182 [.ptr 5 0 0]]]),(2,[.rowD 3 1 ((l++j).map AY)]),(5,[.blk 28 [.own 6 0 lst.length]]),(6,[.rowD 3 1 (lst.map AY)])]
theorem V7{a:List Nat}(h:s<j.length):((j++a).map AY)[s]? =some (AY (hU j s)):=by
 rw[Pe (by rw[Δ];omega),Yu h]
theorem X0(a:List Nat)(l j:List Nat):AO prog 223 [.ptr 1 0 0] (Nm a l j) λr b=>r= .d (AY l.length)/\b=Nm a l j:=by
 refine Av func223 Z Z ntmps223 Z Z Z λF c=>(AD (AF (AB Z Z (AC (AD ?_)))));refine AF (cl Z Z (J (MB Z Z) (J (AL Z Zk Z Z Z) (J (AQ Z Z Z BJ Z) (J (QT Z E0 Z) (AB Z Z (AC (A5 ?_))))))));exact ⟨_,[1,2,5,6],_,A2 Z,Z,Z,Z,Z⟩
theorem Sr(c:List Nat)(l j:List Nat)(i:∀x∈l,x<c.length)(a b:Nat)(h:a<l.length)(g:b<l.length):AO prog 296 [.ptr 1 0 0,.d (AY a),.d (AY b)] (Nm c l j) λr k=>r= .d (Aj (decide (hU c (hU l a)<hU c (hU l b))))/\k=Nm c l j:=by
 have f:=ou c (hU l a) (hU l b) (i _ (EQ h)) (i _ (EQ g));refine Av func296 Z Z ntmps296 Z Z Z λF o=>(AD (AF ?_));refine AB Z Z (AC (AD (Bm [[],[0],[0,1],[0,1,2],[],[4],[4,5],[4,5,6],[],[4,5,6,7,8],[4,5,6,7,8,9],[],[11],[11,12],[11,12,13],[],[11,12,13,14,15],[11,12,13,14,15,16],rg 18,rg 19] mixed Z (BY (A7 0 Z Z (AK [7] Z (MB Z Z) (AK [8] Z (AL Z pO Z Z Z) (Ay [9] Z Z (λ_=>A9 (AQ Z Z Z wT Z)) ?_))))))));refine A7 0 Z Z (AK [11] Z (MB Z Z) (AK [12] Z (AL Z Zk Z Z Z) (Ay [13] Z Z (λ_=>A9 (AQ Z Z Z BJ Z)) (A7 1 Z Z (Ay [14,15] Z Z (λ_=>A9 (DO (a) Z Z (Z) (h) Z E0 BE Z)) (Ay [16] Z Z (λ_=>A9 (ED Z Z (V7 h) Z Ag Z)) (A7 0 Z Z (AK [18] Z (MB Z Z) ?_))))))));refine AK [19] Z (AL Z Zk Z Z Z) (Ay [20] Z Z (λ_=>A9 (AQ Z Z Z BJ Z)) (A7 2 Z Z (Ay [21,22] Z Z (λ_=>A9 (DO (b) Z Z (Z) (g) Z E0 BE Z)) (Ay [23] Z Z (λ_=>A9 (ED Z Z (V7 g) Z Ag Z)) (BR 18 Z Z Z (AZ 19 Z Z (V (cQ f Z [5,6] ⟨Z,Z,trivial⟩ Z Z Z Z Z Z Z Z Z) (AC ⟨Z,?_⟩))))))));refine AZ 20 Z Z (AB Z Z (AC ⟨Z,?_⟩));refine Bb (A5 ?_);exact ⟨_,[1,2,5,6],_,A2 Z,Z,Z,Z,Z⟩
theorem S5(c:List Nat)(l j:List Nat)(a b:Nat)(g:a<l.length)(f:b<l.length):AO prog 299 [.ptr 1 0 0,.d (AY a),.d (AY b)] (Nm c l j) λr k=>r= .tup []/\k=Nm c (NR l a b) j:=by
 have i:a<(l++j).length:=by rw[Δ];omega
 have h:b<((l++j).set a (hU l b)).length:=by rw[kq,Δ];omega
 refine Av func299 Z Z ntmps299 Z Z Z λF o=>(Bm [[],[0],[0,1],[0,1,2],[],[],[5],[5,6],[5,6,7],[],[],[10],[10,11],[10,11,12],[],[10,11,12,13,14],[10,11,12,13,14,15],[],[17],[17,18],[17,18,19],[],[17,18,19,20,21],[17,18,19,20,21,22],[0,1,2,3,4,5,6,7,8,10,11,12,13,14,15,16,17,18,19,20,21,22,23],[0,1,2,3,4,5,6,7,8,10,11,12,13,14,15,16,17,18,19,20,21,22,23,24],rg 26,rg 27] mixed Z (BY (A7 0 Z Z (AK [6] Z (MB Z Z) (AK [7] Z (AL Z Zk Z Z Z) ?_)))));refine Ay [8] Z Z (λ_=>A9 (AQ Z Z Z BJ Z)) (A7 1 Z Z (A7 0 Z Z (AK [11] Z (MB Z Z) (AK [12] Z (AL Z Zk Z Z Z) (Ay [13] Z Z (λ_=>A9 (AQ Z Z Z BJ Z)) (A7 2 Z Z (A7 0 Z Z (AK [16] Z (MB Z Z) ?_))))))));refine AK [17] Z (AL Z Zk Z Z Z) (Ay [18] Z Z (λ_=>A9 (AQ Z Z Z BJ Z)) (A7 2 Z Z (Ay [19,20] Z Z (λ_=>A9 (DO (b) Z Z (Z) (f) Z E0 BE Z)) (Ay [21] Z Z (λ_=>A9 (ED Z Z (V7 f) Z Ag Z)) (A7 0 Z Z (AK [23] Z (MB Z Z) (AK [24] Z (AL Z Zk Z Z Z) (Ay [25] Z Z (λ_=>A9 (AQ Z Z Z BJ Z)) ?_))))))));refine A7 1 Z Z (Ay [26,27] Z Z (λ_=>A9 (DO (a) Z Z (Z) (g) Z E0 BE Z)) (Ay [28] Z Z (λ_=>A9 (ED Z Z (V7 g) Z Ag Z)) (Ay [9,10] Z Z (λ_=>A9 (DO (a) Z Z (Z) (g) Z E0 BE Z)) (Cq [30,22] [2] [] Z Z (λ_=>Cd (Gy (emb:=AY) (l++j) (hU l b) Z Z Z Z Z Z i Z BE)) (.inl ⟨Z,Z⟩) Z Z Z Z Z (BR 26 Z Z Z (AZ 27 Z Z (J (DO (b) Z Z (Z) (f) Z E0 BE Z) (AC ⟨Z,?_⟩))))))));refine AZ 28 Z Z (V (Gy (emb:=AY) ((l++j).set a (hU l b)) (hU l a) Z Z Z Z Z Z h Z BE) (AC ⟨Z,?_⟩));refine Bb ?_;exact ⟨_,[1,2,5,6],_,A2 Z,Z,Z,Z,by rw[Nm,Nw,<-x6 g f]⟩
theorem fm(a:List Nat)(l j:List Nat)(x:Nat)(c:l.length<=1000000):AO prog 298 [.ptr 1 0 0,.d (.raw (.iface 3 (.int .i64 (x:Int))))] (Nm a l j) λr b=>r= .tup []/\b=Nm a (l++ [x]) []:=by
 refine Av func298 Z Z ntmps298 Z Z Z λF f=>(Bm [[],[],[1],[1,2],[1,2,3],[],[5],[5,6],[1,2,3,4,5,6,7],rg 9,rg 10,rg 11] mixed Z (BY (A7 0 Z Z (A7 0 Z Z (AK [5] Z (MB Z Z) (AK [6] Z (AL Z Zk Z Z Z) ?_))))));refine Ay [7] Z Z (λ_=>A9 (AQ Z Z Z BJ Z)) (A7 1 Z Z (AK [9] Z (Ok Z wB Z Z) (Cq [10] [20] [(11,_)] Z Z (λ_=>Cd (CB 20 Ap Z Z Z Z Z Z Z Z)) (.inr ⟨11,_,Z,Z,Z,Z,Z⟩) Z Z Z Z Z (Cq [8,11] [1,2,5,6,20] [(12,_)] Z Z (λ_=>Cd (H9 Z Z Z (by simp) Z Z (by simp) Ap (by omega) Z Z (rP l j) Z Z)) (.inr ⟨12,_,Z,Z,Z,Z,Z⟩) Z Z Z Z Z (BR 9 Z Z Z (AZ 10 Z Z (J (MB Z Z) (AC ⟨Z,?_⟩))))))));refine AZ 11 Z Z (J (AL Z Zk Z Z Z) (AC ⟨Z,?_⟩));refine AZ 12 Z Z (V (Bc Z Z Z Z Z Z Z D8) (AC ⟨Z,?_⟩));refine Bb ?_;exact ⟨_,[1,2,5,6],_,A2 Z,Z,Z,Z,by rw[Nm];simp⟩
theorem oj(a:List Nat)(l j:List Nat)(g:l≠ [])(f:l.length<=1000000):AO prog 297 [.ptr 1 0 0] (Nm a l j) λr i=>r= .d (.raw (.iface 3 (.int .i64 (hU l (l.length-1):Int))))/\i=Nm a (l.take (l.length-1)) ([hU l (l.length-1)]++j):=by
 have h:0<l.length:=mf.2 g;have b:((l.length:Int)-1)=((l.length-1:Nat):Int):=by omega
 have c:l.length-1<=((l++j).map AY).length:=by rw[χ,Δ];omega
 refine Av func297 Z Z ntmps297 Z Z Z λF k=>(AD (AF (AB Z Z ?_)));refine AC (AD (Bm [[],[0],[0,1],[0,1,2],[],[4],[4,5],[4,5,6],[4,5,6,7],[4,5,6,7,8],rg 10,rg 11,rg 12] mixed Z (BY (A7 0 Z Z (AK [4] Z (MB Z Z) (AK [5] Z (AL Z Zk Z Z Z) (Ay [6] Z Z (λ_=>A9 (AQ Z Z Z BJ Z)) (A7 0 Z Z ?_))))))));refine AK [8] Z (MB Z Z) (AK [9] Z (AL Z Zk Z Z Z) (Ay [10] Z Z (λ_=>A9 (AQ Z Z Z BJ Z)) (AK [11] Z (QT Z E0 Z) (AK [12] Z (MC Z Z (Ξ _ (by omega)) Z) (BR 10 Z Z Z (AZ 11 Z Z (J (DO (l.length-1) Z Z (b) (by omega) Z E0 BE Z) (AC ⟨Z,?_⟩))))))));refine AZ 12 Z Z (J (ED Z Z (V7 (by omega)) Z Ag Z) (AC ⟨Z,?_⟩));refine AZ 13 Z Z (AB Z Z (AC ⟨Z,?_⟩));refine Bb (AD ?_);refine Bm [[],[],[1],[1,2],[1,2,3],[],[5],[5,6],[5,6,7],[5,6,7,8],[5,6,7,8,9],[1,2,3,4,5,6,7,8,9,10],rg 12,rg 13,rg 14] mixed Z (BY (A7 0 Z Z (A7 0 Z Z (AK [17] Z (MB Z Z) (AK [18] Z (AL Z Zk Z Z Z) (Ay [19] Z Z (λ_=>A9 (AQ Z Z Z BJ Z)) (A7 0 Z Z (AK [21] Z (MB Z Z) ?_))))))));refine AK [22] Z (AL Z Zk Z Z Z) (Ay [23] Z Z (λ_=>A9 (AQ Z Z Z BJ Z)) (AK [24] Z (QT Z E0 Z) (AK [25] Z (MC Z Z (Ξ _ (by omega)) Z) (Ay [20,26] Z Z (λ_=>A9 (J0 (l.length-1) Z Z b c Z E0 BE Z)) (BR 12 Z Z Z (AZ 13 Z Z (J (MB Z Z) (AC ⟨Z,?_⟩))))))));refine AZ 14 Z Z (J (AL Z Zk Z Z Z) (AC ⟨Z,?_⟩));refine AZ 15 Z Z (V (Bc Z Z Z Z Z Z Z D8) (AC ⟨Z,?_⟩));refine Bb (AD (AF (cl Z Z (J (Gc wB Z Z) (AB Z Z (AC (A5 ?_)))))));exact ⟨_,[1,2,5,6],_,A2 Z,Z,Z,Z,by rw[Nm,xm h,θ,Nat.min_eq_left (by omega)]⟩
theorem wA(i:Nat)(h:i<=1000000):IntKind.i64.wrap (Int.tdiv ((i:Int)-1) 2)=(((i-1) / 2:Nat):Int):=by
 rw[xk];exact Ξ _ (by omega)
theorem v3(a:List Nat)(l j:List Nat)(k:Nat)(C:k<l.length)(w:l.length<=1000000)(B:∀x∈l,x<a.length):AO prog 262 [.ifc 321 none 1 0,.d (AY k)] (Nm a l j) λr E=>r= .tup []/\E=Nm a (UD (hU a) k l k) j:=by
 refine Av func262 Z Z ntmps262 Z Z Z λF z=>(AX (BC (α:=Nat×List Nat×Nat) (λq=>⟨23,[(0,.ifc 321 none 1 0),(1,(.d (AY q.2.2)))],Nm a q.2.1 j⟩) (λq=>q.2.2<=q.1/\q.2.2<q.2.1.length/\q.2.1.length<=1000000/\UD (hU a) q.1 q.2.1 q.2.2=UD (hU a) k l k/\∀x∈q.2.1,x<a.length) (λq=>q.2.2) ((k,l,k)) (⟨Θ _,C,w,Z,B⟩) (AR z [1,2,5,6] Z Z ⟨Z,Z,trivial⟩) ?_));rintro ⟨f,m,i⟩ ⟨v,c,s,b,o⟩;dsimp only at v c s b⊢;have g:(i-1) / 2<m.length:=by omega
 refine AX (AD (AF (cl Z Z (J (MC Z Z (Ξ _ (by omega)) Z) (J (sr Z Z (by omega) (wA i (by omega)) Z) (AB Z Z ?_))))));refine AC (AD (AD (AF (cl Z Z (cl Z Z (J (GW Z Z Z) (cl Z Z (C5 11 Z (λu=>?_) (λu=>?_)))))))))
 .refine AN Z Z Z Z (AN Z Z Z Z (AN Z Z Z Z (AN Z Z Z Z (AN Z Z Z Z (J (B4 Z Z Z Z) (AC (CM Z Z (Aq ?_))))))));have D:i=0:=by omega
  exact ⟨_,[1,2,5,6],_,A2 Z,Z,Z,Z,by rw[<-b,D,ci]⟩
 .refine AT Z Z Z (cl Z Z (AT Z Z Z (cl Z Z ?_)));refine AT Z Z Z (cl Z Z (AT Z Z Z (V (El fx (Sr a m j o i ((i-1) / 2) c g) Z [1,2,5,6] ⟨Z,Z,Z,Z,trivial⟩ Z Z Z Z Z Z Z Z Z) (AT Z Z Z (J (JQ Z Z) (J (Br Z Z Z Z) (AC (A4 Z (λh=>?_) (λh=>?_)))))))))
  .refine Aq ?_;exact ⟨_,[1,2,5,6],_,A2 Z,Z,Z,Z,by rw[<-b,cm (by simpa using h)]⟩
  .refine AU (AD ?_);have y:i≠0:=λe=>by subst e;exact u rfl
   have t:(hU a) (hU m i)<(hU a) (hU m ((i-1) / 2)):=Classical.not_not.1 h;refine AF ?_;refine cl Z Z (cl Z Z (cl Z Z (V (El fw (S5 a m j ((i-1) / 2) i g c) Z [1,2,5,6] ⟨Z,Z,Z,Z,trivial⟩ Z Z Z Z Z Z Z Z Z) (AC (AF (cl Z Z (AB Z Z (AC ?_))))))));exact ⟨(f-1,NR m ((i-1) / 2) i,(i-1) / 2),⟨by show (i-1) / 2<=f-1;omega,by show _<(NR _ _ _).length;rw[Nw];exact g,by show (NR _ _ _).length<=_;rw[Nw];exact s,by show UD _ (f-1) _ _=_;rw[<-b,<-se y t,show f-1+1=f by omega],λx A=>o x ((Fo g c).mem_iff.1 A)⟩,by show (i-1) / 2<i;omega,AR z [1,2,5,6] Z (Z) ⟨Z,Z,trivial⟩⟩
theorem u0(b:2*s+2<c)(a:K (hU j (2*s+2))<K (hU j (2*s+1))):Tp K c j s=2*s+2:=ϱ ⟨b,a⟩
theorem iT(h:¬(2*s+2<c/\K (hU j (2*s+2))<K (hU j (2*s+1)))):Tp K c j s=2*s+1:=υ h
theorem pe(a:List Nat)(l j:List Nat)(k n:Nat)(L:k<l.length)(H:n<=l.length)(B:l.length<=1000000)(I:∀x∈l,x<a.length):AO prog 263 [.ifc 321 none 1 0,.d (AY k),.d (AY n)] (Nm a l j) λr N=>(∃b:Bool,r= .d (Aj b))/\N=Nm a (Pv (hU a) n (n-k) l k) j:=by
 refine Av func263 Z Z ntmps263 Z Z Z λF E=>(AD (AF (AB Z Z ?_)));refine AC (AD (AF (cl Z Z (AB Z Z (AC (AD (AX (BC (α:=Nat×List Nat×Nat) (λq=>⟨48,[(0,.ifc 321 none 1 0),(1,.d (AY k)),(2,.d (AY n)),(7,(.d (AY q.2.2)))],Nm a q.2.1 j⟩) (λq=>n<=q.1+q.2.2/\q.2.2<q.2.1.length/\q.2.1.length<=1000000/\n<=q.2.1.length/\Pv (hU a) n q.1 q.2.1 q.2.2=Pv (hU a) n (n-k) l k/\∀x∈q.2.1,x<a.length) (λq=>n-q.2.2) ((n-k,l,k)) (⟨by show n<=n-k+k;omega,L,B,H,Z,I⟩) (AR E [1,2,5,6] Z Z ⟨Z,Z,Z,Z,trivial⟩) ?_))))))));rintro ⟨f,m,i⟩ ⟨A,g,v,u,c,s⟩;dsimp only at A g v u c⊢;refine AX (AD (AF (cl Z Z (J (ss Z Z (Ξ _ (by omega)) Z) (J (Ac Z Z (Ξ _ (by omega)) Z) (AB Z Z (AC ?_)))))));refine AD (AD (Xt 8 (.d (AY (2*i+1))) Z (eqv (jr AE (by omega))) (AF (cl Z Z (cl Z Z (J (EH Z Z Z) (cl Z Z (C5 18 Z (λz=>?_) (λz=>?_)))))))))
 .refine AN Z Z Z Z (AN Z Z Z Z (J (B4 Z Z Z Z) (AC (CM Z Z ?_))));refine Aq (AD (AF (cl Z Z (cl Z Z (J (H1 Z Z Z) (AB Z Z (AC (A5 ?_))))))));exact ⟨_,[1,2,5,6],_,A2 Z,Z,Z,⟨_,Z⟩,by rw[<-c,pk (by omega)]⟩
 .refine AT Z Z Z (cl Z Z (AT Z Z Z (J (At Z Z Z) (J (Br Z Z Z Z) (AC (Cr Z (kD (by omega)) (AU (AD ?_))))))));have w:¬n<=2*i+1:=by have:=z;omega
  have M:=uZ (K:=(hU a)) (l:=m) w;have o:Tp (hU a) n m i<m.length:=by omega
  refine AF ?_;refine cl Z Z (AB Z Z (AC (AD (AD (AF (cl Z Z (J (Ac Z Z (Ξ _ (by omega)) Z) (AB Z Z ?_))))))));refine AC (AD (Xt 10 (.d (AY (2*i+2))) Z (eqv (jr AE (by omega))) (AF (cl Z Z (cl Z Z (J (At Z Z Z) (cl Z Z (C5 28 Z (λD=>?_) (λD=>?_)))))))));refine AT Z Z Z (cl Z Z ?_);refine AT Z Z Z (cl Z Z (AT Z Z Z (cl Z Z (AT Z Z Z (V (El fx (Sr a m j s (2*i+2) (2*i+1) (by omega) (by omega)) Z [1,2,5,6] ⟨Z,Z,Z,Z,trivial⟩ Z Z Z Z Z Z Z Z Z) (J (B4 Z Z Z Z) (AC (A4 Z (λC=>?_) (λC=>?_)))))))));refine AF (cl Z Z (AB Z Z (AC ?_)))
  rotate_left
  refine AU ?_
  rotate_left
  refine AN Z Z Z Z (AN Z Z Z Z (AN Z Z Z Z (AN Z Z Z Z (J (Br Z Z Z Z) (AC (Cr Z Z (AU ?_)))))))
  all_goals
   refine AD (AD ?_);refine Xt 9 (.d (AY (Tp (hU a) n m i))) Z (eqv (jr AY (by first | exact (u0 (by omega) (by assumption)).symm | exact (iT (λh=>by omega)).symm | exact (iT (λh=>absurd h.2 (by assumption))).symm))) (AF (cl Z Z (cl Z Z (cl Z Z (V (El fx (Sr a m j s (Tp (hU a) n m i) i o g) Z [1,2,5,6] ⟨Z,Z,Z,Z,trivial⟩ Z Z Z Z Z Z Z Z Z) (J (JQ Z Z) (AC (A4 Z (λt=>?_) (λt=>?_)))))))))
   .refine Aq (AD (AF (cl Z Z (cl Z Z (J (H1 Z Z Z) (AB Z Z (AC (A5 ?_))))))));exact ⟨_,[1,2,5,6],_,A2 Z,Z,Z,⟨_,Z⟩,by rw[<-c,iU t]⟩
   .refine AU (AD ?_);have y:(hU a) (hU m (Tp (hU a) n m i))<(hU a) (hU m i):=Classical.not_not.1 t;refine AF ?_;refine cl Z Z (cl Z Z (cl Z Z (V (El fw (S5 a m j i (Tp (hU a) n m i) g o) Z [1,2,5,6] ⟨Z,Z,Z,Z,trivial⟩ Z Z Z Z Z Z Z Z Z) (AC (AF (cl Z Z (AB Z Z (AC ?_))))))));exact ⟨(f-1,NR m i (Tp (hU a) n m i),Tp (hU a) n m i),⟨by show n<=f-1+Tp _ n m i;omega,by show _<(NR _ _ _).length;rw[Nw];exact o,by show (NR _ _ _).length<=_;rw[Nw];exact v,by show _<=(NR _ _ _).length;rw[Nw];exact u,by show Pv _ n (f-1) _ _=_;rw[<-c,<-u1 w y,show f-1+1=f by omega],λx G=>s x ((Fo g o).mem_iff.1 G)⟩,by show n-Tp _ n m i<n-i;omega,AR E [1,2,5,6] Z (Z) ⟨Z,Z,Z,Z,trivial⟩⟩
theorem VZ(a:List Nat)(l j:List Nat)(x:Nat)(h:l.length<=999999)(i:∀x∈l,x<a.length)(g:x<a.length):AO prog 222 [.ifc 321 none 1 0,.d (.raw (.iface 3 (.int .i64 (x:Int))))] (Nm a l j) λr k=>r= .tup []/\k=Nm a (N8 (hU a) l x) []:=by
 have c:(l++ [x]).length=l.length+1:=by simp
 have b:((l.length+1:Nat):Int)-1=((l.length:Nat):Int):=by omega
 refine Av func222 Z Z ntmps222 Z Z Z λF o=>(AD (AF (cl Z Z (cl Z Z (V (El w6 (fm a l j x (by omega)) Z [1,2,5,6] ⟨Z,Z,Z,Z,trivial⟩ Z Z Z Z Z Z Z Z Z) ?_)))));refine AC (AF (cl Z Z (cl Z Z (V (El w7 (X0 a (l++ [x]) []) Z [1,2,5,6] ⟨Z,Z,Z,Z,trivial⟩ Z Z Z Z Z Z Z Z Z) (J (MC Z Z (Ξ _ (by omega)) Z) (Q4 10 (.d (AY l.length)) Z (eqv (jr AE (by rw[c];exact b))) (V (F8 (v3 a (l++ [x]) [] l.length (by omega) (by omega) (λy f=>(ν.1 f).elim (i y) λe=>ξ.1 e▸g)) Z [1,2,5,6] ⟨Z,Z,Z,Z,trivial⟩ Z Z Z Z Z Z Z Z Z) (AC ?_))))))));exact ⟨_,[1,2,5,6],_,A2 Z,Z,Z,Z,Z⟩
theorem pF(a:List Nat)(l j:List Nat)(f:l≠ [])(s:l.length<=999999)(t:∀x∈l,x<a.length):AO prog 224 [.ifc 321 none 1 0] (Nm a l j) λr u=>r= .d (.raw (.iface 3 (.int .i64 (hU l 0:Int))))/\u=Nm a (Qa (hU a) l) ([hU l 0]++j):=by
 have i:0<l.length:=mf.2 f;have o:=Nw l 0 (l.length-1);have c:=Ht (hU a) f;have g:L1 (hU a) l≠ []:=λe=>by rw[e] at c;simp at c;omega
 have b:hU (L1 (hU a) l) ((L1 (hU a) l).length-1)=hU l 0:=by rw[c];exact Pb (hU a) f
 have h:=(pe a (NR l 0 (l.length-1)) j 0 (l.length-1) (by omega) (by omega) (by omega) (λy k=>t y ((Fo i (by omega)).mem_iff.1 k))).top;refine Av func224 Z Z ntmps224 Z Z Z λF v=>(AD (AF (AB Z Z (AC ?_))));refine AD (AF (cl Z Z (V (El w7 (X0 a l j) Z [1,2,5,6] ⟨Z,Z,Z,Z,trivial⟩ Z Z Z Z Z Z Z Z Z) (J (MC Z Z (Ξ _ (by omega)) Z) (AB Z Z (AC (AD (Xt 3 (.d (AY (l.length-1))) Z (eqv (jr AE (by omega))) ?_))))))));refine AF (cl Z Z (cl Z Z (V (El fw (S5 a l j 0 (l.length-1) i (by omega)) Z [1,2,5,6] ⟨Z,Z,Z,Z,trivial⟩ Z Z Z Z Z Z Z Z Z) (AC (AD (AF (cl Z Z (cl Z Z ?_))))))));refine V (F8 h Z [1,2,5,6] ⟨Z,Z,Z,Z,trivial⟩ Z Z Z Z Z Z Z Z Z) (AC (AD (AF (cl Z Z (V (El xz (oj a (L1 (hU a) l) j g (by omega)) Z [1,2,5,6] ⟨Z,Z,Z,Z,trivial⟩ Z Z Z Z Z Z Z Z Z) (AB Z Z (AC (A5 ?_))))))));exact ⟨_,[1,2,5,6],_,A2 Z,Z,Z,by rw[b],by rw[b,c];rfl⟩
theorem fE(c:List Nat)(g:List (List Nat))(K:GB g)(hK:∀a b,a<g.length->b<g.length->(hU c) a=(hU c) b->a=b)(u:g.length=c.length):AO prog 181 [.d (Nb g),.fn 182 [.ptr 5 0 0]] (HL c) λr H'=>r= .d (.tup [j0 (kr g (hU c)),Aj (decide ((kr g (hU c)).length=g.length))])/\H'=(HL c):=by
 have hn:=K.n;refine Av func181 Z Z ntmps181 Z Z Z λF v=>(AD (AF (AB Z Z (AB Z Z (AC ?_)))));refine AD (AF (cl Z Z (J (IR Z (χ ..) R3 Z) (V (FY 0 Ap Z Z Z (by omega) s8 Z Z Z Z) (AB Z Z (AC (AD (AD ?_))))))));rw[vv];refine AF (cl Z Z (J (IR Z (χ ..) R3 Z) (cl Z Z (AC (AX (BC (α:=Nat×List Nat) (λq=>⟨102,[(0,.d (Nb g)),(1,.fn 182 [.ptr 5 0 0]),(6,(.own 0 0 g.length)),(21,(.d (Nb g))),(22,(.d (AY g.length))),(23,(.d (AY q.1)))],[(0,[.rowD 3 1 (q.2.map AY)])]++HL c⟩) (λq=>q.1<=g.length/\CW g q.1 0 q.2) (λq=>g.length-q.1) ((0,List.replicate g.length 0)) (⟨κ _,pv g⟩) (AR v [0,5,6] Z Z ⟨Z,Z,Z,Z,Z,Z,trivial⟩) ?_))))));rintro ⟨i,w⟩ ⟨hi,D⟩;dsimp only at hi D⊢;refine AD (AF (J (At Z Z Z) (AC (AD (A4 Z (λS=>?_) (λS=>?_))))))
 .refine AU (AD (AX (AD ?_)));have h:i<g.length:=BG S;have hsl:=K.len h;refine AF (J (Al (i) Z Z (Z) (ba h) R3 Z D8 Z) (J (BZ Z Z BJ Z) (AB Z Z ?_)));refine AC (AD (AF (cl Z Z (J (IR Z (χ ..) E0 Z) (cl Z Z (AC (AX (BC (α:=Nat×List Nat) (λq=>⟨102,[(0,.d (Nb g)),(1,.fn 182 [.ptr 5 0 0]),(6,(.own 0 0 g.length)),(21,(.d (Nb g))),(22,(.d (AY g.length))),(23,(.d (AY i))),(27,(.d (j0 (gs g i)))),(28,(.d (AY (gs g i).length))),(29,(.d (AY q.1)))],[(0,[.rowD 3 1 (q.2.map AY)])]++HL c⟩) (λq=>q.1<=(gs g i).length/\CW g i q.1 q.2) (λq=>(gs g i).length-q.1) ((0,w)) (⟨κ _,D⟩) (AR v [0,5,6] Z Z ⟨Z,Z,Z,Z,Z,Z,Z,Z,Z,trivial⟩) ?_))))))));rintro ⟨k,w⟩ ⟨hk,D⟩;dsimp only at hk D⊢;refine AD (AF (J (At Z Z Z) (AC (AD (A4 Z (λR=>?_) (λR=>?_))))))
  .refine AU (AD (AX (AD ?_)));have s:k<(gs g i).length:=BG R;have B:=pw K D h s;have u:hU (gs g i) k<g.length:=by rw[<-D.len];exact B.1
   refine AF ?_;refine J (Al (k) Z Z (Z) (Pe s) E0 Z BE Z) (J (BZ Z Z Ag Z) (AB Z Z (AC (AF (cl Z Z (cl Z Z (J (DO (hU (gs g i) k) Z Z (Z) (u) Z E0 BE Z) (J (ED Z Z (Pe B.1) Z Ag Z) ?_))))))));refine J (Ac Z Z (Ξ _ (by omega)) Z) (Q4 37 (.d (AY (hU w (hU (gs g i) k)+1))) Z (eqv (jr AE (by omega))) (J (DO (hU (gs g i) k) Z Z (Z) (u) Z E0 BE Z) (V (Gy (emb:=AY) w (hU w (hU (gs g i) k)+1) Z Z Z Z Z Z B.1 Z BE) (AC (AF (J (Ac Z Z (Ξ _ (by omega)) Z) (cl Z Z (AC ?_))))))));exact ⟨(k+1,w.set (hU (gs g i) k) (hU w (hU (gs g i) k)+1)),⟨s,B.2.2⟩,by show (gs g i).length-(k+1)<(gs g i).length-k;omega,AR v [0,5,6] Z (Z) ⟨Z,Z,Z,Z,Z,Z,Z,Z,Z,trivial⟩⟩
  .refine Aq ?_;have hke:k=(gs g i).length:=by have:=R;omega
   subst hke;refine AF (J (Ac Z Z (Ξ _ (by omega)) Z) (cl Z Z (AC ?_)));exact ⟨(i+1,w),⟨h,u5 D⟩,by show g.length-(i+1)<g.length-i;omega,AR v [0,5,6] Z (Z) ⟨Z,Z,Z,Z,Z,Z,trivial⟩⟩
 .refine Aq (AD ?_);have I:i=g.length:=by have:=S;omega
  subst I;obtain ⟨Y,hwd⟩:=u6 D;refine AF (cl Z Z (J (Dx vP wE Z Z Z) (V (nt 1 Z Z Z Z Z Z Z) (AB Z Z (AC (AD ?_))))));refine AD (D3 1 0 0 2 Ap Z Z Z Z Z Z Z (AF (cl Z Z (J (QT Z E0 Z) (cl Z Z (AC (AX (BC (α:=Nat×List Nat×List Nat) (λq=>⟨102,[(0,.d (Nb g)),(1,.fn 182 [.ptr 5 0 0]),(6,(.own 0 0 g.length)),(11,(.ptr 1 0 0)),(44,(.own 0 0 g.length)),(45,(.d (AY g.length))),(46,(.d (AY q.1)))],Nm c q.2.1 q.2.2++ [(0,[.rowD 3 1 (w.map AY)])]⟩) (λq=>q.1<=g.length/\FI (hU c) w q.1 q.2.1) (λq=>g.length-q.1) ((0,[],[])) (⟨κ _,pL _ w⟩) (AR v [1,2,5,6,0] Z Z ⟨Z,Z,Z,Z,Z,Z,Z,trivial⟩) ?_))))))));rintro ⟨i,l,j⟩ ⟨hi,E⟩;dsimp only at hi E⊢;have hfl:=E.le;refine AD (AF (J (At Z Z Z) (AC (AD (A4 Z (λQ=>?_) (λQ=>?_))))))
  .refine AU (AD (AX (AD ?_)));have h:i<g.length:=BG Q;refine AF (cl Z Z (J (DO (i) Z Z (Z) (h) Z E0 BE Z) (J (ED Z Z (Pe (by rw[Y];exact h)) Z Ag Z) ?_)));refine AB Z Z (AB Z Z (AC (AD (AF (cl Z Z (J (GW Z Z Z) (AC (A4 Z (λO=>?_) (λO=>?_)))))))))
   .refine AF (cl Z Z ?_);refine J (H7 eY Z Z) (cl Z Z (J (Gc wB Z Z) (V (F8 (VZ c l j i (by omega) (λx H=>by rw[<-u];have:=((E.mem x).1 H).1;omega) (by rw[<-u];exact h)) Z [1,2,5,6] ⟨Z,Z,Z,Z,trivial⟩ Z Z Z Z Z Z Z Z Z) (AC (AF (J (Ac Z Z (Ξ _ (by omega)) Z) (cl Z Z (AC ?_))))))));exact ⟨(i+1,N8 (hU c) l i,[]),⟨h,pN E (Int.ofNat.inj O)⟩,by show g.length-(i+1)<g.length-i;omega,AR v [1,2,5,6,0] Z (Z) ⟨Z,Z,Z,Z,Z,Z,Z,trivial⟩⟩
   .refine AU (AF (J (Ac Z Z (Ξ _ (by omega)) Z) (cl Z Z (AC ?_))));exact ⟨(i+1,l,j),⟨h,pM E (λe=>O (jr Int.ofNat e))⟩,by show g.length-(i+1)<g.length-i;omega,AR v [1,2,5,6,0] Z (Z) ⟨Z,Z,Z,Z,Z,Z,Z,trivial⟩⟩
  .refine Aq (AD ?_);have I:i=g.length:=by have:=Q;omega
   subst I;have hoi:=ob Y hwd E.nd E.mem E.hp;refine AF (AB Z Z (AC (AD (AX (IY 14 7 Ap Z Z Z Z (BC (α:=List Nat×List Nat×List Nat×List Nat) (λq=>⟨102,[(0,.d (Nb g)),(1,.fn 182 [.ptr 5 0 0]),(6,(.own 0 0 g.length)),(11,(.ptr 1 0 0)),(14,(.own 7 0 q.2.2.2.length))],Nm c q.2.1 q.2.2.1++ [(0,[.rowD 3 1 (q.1.map AY)]),(7,[.rowD 3 1 (q.2.2.2.map AY)])]⟩) (λq=>OI g (hU c) q.1 q.2.1 q.2.2.2 []) (λq=>g.length-q.2.2.2.length) ((w,l,j,[])) (hoi) (AR v [1,2,5,6,0,7] Z Z ⟨Z,Z,Z,Z,Z,trivial⟩) ?_))))));rintro ⟨w,l,j,f⟩ T;dsimp only at T⊢;have hol:=rx T;refine AD (AD (AF (cl Z Z (V (F8 (X0 c l j) Z [1,2,5,6] ⟨Z,Z,Z,Z,trivial⟩ Z Z Z Z Z Z Z Z Z) (J (H1 Z Z Z) (AC (A4 Z (λN=>?_) (λN=>?_))))))))
   .refine AU (AX (AD ?_));have C:l≠ []:=λe=>by subst e;exact absurd N (by decide)
    have ho1:=tS T C;have H:hU l 0<g.length:=T.lt _ (ν.2 (.inr (EQ (mf.2 C))));have hol1:f.length+1<=g.length:=by have:=mf.2 C;omega
    refine AF (cl Z Z (J (H7 eY Z Z) (V (F8 (pF c l j C (by omega) (λz hz=>by rw[<-u];exact T.lt z (ν.2 (.inr hz)))) Z [1,2,5,6] ⟨Z,Z,Z,Z,trivial⟩ Z Z Z Z Z Z Z Z Z) (J (Ok Z wB Z Z) (AB Z Z (AC (AD ?_)))))))
    obtain ⟨x,hxe⟩:∃x,hU l 0=x:=⟨_,Z⟩
    rw[hxe] at ho1 H⊢;refine AF (cl Z Z (cl Z Z (V (CB 21 Ap Z Z Z Z Z Z Z Z) (V (DQ (emb:=AY) f [x] Z Z Z Z Z Z Z Z Ap (by show (f.length+1)*8<=_;omega) Z Z Z Z) (AB Z Z (AC (AD (AF ?_))))))));refine cl Z Z (cl Z Z (J (Al (x) Z Z (Z) (ba H) R3 Z D8 Z) (J (BZ Z Z BJ Z) (J (IR Z (χ ..) E0 Z) (cl Z Z (AC (AX (BC (α:=Nat×List Nat×List Nat×List Nat) (λq=>⟨102,[(0,.d (Nb g)),(1,.fn 182 [.ptr 5 0 0]),(6,(.own 0 0 g.length)),(11,(.ptr 1 0 0)),(14,(.own 7 0 (f++ [x]).length)),(73,(.d (j0 (gs g x)))),(74,(.d (AY (gs g x).length))),(75,(.d (AY q.1)))],Nm c q.2.2.1 q.2.2.2++ [(0,[.rowD 3 1 (q.2.1.map AY)]),(7,[.rowD 3 1 ((f++ [x]).map AY)])]⟩) (λq=>q.1<=(gs g x).length/\OI g (hU c) q.2.1 q.2.2.1 (f++ [x]) ((gs g x).drop q.1)) (λq=>(gs g x).length-q.1) ((0,w,Qa (hU c) l,[x]++j)) (⟨κ _,ho1⟩) (AR v [1,2,5,6,0,7] Z Z ⟨Z,Z,Z,Z,Z,Z,Z,Z,trivial⟩) ?_))))))));rintro ⟨k,w,l,j⟩ ⟨hk,o⟩;dsimp only at hk o⊢;refine AD (AF (J (At Z Z Z) (AC (AD (A4 Z (λM=>?_) (λM=>?_))))))
    .refine AU (AD (AX (AD ?_)));have s:k<(gs g x).length:=BG M;have hsl2:=K.len H;have t:hU (gs g x) k<g.length:=K.suc H (EQ s);rw[iS s] at o;obtain ⟨hw1,W,U⟩:=tU o t;have hol2:=rx o;have X:=o.len;have hgn:=Pe s
     obtain ⟨y,hye⟩:∃y,hU (gs g x) k=y:=⟨_,Z⟩
     rw[hye] at t hw1 W U hgn o;have G:y<w.length:=by rw[X];exact t
     have hwb:hU w y<=100000000000:=by have:=tQ K o t (by rw[l4];have:=K.len H;omega);omega
     refine AF (J (Al (k) Z Z (Z) (hgn) E0 Z BE Z) (J (BZ Z Z Ag Z) (AB Z Z (AC (AD (AF ?_))))));refine cl Z Z (cl Z Z (J (DO (y) Z Z (Z) (t) Z E0 BE Z) (J (ED Z Z (Pe G) Z Ag Z) (J (MC Z Z (Ξ _ (by omega)) Z) (Q4 83 (.d (AY (hU w y-1))) Z (eqv (jr AE (by omega))) (J (DO (y) Z Z (Z) (t) Z E0 BE Z) (V (Gy (emb:=AY) w (hU w y-1) Z Z Z Z Z Z G Z BE) (AC ?_))))))));refine AD (AF (cl Z Z (cl Z Z (J (DO (y) Z Z (Z) (t) Z E0 BE Z) (J (ED Z Z (uQ G) Z Ag Z) (J (GW Z Z Z) (AC (A4 Z (λL=>?_) (λL=>?_)))))))))
     .have A:hU w y-1=0:=Int.ofNat.inj L;refine AF (cl Z Z ?_);refine J (H7 eY Z Z) (cl Z Z (J (Gc wB Z Z) (V (F8 (VZ c l j y (by rw[Δ,η] at hol2;omega) (λz hz=>by rw[<-u];exact o.lt z (ν.2 (.inr hz))) (by rw[<-u];exact t)) Z [1,2,5,6] ⟨Z,Z,Z,Z,trivial⟩ Z Z Z Z Z Z Z Z Z) (AC (AF (J (Ac Z Z (Ξ _ (by omega)) Z) (cl Z Z (AC ?_))))))));exact ⟨(k+1,w.set y (hU w y-1),N8 (hU c) l y,[]),⟨s,W A⟩,by show (gs g x).length-(k+1)<(gs g x).length-k;omega,AR v [1,2,5,6,0,7] Z (Z) ⟨Z,Z,Z,Z,Z,Z,Z,Z,trivial⟩⟩
     .have A:hU w y-1≠0:=λe=>L (jr Int.ofNat e);refine AU (AF (J (Ac Z Z (Ξ _ (by omega)) Z) (cl Z Z (AC ?_))));exact ⟨(k+1,w.set y (hU w y-1),l,j),⟨s,U A⟩,by show (gs g x).length-(k+1)<(gs g x).length-k;omega,AR v [1,2,5,6,0,7] Z (Z) ⟨Z,Z,Z,Z,Z,Z,Z,Z,trivial⟩⟩
    .refine Aq ?_;exact ⟨(w,l,j,f++ [x]),tR o (show k=(gs g x).length by have:=M;omega),by show g.length-(f++ [x]).length<g.length-f.length;rw[Δ,η];omega,AR v [1,2,5,6,0,7] Z (Z) ⟨Z,Z,Z,Z,Z,trivial⟩⟩
   .refine Aq (AD ?_);have hl0:l=[]:=List.length_eq_zero_iff.1 (by have:=N;omega);have hE:=tT (hl0▸T);have hoe:=o6 hK hE.1 hE.2;refine Fi (emb:=AY) 14 7 f Z Z Z Z Z Z Z (AF (cl Z Z ?_));refine cl Z Z (J (BW Z E0 Z) (cl Z Z (J (BW Z R3 Z) (J (GW Z Z Z) (AB Z Z (AB Z Z (AC (A5 ?_))))))));exact ⟨_,[5,6],_,A2 Z,Z,Z,by rw[hoe];exact jr (λb=>AV.d (.tup [j0 f,Aj b])) (decide_eq_decide.2 Int.ofNat_inj),Z⟩
theorem Vy(g:List (List Nat))(W:GT g):AO prog 134 [.d (Nb g)] [] λr H'=>∃of cnt,ky g.length (gs g) of cnt/\r= .tup [.own 10 0 cnt,.d (j0 ((List.range g.length).map λv=>kN g of cnt (of v)))]/\H'=[(10,[.rowD 28 1 ((gn cnt (GV (λv=>kN g of cnt (of v)) g.length)).map j0)])]:=by
 have hn:=W.gb.n;refine Av func134 Z Z ntmps134 Z Z Z λF A=>(AD (AF (AB Z Z (AB Z Z (AC (AD (AF (cl Z Z ?_))))))));refine Cy (Zi (Vz g W.gb) Z [2] ⟨Z,trivial⟩ Z Z Z Z (λr H' ⟨of,cnt,h1,h2,h3⟩=>by subst h2 h3;exact ⟨Z,Z,Z⟩) Z) Z ?_;rintro _ ⟨r,H',⟨of,cnt,t,rfl,rfl⟩,rfl⟩;refine cl Z Z (J (D6 Z Z Z) (J (D6 Z Z Z) (AB Z Z (AB Z Z (AC (AD ?_))))));have hcn:=t.le;refine AF (cl Z Z (V (FY 6 Ap Z Z Z (by omega) s8 Z Z Z Z) (V (CF 5 vQ Z Z Z Z) (V (Bc Z Z Z Z Z Z Z D8) (AC (AD (AD ?_)))))));rw[tF];refine AF (cl Z Z (J (IR Z (χ ..) R3 Z) (J (MC Z Z (Ξ _ (by omega)) Z) (Q4 29 (.d (AE ((g.length:Int)-1-((0:Nat):Int)))) Z (eqv (jr AE (by omega))) (AB Z Z (AC (AX (BC (α:=Nat) (λd=>⟨142,[(0,.d (Nb g)),(4,(.own 2 0 g.length)),(5,(.d (AY cnt))),(6,(.ptr 5 0 0)),(7,(.d (AE ((g.length:Int)-1-(d:Int)))))],[(2,[.rowD 3 1 (rowN g.length of)]),(5,[.blk 28 [.own 6 0 cnt]]),(6,[.rowD 3 1 (rowN cnt (nN of g.length d))])]⟩) (λd=>d<=g.length) (λd=>g.length-d) (0) (κ _) (AR A [2,5,6] Z Z ⟨Z,Z,Z,Z,Z,trivial⟩) ?_))))))));intro d hd;refine AD (AD (AF (cl Z Z (J (EH Z Z Z) (AC (A4 Z (λh31=>?_) (λh31=>?_)))))))
 .refine AU (AD (AX ?_));have Q:g.length-1-d<g.length:=by omega
  refine Xt 7 (.d (AY (g.length-1-d))) Z (eqv (jr AE (by omega))) ?_;have hoc:=t.lt _ Q;refine Bm [[],[],[],[1,2],[1,2,3],[],rg 6,rg 7] mixed Z (BY (Ay [6] Z Z (λ_=>A9 (AQ Z Z Z BJ Z)) ?_));refine A7 4 Z Z (A7 7 Z Z (Ay [35,36] Z Z (λ_=>A9 (DO (g.length-1-d) Z Z (Z) (Q) Z E0 BE Z)) (Ay [37] Z Z (λ_=>A9 (ED Z Z (O4 Q) Z Ag Z)) (A7 7 Z Z (BR 6 Z Z Z (AZ 7 Z Z (J (DO (of (g.length-1-d)) Z Z (Z) (hoc) Z E0 BE Z) (AC ⟨Z,?_⟩))))))));refine AZ 8 Z Z (V (Zp Z Z Z Z Z (by rw[EN];exact hoc) EM Z BE) (AC ⟨Z,?_⟩));refine Bb (AF (cl Z Z (J (MC Z Z (Ξ _ (by omega)) Z) (Q4 33 (.d (AE ((g.length:Int)-1-((d+1:Nat):Int)))) Z (eqv (jr AE (by omega))) (AB Z Z (AC ?_))))));exact ⟨d+1,by omega,by omega,AR A [2,5,6] Z (Z) ⟨Z,Z,Z,Z,Z,trivial⟩⟩
 .refine Aq (AD ?_);have hdn:d=g.length:=by omega
  subst hdn;refine AF (cl Z Z (V (FY 7 Y4 Z Z Z (by omega) v1 Z Z Z Z) (AB Z Z (AC (AD (AD ?_))))));refine SP 7 0 (lC cnt (λ_=>none) (λ_=> [])) Z (by rw[Fx,List.length_replicate]) (VA cnt) ⟨Yf _,LK _ _ _⟩ Z (II 40 Z Z Z (AF (cl Z Z (J (IR Z (χ ..) R3 Z) (cl Z Z (AC (AX (BC (α:=Nat×MF×(Nat->Hd)) (λq=>⟨142,[(0,.d (Nb g)),(4,(.own 2 0 g.length)),(5,(.d (AY cnt))),(6,(.ptr 5 0 0)),(8,(.own 7 0 cnt)),(43,(.d (Nb g))),(44,(.d (AY g.length))),(45,(.d (AY q.1)))],[(2,[.rowD 3 1 (rowN g.length of)]),(5,[.blk 28 [.own 6 0 cnt]]),(6,[.rowD 3 1 (rowN cnt (nN of g.length g.length))]),(7,[.rowD 28 1 (lC cnt q.2.2 (OW g of q.1 0))]),(40,[.multi q.2.1])]⟩) (λq=>q.1<=g.length/\Nx q.2.1 cnt q.2.2 (OW g of q.1 0)) (λq=>g.length-q.1) ((0,λ_=>none,λ_=>none)) (⟨κ _,by rw[iM];exact Nx.zero _⟩) (AR A [2,5,6,7,40] Z Z ⟨Z,Z,Z,Z,Z,Z,Z,Z,trivial⟩) ?_))))))));rintro ⟨i,M,G⟩ ⟨hi,z⟩;dsimp only at hi z⊢;refine AD (AF (J (At Z Z Z) (AC (AD (A4 Z (λU=>?_) (λU=>?_))))))
  .refine AU (AD (AX (AD ?_)));have l:i<g.length:=BG U;have s:=t.lt i l;refine AF (cl Z Z (J (Al (i) Z Z (Z) (ba l) R3 Z D8 Z) (J (BZ Z Z BJ Z) (AB Z Z (AB Z Z ?_)))));refine AC (AD (AF (cl Z Z (J (IR Z (χ ..) E0 Z) (cl Z Z (AC (AX (BC (α:=Nat×MF×(Nat->Hd)) (λq=>⟨142,[(0,.d (Nb g)),(4,(.own 2 0 g.length)),(5,(.d (AY cnt))),(6,(.ptr 5 0 0)),(8,(.own 7 0 cnt)),(9,(.d (AY i))),(43,(.d (Nb g))),(44,(.d (AY g.length))),(45,(.d (AY i))),(50,(.d (j0 (gs g i)))),(51,(.d (AY (gs g i).length))),(52,(.d (AY q.1)))],[(2,[.rowD 3 1 (rowN g.length of)]),(5,[.blk 28 [.own 6 0 cnt]]),(6,[.rowD 3 1 (rowN cnt (nN of g.length g.length))]),(7,[.rowD 28 1 (lC cnt q.2.2 (OW g of i q.1))]),(40,[.multi q.2.1])]⟩) (λq=>q.1<=(gs g i).length/\Nx q.2.1 cnt q.2.2 (OW g of i q.1)) (λq=>(gs g i).length-q.1) ((0,M,G)) (⟨κ _,z⟩) (AR A [2,5,6,7,40] Z Z ⟨Z,Z,Z,Z,Z,Z,Z,Z,Z,Z,Z,Z,trivial⟩) ?_))))))));rintro ⟨k,M,G⟩ ⟨hk,z⟩;dsimp only at hk z⊢;refine AD (AF (J (At Z Z Z) (AC (AD (A4 Z (λT=>?_) (λT=>?_))))))
   .refine AU (AD (AX (AD ?_)));have o:k<(gs g i).length:=BG T;have hgn:=Pe o;have hsl:=W.gb.len l;have D:hU (gs g i) k<g.length:=W.gb.suc l (EQ o);have H:=iN (of:=of) o;have I:=iO (of:=of) o
    obtain ⟨j,hje⟩:∃j,hU (gs g i) k=j:=⟨_,Z⟩
    rw[hje] at hgn D H I;have hln:=ZW g of i k (of i);have hlt:=jq (Qm g (Nat.le_of_lt l)) W.tot;have hlt2:((gs g i).take k).length<=1048576:=by rw[θ];omega
    refine AF (J (Al (k) Z Z (Z) (hgn) E0 Z BE Z) ?_);refine J (BZ Z Z Ag Z) (AB Z Z (AC (AD (Bm [[],[],[0,1],[0,1,2],[],[],[4,5],[4,5,6],rg 8] mixed Z (BY (A7 4 Z Z (A7 9 Z Z (Ay [56,57] Z Z (λ_=>A9 (DO (i) Z Z (Z) (l) Z E0 BE Z)) ?_))))))));refine Ay [58] Z Z (λ_=>A9 (ED Z Z (O4 l) Z Ag Z)) (A7 4 Z Z (A7 12 Z Z (Ay [60,61] Z Z (λ_=>A9 (DO (j) Z Z (Z) (D) Z E0 BE Z)) (Ay [62] Z Z (λ_=>A9 (ED Z Z (O4 D) Z Ag Z)) (BR 8 Z Z Z (AZ 9 Z Z (J (DP Z Z Z) (AC ⟨Z,?_⟩))))))));refine Bb (A4 Z (λS=>?_) (λS=>?_))
    .have w:=H (λe=>S (jr Int.ofNat e));refine Bm [[],[],[],[1,2],[1,2,3],[],[],[],[6,7],[6,7,8],[5,6,7,8,9],[5,6,7,8,9,10],[],[],[12,13],[12,13,14],[12,13,14,15],[5,6,7,8,9,10,11,12,13,14,15,16],rg 18,rg 19] mixed Z (BY (A7 8 Z Z (A7 4 Z Z (A7 9 Z Z (A1 [66,67] [2] Z Z (λ_=>A9 (DO (i) Z Z (Z) (l) Z E0 BE Z)) (A1 [68] [2] Z Z (λ_=>A9 (ED Z Z (O4 l) Z Ag Z)) ?_))))));refine A7 8 Z Z (A7 4 Z Z (A7 9 Z Z (A1 [71,72] [2] Z Z (λ_=>A9 (DO (i) Z Z (Z) (l) Z E0 BE Z)) (A1 [73] [2] Z Z (λ_=>A9 (ED Z Z (O4 l) Z Ag Z)) (A1 [70,74] [7] Z Z (λ_=>A9 (DO (of i) Z Z (Z) (s) Z R3 D8 Z)) (A1 [75] [7] Z Z (λ_=>A9 (ED Z Z (LC s) Z BJ Z)) (A7 4 Z Z (A7 12 Z Z ?_))))))));refine A1 [77,78] [2] Z Z (λ_=>A9 (DO (j) Z Z (Z) (D) Z E0 BE Z)) (A1 [79] [2] Z Z (λ_=>A9 (ED Z Z (O4 D) Z Ag Z)) (Cq [80] [21] [(81,_)] Z Z (λ_=>Cd (CB 21 Ap Z Z Z Z Z Z Z Z)) (.inr ⟨81,_,Z,Z,Z,Z,Z⟩) Z Z Z Z Z (Cq [76,81] [60,40,21] [(82,_)] Z Z (λ_=>Cd (Ha 76 60 40 (z.at_ (of i) s) Z Z (by rw[χ]) Z Z Z Z Z (DQ (emb:=AY) (OW g of i k (of i)) [of j] Z Z Z Z Z Z Z Z Ap (by show ((OW g of i k (of i)).length+1)*8<=_;omega) Z Z Z Z))) (.inr ⟨82,_,Z,Z,Z,Z,Z⟩) Z Z Z Z Z (BR 18 Z Z Z (AZ 19 Z Z (Fd 82 60 40 A Z Z Z (by rw[χ]) (by simp) Z Z Z Z Z Z Z (λ_ _=>rfl) λb c hb hc=>(J (DO (of i) Z Z (Z) (s) Z R3 D8 Z) (AC ⟨Z,?_⟩))))))));refine AZ 20 Z Z (V (Zp Z Z Z Z Z (by rw[Fx];exact s) (UY (h:=some (b,c))) Z D8) (AC ⟨Z,?_⟩));refine Bb (AF (J (Ac Z Z (Ξ _ (by omega)) Z) (cl Z Z (AC ?_))));exact ⟨(k+1,Bf (Bq M (G (of i))) b (.row 3 1 c ((OW g of i k (of i)++ [of j]).map AY)),BK G (of i) (some (b,c))),⟨o,by have:=z.app s hb hc;rw[w] at this;exact this⟩,by show (gs g i).length-(k+1)<(gs g i).length-k;omega,AR A [2,5,6,7,40] Z (by rw[w];rfl) ⟨Z,Z,Z,Z,Z,Z,Z,Z,Z,Z,Z,Z,trivial⟩⟩
    .have Y:=I (λh=>S (λe=>h (Int.ofNat.inj e)));refine AU (AF (J (Ac Z Z (Ξ _ (by omega)) Z) (cl Z Z (AC ?_))));exact ⟨(k+1,M,G),⟨o,by rw[<-Y];exact z⟩,by show (gs g i).length-(k+1)<(gs g i).length-k;omega,AR A [2,5,6,7,40] Z (by rw[<-Y];rfl) ⟨Z,Z,Z,Z,Z,Z,Z,Z,Z,Z,Z,Z,trivial⟩⟩
   .refine Aq ?_;have hke:k=(gs g i).length:=by have:=T;omega
    subst hke;refine AF (J (Ac Z Z (Ξ _ (by omega)) Z) (cl Z Z (AC ?_)));exact ⟨(i+1,M,G),⟨l,by rw[<-ZV];exact z⟩,by show g.length-(i+1)<g.length-i;omega,AR A [2,5,6,7,40] Z (by rw[ZV];rfl) ⟨Z,Z,Z,Z,Z,Z,Z,Z,trivial⟩⟩
  .refine Aq (AD ?_);have N:i=g.length:=by have:=U;omega
   subst N;refine jO 7 0 40 ((Ln g of cnt).map j0) Z Z Z Z Z (by rw[χ,Ln,WX,Fx]) z.melt ⟨LK _ _ _,fH _⟩ Z (Fi (emb:=j0) 8 7 (Ln g of cnt) Z Z Z (WX _ _).symm Z Z Z ?_);rw[dy cnt];have hll:=ot of g.length cnt;have hob:=fE (W9 of g.length cnt) (Ln g of cnt) (uX W t) (by rw[Ln,WX];exact tf t) (by rw[Ln,WX,hll]);rw[<-W9,show (AV.own 6 0 cnt)= .own 6 0 (W9 of g.length cnt).length by rw[hll]];refine AF (cl Z Z ?_);refine J (ut Z Z) (V (F8 hob Z [5,6] ⟨Z,Z,trivial⟩ Z Z Z Z Z Z Z Z Z) (cl Z Z (J (DI Z Z Z) (J (DI Z Z Z) (AB Z Z (AB Z Z (AC (AD ?_))))))));have hsq:kr (Ln g of cnt) (hU (W9 of g.length cnt))=l9 g of cnt:=rfl;have y:=fF (Ln g of cnt) (hU (W9 of g.length cnt));have B:∀k,k<(l9 g of cnt).length->hU (l9 g of cnt) k<cnt:=λk hk=>by have:=o5 (g:=Ln g of cnt) (K:=hU (W9 of g.length cnt)) hk;rwa [Ln,WX] at this
   rw[Ln,WX,<-Ln] at y;rw[hsq] at y⊢;refine AF (cl Z Z (V (FY 9 Ap Z Z Z (by omega) s8 Z Z Z Z) (AB Z Z (AC (AD (AD ?_))))));rw[tF]
   obtain ⟨a,C⟩:∃a,l9 g of cnt=a:=⟨_,Z⟩
   rw[C] at y B⊢;refine AF (cl Z Z (J (IR Z (χ ..) E0 Z) (cl Z Z (AC (AX (BC (α:=Nat) (λk=>⟨142,[(0,.d (Nb g)),(4,(.own 2 0 g.length)),(5,(.d (AY cnt))),(15,(.own 9 0 cnt)),(94,(.d (j0 a))),(95,(.d (AY a.length))),(96,(.d (AY k)))],[(2,[.rowD 3 1 (rowN g.length of)]),(9,[.rowD 3 1 (rowN cnt (Dz a k))])]⟩) (λk=>k<=a.length) (λk=>a.length-k) (0) (κ _) (AR A [2,9] Z Z ⟨Z,Z,Z,Z,Z,Z,Z,trivial⟩) ?_))))));intro k hk;refine AD (AF (J (At Z Z Z) (AC (AD (A4 Z (λR=>?_) (λR=>?_))))))
   .refine AU (AD (AX (AD ?_)));have o:k<a.length:=BG R;refine AF (cl Z Z (J (Al (k) Z Z (Z) (Pe o) E0 Z BE Z) (J (BZ Z Z Ag Z) (AB Z Z (AB Z Z (AC (AF (cl Z Z ?_))))))));refine cl Z Z (cl Z Z (J (DO (hU a k) Z Z (Z) (B k o) Z E0 BE Z) (V (Zp Z Z Z Z Z (by rw[EN];exact B k o) EM Z BE) (AC (AF (J (Ac Z Z (Ξ _ (by omega)) Z) (cl Z Z (AC ?_))))))));exact ⟨k+1,o,by omega,AR A [2,9] Z (Z) ⟨Z,Z,Z,Z,Z,Z,Z,trivial⟩⟩
   .refine Aq (AD ?_);have hks:k=a.length:=by have:=R;omega
    subst hks;refine AF (cl Z Z (V (FY 10 Kw Z Z Z (by omega) v1 Z Z Z Z) (AB Z Z (AC (AD (AD (SP 10 0 (lC cnt (λ_=>none) (λ_=> [])) Z (by rw[Fx,List.length_replicate]) (VA cnt) ⟨Yf _,LK _ _ _⟩ Z (II 40 Z Z Z ?_))))))));have hno:∀v,v<g.length->Dz a a.length (of v)<cnt:=λv hv=>Ys a (Nat.lt_of_le_of_lt (κ _) (t.lt v hv)) y _ (Θ _) _;refine AF (cl Z Z (J (IR Z (χ ..) R3 Z) (cl Z Z (AC (AX (BC (α:=Nat×MF×(Nat->Hd)) (λq=>⟨142,[(0,.d (Nb g)),(4,(.own 2 0 g.length)),(15,(.own 9 0 cnt)),(18,(.own 10 0 cnt)),(109,(.d (AY g.length))),(110,(.d (AY q.1)))],[(2,[.rowD 3 1 (rowN g.length (oc of (λv=>Dz a a.length (of v)) q.1))]),(9,[.rowD 3 1 (rowN cnt (Dz a a.length))]),(10,[.rowD 28 1 (lC cnt q.2.2 (GV (λv=>Dz a a.length (of v)) q.1))]),(40,[.multi q.2.1])]⟩) (λq=>q.1<=g.length/\Nx q.2.1 cnt q.2.2 (GV (λv=>Dz a a.length (of v)) q.1)) (λq=>g.length-q.1) ((0,λ_=>none,λ_=>none)) (⟨κ _,Nx.zero _⟩) (AR A [2,9,10,40] Z Z ⟨Z,Z,Z,Z,Z,Z,trivial⟩) ?_))))));rintro ⟨i,M,G⟩ ⟨hi,z⟩;dsimp only at hi z⊢;refine AD (AF (J (At Z Z Z) (AC (AD (A4 Z (λE=>?_) (λE=>?_))))))
    .refine AU (AD (AX (AD ?_)));have l:i<g.length:=BG E;have s:=t.lt i l;have w:=al (λv=>Dz a a.length (of v)) i;have L:=fN of (λv=>Dz a a.length (of v)) i;have u:=hno i l;have hofi:oc of (λv=>Dz a a.length (of v)) i i=of i:=υ (mq _);have hofj:oc of (λv=>Dz a a.length (of v)) (i+1) i=Dz a a.length (of i):=ϱ (mS _);have hgo:=O4 (f:=oc of (λv=>Dz a a.length (of v)) i) l;have O:=O4 (f:=oc of (λv=>Dz a a.length (of v)) (i+1)) l;rw[hofi] at hgo;have hrg:=O4 (f:=Dz a a.length) s
     first | dsimp only at w L | skip
     obtain ⟨x,X⟩:∃x,Dz a a.length (of i)=x:=⟨_,Z⟩
     rw[hofj,X] at O;rw[X] at w L u hrg;have hln:=fD (λv=>Dz a a.length (of v)) i x;refine AF (cl Z Z (AB Z Z (AC ?_)));refine AD (AF (cl Z Z (cl Z Z (cl Z Z (cl Z Z (cl Z Z (J (DO (i) Z Z (Z) (l) Z E0 BE Z) (J (ED Z Z (hgo) Z Ag Z) ?_))))))));refine J (DO (of i) Z Z (Z) (s) Z E0 BE Z) (J (ED Z Z (hrg) Z Ag Z) (J (DO (i) Z Z (Z) (l) Z E0 BE Z) (V (Zp Z Z Z Z Z (by rw[EN];exact l) (EM.trans (by rw[L])) Z BE) (AC (Bm [[],[],[],[1,2],[1,2,3],[],[],[],[6,7],[6,7,8],[5,6,7,8,9],[5,6,7,8,9,10],[],[12],[5,6,7,8,9,10,11,12,13],rg 15,rg 16] mixed Z (BY (A7 18 Z Z (A7 4 Z Z ?_))))))));refine A7 19 Z Z (A1 [124,125] [2] Z Z (λ_=>A9 (DO (i) Z Z (Z) (l) Z E0 BE Z)) (A1 [126] [2] Z Z (λ_=>A9 (ED Z Z (O) Z Ag Z)) (A7 18 Z Z (A7 4 Z Z (A7 19 Z Z (A1 [129,130] [2] Z Z (λ_=>A9 (DO (i) Z Z (Z) (l) Z E0 BE Z)) (A1 [131] [2] Z Z (λ_=>A9 (ED Z Z (O) Z Ag Z)) (A1 [128,132] [10] Z Z (λ_=>A9 (DO (x) Z Z (Z) (u) Z R4 D8 Z)) ?_))))))));refine A1 [133] [10] Z Z (λ_=>A9 (ED Z Z (LC u) Z BJ Z)) (A7 19 Z Z (Cq [135] [21] [(136,_)] Z Z (λ_=>Cd (CB 21 Ap Z Z Z Z Z Z Z Z)) (.inr ⟨136,_,Z,Z,Z,Z,Z⟩) Z Z Z Z Z (Cq [134,136] [60,40,21] [(137,_)] Z Z (λ_=>Cd (Ha 134 60 40 (z.at_ x u) Z Z (by rw[χ]) Z Z Z Z Z (DQ (emb:=AY) (GV (λv=>Dz a a.length (of v)) i x) [i] Z Z Z Z Z Z Z Z Ap (by show ((GV (λv=>Dz a a.length (of v)) i x).length+1)*8<=_;omega) Z Z Z Z))) (.inr ⟨137,_,Z,Z,Z,Z,Z⟩) Z Z Z Z Z (BR 15 Z Z Z (AZ 16 Z Z (Fd 137 60 40 A Z Z Z (by rw[χ]) (by simp) Z Z Z Z Z Z Z (λ_ _=>rfl) λb c hb hc=>(J (DO (x) Z Z (Z) (u) Z R4 D8 Z) (AC ⟨Z,?_⟩))))))));refine AZ 17 Z Z (V (Zp Z Z Z Z Z (by rw[Fx];exact u) (UY (h:=some (b,c))) Z D8) (AC ⟨Z,?_⟩));refine Bb (AF (J (Ac Z Z (Ξ _ (by omega)) Z) (cl Z Z (AC ?_))));exact ⟨(i+1,Bf (Bq M (G x)) b (.row 3 1 c ((GV (λv=>Dz a a.length (of v)) i x++ [i]).map AY)),BK G x (some (b,c))),⟨l,by have:=z.app u hb hc;rw[w] at this;exact this⟩,by show g.length-(i+1)<g.length-i;omega,AR A [2,9,10,40] Z (by rw[w];rfl) ⟨Z,Z,Z,Z,Z,Z,trivial⟩⟩
    .refine Aq (AD ?_);have N:i=g.length:=by have:=E;omega
     subst N;have hof:rowN g.length (oc of (λv=>Dz a a.length (of v)) g.length)=((List.range g.length).map λv=>Dz a a.length (of v)).map AY:=by rw[jy];exact kT λv hv=>jr AY (ϱ (Ω.1 hv))
     rw[hof];refine jO 10 0 40 ((gn cnt (GV (λv=>Dz a a.length (of v)) g.length)).map j0) Z Z Z Z Z (by rw[χ,WX,Fx]) z.melt ⟨LK _ _ _,fH _⟩ Z (Fi (emb:=AY) 4 2 ((List.range g.length).map λv=>Dz a a.length (of v)) Z Z Z (by simp) Z Z Z (AF (cl Z Z (cl Z Z (AB Z Z (AB Z Z (AC (A5 ?_))))))));exact ⟨_,[10],_,A2 Z,Z,Z,of,cnt,t,by unfold kN;rw[C],by unfold kN;rw[C]⟩
noncomputable def qC(g:List (List Nat)):(Nat->Nat)×Nat:=Classical.epsilon λp=>CN g.length (gs g) p.1 p.2
noncomputable def nM(g:List (List Nat)):Nat->Nat:=(qC g).1
noncomputable def lv(g:List (List Nat)):Nat:=(qC g).2
theorem T3(f:GB g){cnt:Nat}(h:CN g.length (gs g) u cnt):CN g.length (gs g) (nM g) (lv g)/\cnt=lv g/\∀v,v<g.length->u v=nM g v:=by
 have a:CN g.length (gs g) (qC g).1 (qC g).2:=Classical.epsilon_spec (p:=λp:(Nat->Nat)×Nat=>CN g.length (gs g) p.1 p.2) ⟨(u,cnt),h⟩;exact ⟨a,qG h a λv c y b=>f.suc c b⟩
noncomputable def kG(g:List (List Nat)):List (List Nat):=gn (lv g) (GV (nM g) g.length)
noncomputable def yX(g:List (List Nat)):List Nat:=(List.range g.length).map (nM g)
theorem XQ(h:∀v,v<c->u v=H v):GV u c=GV H c:=by grind[GV,l5]
theorem Vx(g:List (List Nat))(b:GT g):AO prog 134 [.d (Nb g)] [] λr h=>r= .tup [.own 10 0 (lv g),.d (j0 (yX g))]/\h=[(10,[.rowD 28 1 ((kG g).map j0)])]:=
 (Vy g b).mono λr h ⟨c,cnt,a,j,o⟩=>by
  obtain ⟨_,s,f⟩:=T3 b.gb (Xk b a);have k:=XQ f;have l:(List.range g.length).map (λv=>kN g c cnt (c v))=yX g:=kT λv i=>f v (Ω.1 i);rw[j,o,k,l,s];exact ⟨Z,Z⟩
def rO(g:List (List Nat)):List (List Int):=g.map (List.map Int.ofNat)
theorem sh(g:List (List Nat)):sH (rO g)=Nb g:=by simp[*,rO]
theorem Kq(g:List (List Nat)):(rO g).length=g.length:=by simp[rO]
theorem YK(g:List (List Nat)):∀i,i<=g.length->MO (rO g) i=KM g i
 | 0,_=>rfl
 | i+1,b=>by
  have a:=YK g i (by omega);rw[MN (by rw[Kq];omega),a];unfold KM;rw[ki,kA,mj,List.map_singleton,List.sum_singleton,Fs (by omega)]
  simp[rO]
theorem ub(a:GT g):WL (rO g)=0:=by
 have j:=a.gb.n;have i:=a.tot;refine (xC (by rw[Kq];omega) (by rw[Kq,YK g _ (Θ _)];omega) ?_).symm;rintro ⟨l,h,x,c,k⟩;obtain ⟨m,f,rfl⟩:=Γ.1 h;obtain ⟨y,b,rfl⟩:=Γ.1 c;have:=a.gb.lt m f y b
 grind[Kq]
theorem oF{g:List (List Nat)}{l:List Nat}(h:l∈g):l.length<=KM g g.length:=by
 obtain ⟨i,a,rfl⟩:=mE.1 h
 have b:KM g (i+1)=KM g i+g[i].length:=by
  grind[KM,ki,Fs]
 have:=Qm g (i:=i+1) (j:=g.length) (by omega);omega
theorem qR(g:List (List Nat))(a:GT g):AI prog 133 [.d (Nb g)] (AE 0):=by
 have i:=a.gb.n;have f:=a.tot
 have h:=io (rO g) (by rw[Kq];omega) λl c=>by
  obtain ⟨m,b,rfl⟩:=Γ.1 c;rw[χ];have:=oF b;omega
 rw[sh,ub a] at h;exact h
theorem T4(g:List (List Nat))(a:GT g):AO prog 80 [.d (Nb g)] [] λr b=>r= .tup [.own 10 0 (lv g),.d (AE 0)]/\b=[(10,[.rowD 28 1 ((kG g).map j0)])]:=by
 refine Av func80 Z Z ntmps80 Z Z Z λF c=>?_;refine AD (AF (AB Z Z (AB Z Z (AC (AD (AD (AF (cl Z Z ?_))))))));refine J (Ak (qR g a) Z Z) (AB Z Z (AC (AD (AF (cl Z Z (J (DP Z Z Z) (AC (Cr Z (kD (by decide)) ?_))))))));refine AU (AD (AF (cl Z Z (V (F8 (Vx g a) Z [10] ⟨Z,trivial⟩ Z Z Z Z Z Z Z Z Z) (cl Z Z (J (D6 Z Z Z) (J (D6 Z Z Z) (AB Z Z ?_))))))));refine AB Z Z (AC (AD (AF (cl Z Z (AB Z Z (AB Z Z (AC (A5 ?_))))))));exact ⟨_,[10],_,A2 Z,Z,Z,Z,Z⟩
theorem eH(a:Nat->List Nat)(v:Nat):∃y,(Rh a v y/\Rh a y v)/\∀z,Rh a v z/\Rh a z v->y<=z:=sJ (λu=>Rh a v u/\Rh a u v) v v ⟨.refl v,.refl v⟩ (Θ _)
noncomputable def lD(suc:Nat->List Nat)(v:Nat):Nat:=Classical.choose (eH suc v)
theorem HH(a:Nat->List Nat)(v:Nat):(Rh a v (lD a v)/\Rh a (lD a v) v)/\∀z,Rh a v z/\Rh a z v->lD a v<=z:=Classical.choose_spec (eH a v)
theorem Y8:lD a s=lD a F↔Rh a s F/\Rh a F s:=by
 obtain ⟨c,g⟩:=HH a s;obtain ⟨b,f⟩:=HH a F
 constructor
 .intro e;rw[<-e] at b;exact ⟨c.1.trans b.2,b.1.trans c.2⟩
 .intro h;exact Nat.le_antisymm (g _ ⟨h.1.trans b.1,b.2.trans h.2⟩) (f _ ⟨h.2.trans c.1,c.2.trans h.1⟩)
theorem dl(n:Nat)(a:Nat->List Nat):∃l cnt,ky n a l cnt:=by
 let b:=(List.range n).filter λv=>decide (lD a v=v)
 have o:b.Nodup:=List.nodup_range.filter _;have g:∀v,lD a v<=v:=λv=>(HH a v).2 v ⟨.refl v,.refl v⟩;have h:∀v,lD a (lD a v)=lD a v:=λv=>Y8.2 ⟨(HH a v).1.2,(HH a v).1.1⟩;have k:∀v,v<n->lD a v∈b:=λv f=>Φ.2 ⟨Ω.2 (Nat.lt_of_le_of_lt (g v) f),Υ (h v)⟩;refine ⟨λv=>b.idxOf (lD a v),b.length,⟨λv f=>my (k v f),λi j r t=>?_,λc s=>?_,?_⟩⟩
 .rw[<-Y8]
  constructor
  .intro e;have x:=nJ (my (k i r))
   grind
  grind
 .obtain ⟨w,u⟩:=Φ.1 (ϑ s)
  grind
 grind
theorem i8(g:List (List Nat))(a:GT g):CN g.length (gs g) (nM g) (lv g):=by
 obtain ⟨b,cnt,h⟩:=dl g.length (gs g);exact (T3 a.gb (Xk a h)).1
end Go.Proofs.YteifpcnphnhaoaaGreat
namespace Go.Proofs.YteifpcnphnhaoaaGreat
open Go.RowKit Go.Shelf
variable{g:List (List Nat)}{x:List Nat}{a:iB}{c:List D}{M:MF}{i:Nat}{f:List AW}{E:List (dr×Nat)}{h:D}{j k o s:Nat}{t u:Int}{w:List Int}{y z:Nat}{N:MF}{A:Nat}
set_option maxRecDepth 100000
def Jt(g:List (List Nat))(i j:Nat):Prop:=Rh (gs g) i j/\Rh (gs g) j i
theorem Mg(g:List (List Nat))(i:Nat):Jt g i i:=⟨.refl i,.refl i⟩
theorem Rb(h:Jt g i s):Jt g s i:=⟨h.2,h.1⟩
theorem KY(h:Jt g i s)(a:Jt g s A):Jt g i A:=⟨h.1.trans a.1,a.2.trans h.2⟩
noncomputable def ka(g:List (List Nat))(i:Nat):List Nat:=(List.range g.length).filter λj=>dec (Jt g i j)
noncomputable def mK(g:List (List Nat)):List Nat:=(List.range g.length).filter λi=>dec (∀j,j<i->¬Jt g i j)
noncomputable def jg(g:List (List Nat)):List (List Nat):=k9 ((mK g).map (ka g))
theorem WE:s∈ka g i↔s<g.length/\Jt g i s:=by
 unfold ka;rw[Φ,Ω,G7]
theorem Pf:i∈mK g↔i<g.length/\∀j,j<i->¬Jt g i j:=by
 unfold mK;rw[Φ,Ω,G7]
theorem qK(h:Jt g i s):ka g i=ka g s:=by grind[ka,G7,KY,Rb]
theorem WD(g:List (List Nat))(i:Nat):(ka g i).Pairwise (· < ·):=List.Pairwise.sublist lp List.pairwise_lt_range
theorem V8(g:List (List Nat)):(mK g).Pairwise (· < ·):=List.Pairwise.sublist lp List.pairwise_lt_range
theorem T9(h:i∈mK g):kL (ka g i)=(i:Int):=by
 obtain ⟨k,j⟩:=Pf.1 h;have b:i∈ka g i:=WE.2 ⟨k,Mg g i⟩;have c:=WD g i;unfold kL
 cases hc:ka g i with
 | nil=>rw[hc] at b;cases b
 | cons a t=>
  rw[hc] at b c;show ((a:Nat):Int)=_;have f:a∈ka g i:=by rw[hc];exact k8
  rcases ju.1 b with e | e
  .rw[e]
  .have:=List.rel_of_pairwise_cons c e;exact absurd (WE.1 f).2 (j a this)
theorem pJ(i:Nat)(a:i<g.length):∃k,k∈mK g/\Jt g i k:=by
 induction i using Nat.strongRecOn with
 | ind i b=>
  by_cases h:∀j,j<i->¬Jt g i j
  .exact ⟨i,Pf.2 ⟨a,h⟩,Mg g i⟩
  grind[KY]
theorem Um(c:GT g){v:Nat}(b:v<g.length):GV (nM g) g.length (nM g v)=ka g v:=by
 have f:=i8 g c;unfold GV ka
 exact l5 λw a=>by
  rw[nH,decide_eq_true_iff,G7];rw[eq_comm];exact f.scc v w b (Ω.1 a)
theorem LT{l:List (List Nat)}:x∈k9 l↔x∈l/\2<=x.length:=by
 unfold k9 Gn;rw[Φ];simp
theorem WA(b:GT g):x∈kG g↔∃i,i∈mK g/\x=ka g i:=by
 have f:=i8 g b;unfold kG gn;rw[Γ]
 constructor
 .rintro ⟨c,j,rfl⟩;obtain ⟨v,k,rfl⟩:=f.use c (Ω.1 j)
  grind[pJ,Um,qK]
 .rintro ⟨i,h,rfl⟩;have a:=(Pf.1 h).1;exact ⟨nM g i,Ω.2 (f.lt i a),Um b a⟩
theorem Px(f:GT g):(kG g).Nodup:=by
 have h:=i8 g f;unfold kG gn;rw[List.Nodup,lA];refine rH (R:=λa b=>a<b) (λ{a b} j k i e=>?_) List.pairwise_lt_range;obtain ⟨v,c,rfl⟩:=h.use a (Ω.1 j);have l:v∈GV (nM g) g.length (nM g v):=by unfold GV;rw[Φ];exact ⟨Ω.2 c,by simp⟩
 grind[GV]
theorem WH(a:GT g):x∈jg g↔x∈k9 (kG g):=by grind[jg,LT,WA]
theorem Nh(g:List (List Nat)):(jg g).Pairwise λa b=>kL a<kL b:=by grind[jg,k9,rH,V8,T9]
theorem ik{y:List Nat}(b:x∈jg g)(a:y∈jg g)(h:kL x=kL y):x=y:=by
 unfold jg at b a;obtain ⟨i,f,rfl⟩:=Γ.1 (LT.1 b).1;obtain ⟨j,c,rfl⟩:=Γ.1 (LT.1 a).1;rw[T9 f,T9 c] at h;rw[Int.ofNat_inj.1 h]
theorem WJ(f:GT g)(c:List (List Nat))(i:c.Perm (k9 (kG g)))(o:c.Pairwise λa b=>¬kL b-kL a<0):c=jg g:=by
 have j:c.Nodup:=i.nodup_iff.2 (List.Nodup.sublist lp (Px f));have k:∀x,x∈c↔x∈jg g:=λx=>by rw[i.mem_iff,WH f]
 refine sR (R:=λa b=>kL a<kL b) (λx h=>by omega) (λx y z h t=>by omega) ?_ (Nh g) k;refine rH (λ{a b} s r l=>?_) (List.Pairwise.and o j)
 grind[ik]
theorem qP:Go.Sort.SWO (ltOf λa b:List Nat=>kL a-kL b):=by
 refine ⟨λx=>?_,λx y z h c=>?_,λx y z h c=>?_⟩
 all_goals (grind[ltOf])
theorem AO.fnArgA{P:Program}{f g:FuncId}{x:AV}{H:Hp}{R:AV->Hp->Prop}(h:AO P f [x,.d (.fn g [] [])] H R):AO P f [x,.d (.raw (.func (.func g) #[] #[]))] H R:=
 ⟨h.1,λF r vs y w k u t o=>h.2 F r vs y w k u t λi a v j l=>by
  rcases i with _ | _ | i
  .exact o 0 _ v j l
  .have e:a= .d (.fn g [] []):=by simpa using j.symm
   subst e;have:=o 1 _ v Z l
   cases this with
   | d s=>
    cases s with
    | raw _=>exact .d (.fn (us:=[]) (vs:=[]) Z Z (λi c v b=>by simp at b) λi c v b=>by simp at b)
  .simp at j⟩
theorem Jz.l{N:MF}(h:Jz M z w):Jz (jl M N) z w:=by
 obtain ⟨m,c,a⟩:=h;exact ⟨m,Io c,Io a⟩
theorem Jz.r{l:List Int}(j:∀i m a,M i=some m->N i=some a->False)(h:Jz N z l):Jz (jl M N) z l:=by
 obtain ⟨m,g,f⟩:=h
 have c:∀{i a},N i=some a->M i=none:=λ{i a} h=>by
  cases e:M i with
  | none=>rfl
  | some x=>exact (j i _ _ e h).elim
 exact ⟨m,LQ (c g) g,LQ (c f) f⟩
theorem Jz.put{g:Nat}{o:Au}(h:Jz N z w)(f:N g=none):Jz (Bf N g o) z w:=by
 obtain ⟨m,c,a⟩:=h;exact ⟨m,by rw[Gt (λe=>by rw[e,f] at c;cases c)];exact c,by rw[Gt (λe=>by rw[e,f] at a;cases a)];exact a⟩
abbrev y4:FuncId:=79
def vG(L G:List Int)(id:Int):Bool:=decide (id∈L) && !decide (id∈G)
theorem qO{j i g h:Nat}{L G:List Int}(b:N j=some (.cells 124 [Zt g]))(a:N i=some (.cells 124 [Zt h]))(k:Jz N g L)(l:Jz N h G)(id:Int):
  AO prog y4 [.d (AE id),.d (pD j 0),.d (pD i 0)] [(41,[.multi N])] λr o=>r= .d (Aj (vG L G id))/\o=[(41,[.multi N])]:=by
 refine Av func79 Z Z ntmps79 Z Z Z λF s=>(AD (AF ?_));refine AB Z Z (AC (AD (AF (J (Eh (f:=41) Z Z b Z rv Z) (cl Z Z (V (cQ (JW k id) Z [41] ⟨Z,trivial⟩ Z Z Z Z Z Z Z Z Z) (cl Z Z (C5 8 Z (λc=>?_) (λc=>?_)))))))));refine AT Z Z Z (J (Eh (f:=41) Z Z a Z rv Z) (AT Z Z Z (cl Z Z (AT Z Z Z (V (cQ (JW l id) Z [41] ⟨Z,trivial⟩ Z Z Z Z Z Z Z Z Z) (AT Z Z Z (J (JQ Z Z) (J (B4 Z Z Z Z) ?_))))))))
 rotate_left
 refine AN Z Z Z Z (AN Z Z Z Z (AN Z Z Z Z (AN Z Z Z Z (J (Br Z Z Z Z) ?_))))
 all_goals
  refine AB Z Z (AC (A5 ?_));exact ⟨_,[41],_,A2 Z,Z,Z,by {unfold vG;simp[c]},Z⟩
theorem uO(h:E.length<=1000):GT (lJ f E):=by
 have a:∀l∈lJ f E,l.length<=1000/\∀x∈l,x<E.length:=λl a=>by
  obtain ⟨e,_,rfl⟩:=Γ.1 a;exact ⟨jq (YJ _ _ _ _) h,sg⟩
 refine ⟨⟨by rw[F3];omega,λl b=>by have:=(a l b).1;omega,λl b x g=>by rw[F3];exact (a l b).2 x g⟩,?_⟩
 have c:∀i,i<=(lJ f E).length->KM (lJ f E) i<=i*1000:=λi k=>by
  induction i with
  | zero=>exact κ _
  | succ i j=>
   grind[Fs,KM,ki]
 grind[F3]
noncomputable def kF(p:iB):List (dr×Nat):=((fl p.it).filter λi=>vG (gg p) (Bp p) i.id).map λi=>(i,0)
theorem iH(p:iB):(kF p).map Prod.fst=(fl p.it).filter λi=>vG (gg p) (Bp p) i.id:=by unfold kF;rw[jy];exact List.map_id _
noncomputable def lF(rs:List AW)(E:List (dr×Nat)):List (List Int):=(jg (lJ rs E)).map (An E)
theorem Z7(h:x∈jg g):2<=x.length/\x.length<=g.length/\∀k∈x,k<g.length:=by
 obtain ⟨b,a⟩:=LT.1 h
 grind[ka]
theorem WI(g:List (List Nat)):(jg g).length<=g.length:=by grind[jg,gD,mK]
theorem Z2(a:GT g)(h:x∈kG g):x.length<=g.length/\∀k∈x,k<g.length:=by grind[WA,ka]
theorem qF(a:GT g):lv g<=g.length:=by
 obtain ⟨b,cnt,h⟩:=dl g.length (gs g);have:=(T3 a.gb (Xk a h)).2.1;have:=h.le;omega
theorem WB:(kG g).length=lv g:=by unfold kG;rw[WX]
theorem wr{l:List Nat}(h:0<l.length)(a:∀k∈l,k<y):l.getD 0 0<y:=by simp_all
theorem ij(a:GT g):(jg g).length=(k9 (kG g)).length:=by
 have c:(jg g).Nodup:=by
  grind[List.Pairwise.imp,Nh]
 have b:(k9 (kG g)).Nodup:=List.Nodup.sublist lp (Px a);exact ((rD c b).2 λx=>WH a).length_eq
theorem RC{b:List gf}{a:List dr}:∀(f:Nat) (c:Nat->Bool) (x:Int),x∈MV b a f c->∃i,i<a.length/\c i=true/\x=(a.getD i ey).id
 | 0,_,_,h=>by cases h
 | f+1,c,x,h=>by
  cases hn:FT b a c with
  | none=>rw[Fb hn] at h;cases h
  | some i=>
   rw[HD hn] at h;obtain ⟨r,k,_⟩:=In hn;rcases ju.1 h with e | h
   .exact ⟨i,r,k,e⟩
   .obtain ⟨j,o,g,l⟩:=RC f _ x h;refine ⟨j,o,?_,l⟩;unfold BD at g
    by_cases e:j=i
    .rw[e];exact k
    .simpa [e] using g
theorem Ou{b:List gf}{a:List dr}(g:(a.map dr.id).Nodup):∀(f:Nat) (k:Nat->Bool),(MV b a f k).Nodup
 | 0,_=>List.nodup_nil
 | f+1,k=>by
  cases hn:FT b a k with
  | none=>rw[Fb hn];exact List.nodup_nil
  | some i=>
   rw[HD hn];obtain ⟨t,u,_⟩:=In hn;refine nE.2 ⟨λh=>?_,Ou g f _⟩;obtain ⟨j,s,r,o⟩:=RC f _ _ h;have l:j≠i:=λe=>by subst e;unfold BD at r;simp at r
   rw[Ψ,Ψ,ω t,ω s] at o;have e:(a.map dr.id)[i]'(by simpa using t)=(a.map dr.id)[j]'(by simpa using s):=by rw[kR,kR];exact o
   rw[List.Nodup,lc] at g;rcases Nat.lt_trichotomy i j with c | c | c
   .exact g i j _ _ c e
   .exact l c.symm
   .exact g j i _ _ c e.symm
theorem V4(b:Ad a=0):(Bp a).Nodup:=Ou (En b) _ _
theorem Mo(b:CY a):(Bp a).length<=30:=by
 have h:=UV (ros:=j8 a) (its:=hY a) (hY a).length λ_=>true;have c:=DY a;have:=b.i;unfold Bp;omega
theorem bm(p:iB)(B:CY p)(v:Ad p=0):AI prog 30 [.d (BM p)] (.tup [XZ (lF (jf p) (kF p)),AE 0]):=by
 have hi30:=B.i;have hlk:=K4 p B v;have hgk:=V3 p B v;have hO:hY p=fl p.it:=ϱ v;have hll:=Ec v;have hgn:(Bp p).Nodup:=V4 v;have hgl:(Bp p).length<=30:=Mo B;refine Av func30 Z Z ntmps30 Z Z Z λF hF=>?_;refine AD (AF (V (Ba 1 Z Z Z Z Z Z Z) (AB Z Z (AB Z Z (AC (AD (AF (J (Ar Z Z CG Z Z Z) ?_))))))));refine J (Ak (hlk) Z Z) (cl Z Z (J (DI Z Z Z) (J (DI Z Z Z) (AB Z Z (AB Z Z (AC (AD (AD ?_))))))));refine AF (cl Z Z (J (DP Z Z Z) (AC (Cr Z (kD (by decide)) (AU (AD (AF (J (Ar Z Z CG Z Z Z) ?_))))))));refine J (Ak (hgk) Z Z) (cl Z Z (J (DI Z Z Z) (J (DI Z Z Z) (AB Z Z (AB Z Z (AC (AD (AD ?_))))))));refine AF (cl Z Z (J (DP Z Z Z) (AC (Cr Z (kD (by decide)) (AU (AD (AF (cl Z Z ?_))))))));refine Cy (Zi (Gw (gg p) (G3 v) (by omega)) Z [41] ⟨Z,trivial⟩ Z Z Z Z (λr z ⟨b,N,i,h,_⟩=>by subst i h;exact ⟨Z,Z,Z⟩) Z) Z ?_;rintro _ ⟨r,z,⟨bl,N1,i,h,hWl⟩,rfl⟩;subst i h;refine cl Z Z ?_;refine Cy (Zi ((Gw (Bp p) hgn (by omega)).byX [(41,42)] Z) Z [42] ⟨Z,trivial⟩ Z Z Z Z (λr z ⟨r0,H0,⟨b,N,i,h,_⟩,e3,e4⟩=>by subst e3 e4 i h;exact ⟨Z,Z,Z⟩) Z) Z ?_;rintro _ ⟨r,z,⟨r0,H0,⟨bg,N2,i,h,hWg⟩,e3,e4⟩,rfl⟩;subst e3 e4 i h;refine V (CF 7 rM Z Z Z Z) (V (CF 8 rM Z Z Z Z) (V (Bc Z Z Z Z Z Z Z rU) (V (Bc Z Z Z Z Z Z Z rU) (AC (AD (qg 42 41 Z Z Z Z Z Z Z Z Z λhdj=>?_))))));have R:=hWl.l (N:=N2);have W:=Jz.r hdj hWg;refine cS (ds:=[Zt bl]) 7 7 41 hF Z Z Z Z Z Z Z Z Z Z Z (λ_=>rfl) λb7 L=>?_;have Q:=R.put (o:= .cells 124 [Zt bl]) L;have U:=W.put (o:= .cells 124 [Zt bl]) L;refine cS (ds:=[Zt bg]) 8 8 41 hF Z Z Z Z Z Z Z Z Z Z Z (λ_=>rfl) λb8 s=>?_;have O:=Q.put (o:= .cells 124 [Zt bg]) s;have S:=U.put (o:= .cells 124 [Zt bg]) s;have hq7:=Fj (Bf (jl N1 N2) b7 (.cells 124 [Zt bl])) b8 (.cells 124 [Zt bg]);refine AF (J (Ar Z Z CG Z Z Z) (J (W0 (ds:=[]) (es:=[pD b7 0,pD b8 0]) Z Z Z Z Z) ?_));refine Cy (Zi (Rx p v B y4 [pD b7 0,pD b8 0] _ (vG (gg p) (Bp p)) (qO (by rw[Gt (λe=>by rw[<-e,Fj] at s;cases s)];exact Fj _ _ _) hq7 O S)) Z [41,40] ⟨Z,Z,trivial⟩ Z Z Z Z (λr z ⟨E,M,i,h,_⟩=>by subst i h;exact ⟨Z,Z,Z⟩) Z) Z ?_;rintro _ ⟨r,z,⟨E,M,i,h,hR,u⟩,rfl⟩;subst i h;refine AB Z Z (AC (AD ?_));have X:E.map Prod.fst=(kF p).map Prod.fst:=by rw[u,hO,iH]
 have K:=b9 (rs:=jf p) (E:=E) (E':=kF p) X;have hn30:E.length<=30:=by have C:(E.map Prod.fst).length<=(fl p.it).length:=(by rw[u,hO];exact lB _ _);rw[χ,O2] at C;omega
 have haf:∀e∈E,e.1.af.length<=100000:=λe he=>by have C:e.1∈E.map Prod.fst:=mo he;rw[u,hO] at C;have:=(B.x _ ((KI p.it).mem_iff.1 (Φ.1 C).1)).2.2;omega
 have f:GT (lJ (jf p) E):=uO (by omega)
 obtain ⟨g,t⟩:∃g,lJ (jf p) E=g:=⟨_,Z⟩
 have hgl2:g.length=E.length:=by rw[<-t,F3]
 have G:=pH E hR (by omega) haf;rw[t] at f G;refine AF (cl Z Z (V (F8 G Z [40] ⟨Z,trivial⟩ Z Z Z Z Z Z Z Z Z) ?_));refine Cy (Zi (T4 g f) Z [10] ⟨Z,trivial⟩ Z Z Z Z (λr z ⟨i,h⟩=>by subst i h;exact ⟨Z,Z,Z⟩) Z) Z ?_;rintro _ ⟨r,z,⟨i,h⟩,rfl⟩;subst i h;refine cl Z Z (J (D6 Z Z Z) (J (D6 Z Z Z) (AB Z Z (AB Z Z (AC ?_)))));refine AD (AD (AF (cl Z Z (J (DP Z Z Z) (AC (Cr Z (kD (by decide)) (AU (AD ?_))))))));have hcl:lv g=(kG g).length:=WB.symm;have hca:∀c∈kG g,c.length<=100000:=λc hc=>by have:=(Z2 f hc).1;omega
 have hcn30:(kG g).length<=30:=by rw[WB];have:=qF f;omega
 rw[hcl]
 obtain ⟨D,hjk⟩:∃D,(List.replicate ((kG g).length-(k9 (kG g)).length) none).map eO=D:=⟨_,Z⟩
 have H:=(u2 (kG g) (by omega) hca).fnArgA;rw[hjk] at H;have j:∀x∈k9 (kG g),0<x.length/\x.getD 0 0<=100000:=λx A=>by have C:=LT.1 A;have h2:=(Z2 f C.1).2;have h3:=wr (by omega) h2;exact ⟨by omega,by omega⟩
 refine AF (cl Z Z (V (F8 H Z [10] ⟨Z,trivial⟩ Z Z Z Z Z Z Z Z Z) (AB Z Z (AC (AD (AF ?_))))));refine cl Z Z (V (dQ tj func84 Z Z (λ_=>rfl) (λa b=>kL a-kL b) qP (k9 (kG g)) (jg g) D (by have:=gD (kG g);omega) (λx A y hy=>qN x y (j x A).1 (j y hy).1 (j x A).2 (j y hy).2) (λys g1 g2=>WJ f ys g1 g2) Z Z Z My Z Z Z Z Z) (AC (AD (AF (AB Z Z (AC (AD (AD ?_))))))));have I:(k9 (kG g)).length=(jg g).length:=(ij f).symm;rw[I];have hc30:(jg g).length<=30:=by have:=WI g;omega
 refine AF (cl Z Z (J (QT Z R4 Z) (cl Z Z (AC (AX (IY 11 11 Kw Z Z Z Z (BC (α:=Nat×List (List Int)) (λq=>⟨64,[(9,(.d (.sl none (E.map D1)))),(11,(.own 11 0 q.2.length)),(50,(.own 10 0 (jg g).length)),(51,(.d (AE ((jg g).length:Int)))),(52,(.d (AE (q.1:Int))))],[(11,[.rowD 28 1 (q.2.map FW)]),(10,[.rowD 28 1 ((jg g).map j0++D)])]⟩) (λq=>q.1<=(jg g).length/\q.2=((jg g).take q.1).map (An E)) (λq=>(jg g).length-q.1) ((0,[])) (⟨κ _,Z⟩) (AR hF [11,10] Z Z ⟨Z,Z,Z,Z,Z,trivial⟩) ?_)))))));rintro ⟨k,T⟩ ⟨hk,Y⟩;dsimp only at hk Y⊢;refine AD (AF (J (At Z Z Z) (AC (AD (A4 Z (λw=>?_) (λw=>?_))))))
 .refine AU (AD (AX (AD ?_)));have l:k<(jg g).length:=BG w;obtain ⟨hx2,hxl,hxm⟩:=Z7 (ϑ l);have hTl:T.length<=30:=by rw[Y,χ,θ];omega
  refine AF (J (DO (k) Z Z (Z) (l) Z R4 D8 Z) (J (ED Z Z ((show ((jg g).map j0++D)[k]? =some (j0 (jg g)[k]) from by rw[nU (by rw[χ];exact l)];exact AP l)) Z BJ Z) ?_));refine AB Z Z (AC (AF (cl Z Z (cl Z Z (cl Z Z ?_)))));refine J (Ak (wk E (jg g)[k] (λx A=>by have:=hxm x A;omega) (by omega)) Z Z) (V (CB 30 Kw Z Z Z Z Z Z Z Z) (V (DQ (T) ([An E (jg g)[k]]) Z Z Z Z Z Z Z Z Kw (by simp only[η];omega) Z Z Z Z) (AB Z Z (AC (AF (J (Ac Z Z (AJ (k+1) (by omega)) Z) (cl Z Z (AC ?_))))))));exact ⟨(k+1,T++ [An E (jg g)[k]]),⟨l,by show _=((jg g).take (k+1)).map _;rw[ψ l,kA,Y];rfl⟩,by show (jg g).length-(k+1)<(jg g).length-k;omega,AR hF [11,10] Z (Z) ⟨Z,Z,Z,Z,Z,trivial⟩⟩
 .refine Aq (AD ?_);have hke:k=(jg g).length:=by have:=w;omega
  refine Fi (emb:=FW) 11 11 T Z Z Z Z Z Z Z ?_;rw[show T=lF (jf p) (kF p) by rw[Y,hke,kW,<-t];unfold lF;rw[K.1,K.2.1]];refine AF (cl Z Z (AB Z Z (AB Z Z (AC (A5 ?_)))));exact ⟨_,[],[],A2 Z,Z,Z,Z,Z⟩
abbrev PB(p:iB):List D:=[.sl none (p.ro.map BT),.sl none (p.it.map Ah)]
theorem jE(s:M o=some (.cells 39 (PB a)))(l:M k=some (.cells 32 c))(A:c.length=5)(i:M j=some (.cells 33 [AE u]))(w:j≠k)(y:h.one=true)(z:AI prog 39 [.d (BM a)] (.tup [h,AE t])):
  AO prog 41 [.d (pD o 0),.d (pD k 0),.d (pD j 0)] [(41,[.multi M])] λr B=>r= .tup []/\B=[(41,[.multi (Bf (Bf M k (.cells 32 (c.set 0 h))) j (.cells 33 [AE t]))])]:=by
 refine Av func41 Z Z ntmps41 Z Z Z λF C=>(AF ?_);refine J (Dh (f:=41) (n:=2) Z Z s CG Z Z (λb g=>by rcases ju.1 g with rfl | g;rfl;rcases ju.1 g with rfl | g;rfl;cases g) Z) (J (Ak (z) Z Z) (cl Z Z (J (DI Z Z Z) (J (DI Z Z Z) (J (Cs Z lR Z Z Z) (V (Qh (f:=41) (off:=0) Z Z y Z l (by omega) Z D8) (V (Qh (f:=41) (off:=0) Z Z Z Z (by rw[Gt w];exact i) (by simp) Z dB) (AC ?_))))))));exact ⟨_,[41],_,A2 Z,Z,Z,Z,Z⟩
theorem uk(s:M o=some (.cells 39 (PB a)))(l:M k=some (.cells 32 c))(A:c.length=5)(i:M j=some (.cells 33 [AE u]))(w:j≠k)(y:h.one=true)(z:AI prog 43 [.d (BM a)] (.tup [h,AE t])):
  AO prog 42 [.d (pD o 0),.d (pD k 0),.d (pD j 0)] [(41,[.multi M])] λr B=>r= .tup []/\B=[(41,[.multi (Bf (Bf M k (.cells 32 (c.set 1 h))) j (.cells 33 [AE t]))])]:=by
 refine Av func42 Z Z ntmps42 Z Z Z λF C=>(AF ?_);refine J (Dh (f:=41) (n:=2) Z Z s CG Z Z (λb g=>by rcases ju.1 g with rfl | g;rfl;rcases ju.1 g with rfl | g;rfl;cases g) Z) (J (Ak (z) Z Z) (cl Z Z (J (DI Z Z Z) (J (DI Z Z Z) (J (Cs Z lu Z Z Z) (V (Qh (f:=41) (off:=1) Z Z y Z l (by omega) Z D8) (V (Qh (f:=41) (off:=0) Z Z Z Z (by rw[Gt w];exact i) (by simp) Z dB) (AC ?_))))))));exact ⟨_,[41],_,A2 Z,Z,Z,Z,Z⟩
theorem uj{z:D}(w:M o=some (.cells 39 (PB a)))(g:M k=some (.cells 32 c))(C:c.length=5)(l:c[0]? =some z)(s:M j=some (.cells 33 [AE u]))(y:j≠k)(A:h.one=true)(B:AI prog 23 [.d (BM a),.d z] (.tup [h,AE t])):
  AO prog 44 [.d (pD o 0),.d (pD k 0),.d (pD j 0)] [(41,[.multi M])] λr E=>r= .tup []/\E=[(41,[.multi (Bf (Bf M k (.cells 32 (c.set 2 h))) j (.cells 33 [AE t]))])]:=by
 refine Av func44 Z Z ntmps44 Z Z Z λF G=>(AF (J (Dh (f:=41) (n:=2) Z Z w CG Z Z (λb i=>by rcases ju.1 i with rfl | i;rfl;rcases ju.1 i with rfl | i;rfl;cases i) Z) (J (Cs Z lR Z Z Z) ?_)));refine J (Eh (f:=41) Z Z g l BJ Z) (J (Ak (B) Z Z) (cl Z Z (J (DI Z Z Z) (J (DI Z Z Z) (J (Cs Z TL Z Z Z) (V (Qh (f:=41) (off:=2) Z Z A Z g (by omega) Z ve) (V (Qh (f:=41) (off:=0) Z Z Z Z (by rw[Gt y];exact s) (by simp) Z dB) (AC ?_))))))));exact ⟨_,[41],_,A2 Z,Z,Z,Z,Z⟩
theorem ui(s:M o=some (.cells 39 (PB a)))(l:M k=some (.cells 32 c))(A:c.length=5)(i:M j=some (.cells 33 [AE u]))(w:j≠k)(y:h.one=true)(z:AI prog 30 [.d (BM a)] (.tup [h,AE t])):
  AO prog 45 [.d (pD o 0),.d (pD k 0),.d (pD j 0)] [(41,[.multi M])] λr B=>r= .tup []/\B=[(41,[.multi (Bf (Bf M k (.cells 32 (c.set 3 h))) j (.cells 33 [AE t]))])]:=by
 refine Av func45 Z Z ntmps45 Z Z Z λF C=>(AF ?_);refine J (Dh (f:=41) (n:=2) Z Z s CG Z Z (λb g=>by rcases ju.1 g with rfl | g;rfl;rcases ju.1 g with rfl | g;rfl;cases g) Z) (J (Ak (z) Z Z) (cl Z Z (J (DI Z Z Z) (J (DI Z Z Z) (J (Cs Z lr Z Z Z) (V (Qh (f:=41) (off:=3) Z Z y Z l (by omega) Z ve) (V (Qh (f:=41) (off:=0) Z Z Z Z (by rw[Gt w];exact i) (by simp) Z dB) (AC ?_))))))));exact ⟨_,[41],_,A2 Z,Z,Z,Z,Z⟩
theorem uh(s:M o=some (.cells 39 (PB a)))(l:M k=some (.cells 32 c))(A:c.length=5)(i:M j=some (.cells 33 [AE u]))(w:j≠k)(y:h.one=true)(z:AI prog 31 [.d (BM a)] (.tup [h,AE t])):
  AO prog 46 [.d (pD o 0),.d (pD k 0),.d (pD j 0)] [(41,[.multi M])] λr B=>r= .tup []/\B=[(41,[.multi (Bf (Bf M k (.cells 32 (c.set 4 h))) j (.cells 33 [AE t]))])]:=by
 refine Av func46 Z Z ntmps46 Z Z Z λF C=>(AF ?_);refine J (Dh (f:=41) (n:=2) Z Z s CG Z Z (λb g=>by rcases ju.1 g with rfl | g;rfl;rcases ju.1 g with rfl | g;rfl;cases g) Z) (J (Ak (z) Z Z) (cl Z Z (J (DI Z Z Z) (J (DI Z Z Z) (J (Cs Z kt Z Z Z) (V (Qh (f:=41) (off:=4) Z Z y Z l (by omega) Z x2) (V (Qh (f:=41) (off:=0) Z Z Z Z (by rw[Gt w];exact i) (by simp) Z dB) (AC ?_))))))));exact ⟨_,[41],_,A2 Z,Z,Z,Z,Z⟩
abbrev Cj:D:= .sl (some true) []
def um:List FuncId:=[41,42,44,45,46]
def y1(b1 b4 b5:Nat)(g:FuncId):D:= .fn g [] [pD b1 0,pD b4 0,pD b5 0]
noncomputable def mT(p:iB):List D:=[FW (gg p),FW (Bp p),XZ (jx (jf p) (DM p (gg p))),XZ (lF (jf p) (kF p)),.sl none ((kp p).map cP)]
noncomputable def mU(p:iB)(k:Nat):List D:=(mT p).take k++List.replicate (5-k) Cj
theorem yL(i:CY a)(h:Ad a=0)(v:A<um.length)(f:M o=some (.cells 39 (PB a)))(c:M k=some (.cells 32 (mU a A)))(b:M j=some (.cells 33 [AE 0]))(g:j≠k):
  AO prog um[A] [.d (pD o 0),.d (pD k 0),.d (pD j 0)] [(41,[.multi M])] λr w=>r= .tup []/\w=[(41,[.multi (Bf (Bf M k (.cells 32 (mU a (A+1)))) j (.cells 33 [AE 0]))])]:=by
 have s:∀x∈gg a,x∈a.it.map dr.id:=λx t=>Rj h t;have l:=G3 h;have u:=Ec h;have y:=i.i
 match A,v with
 | 0,_=>exact jE f c Z b g Z (K4 a i h)
 | 1,_=>exact uk f c Z b g Z (V3 a i h)
 | 2,_=>exact uj f c Z Z b g Z (u7 a (gg a) i (by omega) (Tb h l s) h l)
 | 3,_=>exact ui f c Z b g Z (bm a i h)
 | 4,_=>exact uh f c Z b g Z (bu a i h)
theorem Th(p:iB)(C:CY p)(B:Ad p≠0):AI prog 12 [.d (BM p)] (.tup [.agg [Cj,Cj,Cj,Cj,Cj],AE (Ad p)]):=by
 refine Av func12 Z Z ntmps12 Z Z Z λF u=>(AD (AF ?_));refine V (Ba 1 Z Z Z Z Z Z Z) (V (CF 2 Tv Z Z Z Z) (AB Z Z (AC (AD (AF (V (CF 4 Tv Z Z Z Z) (AC (AD ?_))))))));refine AF (V (CF 5 vO Z Z Z Z) (AC (AD (AD (II 41 Z Z Z (cS (ds:=PB p) 1 1 41 u Z Z Z Z Z Z Z Z Z Z Z (λ_=>rfl) λg D=>(cS (ds:=[Cj,Cj,Cj,Cj,Cj]) 4 4 41 u Z Z Z Z Z Z Z Z Z Z Z (λ_=>rfl) λb l=>(cS (ds:=[AE 0]) 5 5 41 u Z Z Z Z Z Z Z Z Z Z Z (λ_=>rfl) λa c=>?_))))))));have t:b≠g:=λe=>by rw[e,Fj] at l;cases l
 have s:a≠b:=λe=>by rw[e,Fj] at c;cases c
 have x:a≠g:=λe=>by rw[e,Gt (Ne.symm t),Fj] at c;cases c
 refine AF (J (W0 (ds:=[]) (es:=[pD g 0,pD b 0,pD a 0]) Z Z Z Z Z) (J (W0 (ds:=[]) (es:=[pD g 0,pD b 0,pD a 0]) Z Z Z Z Z) ?_));refine J (W0 (ds:=[]) (es:=[pD g 0,pD b 0,pD a 0]) Z Z Z Z Z) (J (W0 (ds:=[]) (es:=[pD g 0,pD b 0,pD a 0]) Z Z Z Z Z) (J (W0 (ds:=[]) (es:=[pD g 0,pD b 0,pD a 0]) Z Z Z Z Z) (V (CB 20 vn Z Z Z Z Z Z Z Z) (J (QT Z underlying94 Z) (cl Z Z (AC (AX (BC (α:=Nat×MF) (λq=>⟨27,[(2,(.ptr 2 0 0)),(4,(.d (pD b 0))),(5,(.d (pD a 0))),(13,(.own 20 0 5)),(14,(.d (AE 5))),(15,(.d (AE (q.1:Int))))],[(20,[.rowD 1 1 (um.map (y1 g b a))]),(2,[.blk 32 [.d Cj,.d Cj,.d Cj,.d Cj,.d Cj]]),(41,[.multi q.2])]⟩) (λq=>q.1=0/\q.2 g=some (.cells 39 (PB p))/\q.2 b=some (.cells 32 [Cj,Cj,Cj,Cj,Cj])/\q.2 a=some (.cells 33 [AE 0])) (λq=>5-q.1) ((0,_)) (⟨Z,by show Bf _ _ _ _=_;rw[Gt (Ne.symm x),Gt (Ne.symm t)];exact Fj _ _ _,by show Bf _ _ _ _=_;rw[Gt (Ne.symm s)];exact Fj _ _ _,Fj _ _ _⟩) (AR u [20,2,41] Z Z ⟨Z,Z,Z,Z,Z,Z,trivial⟩) ?_))))))));rintro ⟨k,M⟩ ⟨A,j,i,h⟩;dsimp only at A j i h⊢;subst A;refine AD ?_;refine AF (J (At Z Z Z) (AC (AD (CM Z (Z) (AU (AD (AX (AD ?_))))))));have v:0<um.length:=by decide
 have o:Bf (Bf M b (.cells 32 ([Cj,Cj,Cj,Cj,Cj].set 0 Cj))) a (.cells 33 [AE (Ad p)]) a=some (.cells 33 [AE (Ad p)]):=Fj _ _ _;have w:AO prog um[0] _ _ _:=jE j i Z h s Z (VN p C B);refine AF (J (DO (0) Z Z (Z) (by decide) Z underlying94 yT Z) (J (ED Z Z (AP v) Z yU Z) (AB Z Z (AC (AD (AF (cl Z Z ?_)))))));refine Cy (Qx w Z [41] ⟨Z,trivial⟩ Z Z Z Z (λr E ⟨z,y⟩=>by subst z y;exact ⟨Z,Z,Z⟩) Z) Z ?_;rintro _ ⟨r,E,⟨z,y⟩,rfl⟩;subst z y;refine AC (AD (AF (J (Eh (f:=41) Z Z o Z tP Z) (J (DP Z Z Z) (AC (CM Z (Υ B) (AD ?_)))))));refine Bm [[],[],[0],[0,1,2]] mixed Z (BY (AK [] Z (Dx Tv xq Z Z Z) (A1 [5] [41] Z Z (λ_=>A9 (Eh (f:=41) Z Z o Z tP Z)) (Cq [2,23] [2] [] Z Z (λ_=>Cd (Bc Z Z Z Z Z Z Z dC)) (.inl ⟨Z,Z⟩) Z Z Z Z Z (BR 3 Z Z Z (AZ 4 Z Z (AB Z Z (AC ⟨Z,?_⟩))))))));refine Bb (A5 ?_);exact ⟨_,[],_,A2 Z,Z,Z,Z,Z⟩
theorem QH(p:iB)(I:CY p)(N:Ad p=0):AI prog 12 [.d (BM p)] (.tup [.agg (mT p),AE 0]):=by
 refine Av func12 Z Z ntmps12 Z Z Z λF y=>(AD (AF ?_));refine V (Ba 1 Z Z Z Z Z Z Z) (V (CF 2 Tv Z Z Z Z) (AB Z Z (AC (AD (AF (V (CF 4 Tv Z Z Z Z) (AC (AD ?_))))))));refine AF (V (CF 5 vO Z Z Z Z) (AC (AD (AD (II 41 Z Z Z (cS (ds:=PB p) 1 1 41 y Z Z Z Z Z Z Z Z Z Z Z (λ_=>rfl) λg L=>(cS (ds:=[Cj,Cj,Cj,Cj,Cj]) 4 4 41 y Z Z Z Z Z Z Z Z Z Z Z (λ_=>rfl) λb w=>(cS (ds:=[AE 0]) 5 5 41 y Z Z Z Z Z Z Z Z Z Z Z (λ_=>rfl) λa h=>?_))))))));have o:b≠g:=λe=>by rw[e,Fj] at w;cases w
 have l:a≠b:=λe=>by rw[e,Fj] at h;cases h
 have z:a≠g:=λe=>by rw[e,Gt (Ne.symm o),Fj] at h;cases h
 refine AF (J (W0 (ds:=[]) (es:=[pD g 0,pD b 0,pD a 0]) Z Z Z Z Z) (J (W0 (ds:=[]) (es:=[pD g 0,pD b 0,pD a 0]) Z Z Z Z Z) ?_));refine J (W0 (ds:=[]) (es:=[pD g 0,pD b 0,pD a 0]) Z Z Z Z Z) (J (W0 (ds:=[]) (es:=[pD g 0,pD b 0,pD a 0]) Z Z Z Z Z) (J (W0 (ds:=[]) (es:=[pD g 0,pD b 0,pD a 0]) Z Z Z Z Z) (V (CB 20 vn Z Z Z Z Z Z Z Z) (J (QT Z underlying94 Z) (cl Z Z (AC (AX (BC (α:=Nat×MF) (λq=>⟨27,[(2,(.ptr 2 0 0)),(4,(.d (pD b 0))),(5,(.d (pD a 0))),(13,(.own 20 0 5)),(14,(.d (AE 5))),(15,(.d (AE (q.1:Int))))],[(20,[.rowD 1 1 (um.map (y1 g b a))]),(2,[.blk 32 [.d Cj,.d Cj,.d Cj,.d Cj,.d Cj]]),(41,[.multi q.2])]⟩) (λq=>q.1<=5/\q.2 g=some (.cells 39 (PB p))/\q.2 b=some (.cells 32 (mU p q.1))/\q.2 a=some (.cells 33 [AE 0])) (λq=>5-q.1) ((0,_)) (⟨κ _,by show Bf _ _ _ _=_;rw[Gt (Ne.symm z),Gt (Ne.symm o)];exact Fj _ _ _,by show Bf _ _ _ _=_;rw[Gt (Ne.symm l)];exact Fj _ _ _,Fj _ _ _⟩) (AR y [20,2,41] Z Z ⟨Z,Z,Z,Z,Z,Z,trivial⟩) ?_))))))));rintro ⟨k,M⟩ ⟨H,j,i,v⟩;dsimp only at H j i v⊢;refine AD (AF (J (At Z Z Z) (AC (AD (A4 Z (λs=>?_) (λs=>?_))))))
 .refine AU (AD (AX (AD ?_)));have t:k<5:=BG s;have u:k<um.length:=t;have C:Bf (Bf M b (.cells 32 (mU p (k+1)))) a (.cells 33 [AE 0]) g=some (.cells 39 (PB p)):=by rw[Gt (Ne.symm z),Gt (Ne.symm o)];exact j
  have B:Bf (Bf M b (.cells 32 (mU p (k+1)))) a (.cells 33 [AE 0]) b=some (.cells 32 (mU p (k+1))):=by rw[Gt (Ne.symm l)];exact Fj _ _ _
  have x:Bf (Bf M b (.cells 32 (mU p (k+1)))) a (.cells 33 [AE 0]) a=some (.cells 33 [AE 0]):=Fj _ _ _;refine AF (J (DO (k) Z Z (Z) (t) Z underlying94 yT Z) (J (ED Z Z (AP u) Z yU Z) (AB Z Z (AC (AD (AF (cl Z Z ?_)))))));refine Cy (Qx (yL I N u j i v l) Z [41] ⟨Z,trivial⟩ Z Z Z Z (λr O ⟨G,E⟩=>by subst G E;exact ⟨Z,Z,Z⟩) Z) Z ?_;rintro _ ⟨r,O,⟨G,E⟩,rfl⟩;subst G E;refine AC (AD (AF ?_));refine J (Eh (f:=41) Z Z x Z tP Z) (J (DP Z Z Z) (AC (Cr Z (kD (by decide)) (AU (AF (J (Ac Z Z (AJ (k+1) (by omega)) Z) (cl Z Z (AC ?_))))))));exact ⟨(k+1,_),⟨by show k+1<=5;omega,C,B,x⟩,by show 5-(k+1)<5-k;omega,AR y [20,2,41] Z (Z) ⟨Z,Z,Z,Z,Z,Z,trivial⟩⟩
 .refine Aq (AD ?_);have A:k=5:=by have:=s;omega
  subst A;refine AF (J (Dh (f:=41) (n:=5) Z Z i xc Z Z (λc K=>by have D:c∈mT p:=K;unfold mT at D;simp only[ju,List.not_mem_nil,or_false] at D;rcases D with rfl | rfl | rfl | rfl | rfl<;>rfl) Z) (V (Bc Z Z Z Z Z Z Z dC) (AB Z Z (AC (A5 ?_)))));exact ⟨_,[],_,A2 Z,Z,Z,Z,Z⟩
theorem WC{C:Nat->Nat->Prop}(b:0<y)(h:∀i j,i<y->j<y->C i j):mY y C=[List.range y]:=by
 unfold mY
 have o:((List.range y).filter λk=>dec (∀j,j<k->¬C k j))=[0]:=by
  obtain ⟨m,rfl⟩:∃m,y=m+1:=⟨y-1,by omega⟩
  rw[List.range_succ_eq_map,lg,ϱ (SA λj a=>absurd a (nI j)),List.filter_map]
  have l:(List.range m).filter ((λk=>dec (∀j,j<k->¬C k j))∘Nat.succ)=[]:=List.filter_eq_nil_iff.2 λk f=>by
   have c:=Ω.1 f;show ¬dec (∀j,j<k+1->¬C (k+1) j)=true;rw[G7];exact λg=>g 0 (Nat.succ_pos k) (h _ _ (by omega) (by omega))
  rw[l];rfl
 rw[o,List.map_singleton,rE.2 λj a=>SA (h 0 j b (Ω.1 a))]
theorem im(g:List (List Nat)):jg g=k9 (mY g.length (Jt g)):=rfl
theorem Sz:s∈gs (lJ f E) i↔i<E.length/\s<E.length/\YA f (D4 E i) (D4 E s):=by grind[lJ,mA,DL,gs]
theorem U2{f:Nat->List Nat}{nx:Nat->Nat}(h:∀i,i<y->nx i∈f i){P:Nat->Nat}(w:∀i,i<y->P i<y)(o:∀m,m<y->nx (P m)=P ((m+1) % y))(c:∀i,i<y->∃m,m<y/\P m=i):∀i j,i<y->j<y->Rh f i j:=by
 have step:∀d m,m<y->Rh f (P m) (P ((m+d) % y)):=λd m r=>by
  induction d with
  | zero=>rw[li,Nat.mod_eq_of_lt r];exact .refl _
  | succ d l=>
   have g:=Nat.mod_lt (m+d) (by omega:y>0);have k:=h _ (w _ g);rw[o _ g,Nat.mod_add_mod] at k;exact .step l k
 intro i j t s;obtain ⟨a,v,rfl⟩:=c i t;obtain ⟨b,u,rfl⟩:=c j s;have:=step (b+y-a) a v
 rwa [show a+(b+y-a)=b+y by omega,Nat.add_mod_right,Nat.mod_eq_of_lt u] at this
def gS:List dr:=[Q1 1 [65] [66] 5,Q1 2 [66] [67] 5,Q1 3 [67] [65] 5,Q1 4 [65] [68] 4]
def kK:iB:=⟨Se,gS⟩
theorem X3:Ad kK=0:=by decide
theorem yB:CY kK:=⟨by decide,by decide,by decide⟩
theorem we:j8 kK=Se:=(eB X3 (List.Perm.refl _) (by decide)).symm
theorem gO:hY kK=gS:=by decide
theorem ox:gg kK=[1,2,3]:=by
 unfold gg JD;rw[we,gO];exact lG (by kernel_rfl)
theorem wg:Bp kK=[]:=by
 unfold Bp;rw[we,gO];exact lG (by kernel_rfl)
def eK:List (dr×Nat):=[(Q1 1 [65] [66] 5,0),(Q1 2 [66] [67] 5,0),(Q1 3 [67] [65] 5,0)]
theorem wd:DM kK [1,2,3]=eK:=by
 unfold DM;rw[<-show hY kK=fl kK.it from ϱ X3,gO]
 rfl
theorem wc:kF kK=eK:=by
 unfold kF;rw[<-show hY kK=fl kK.it from ϱ X3,gO,ox,wg]
 rfl
theorem wa:∀r∈jf kK,Bs r=0:=by decide
theorem tk(b:i<3)(a:s<3)(h:decide (∃r∈jf kK,BN (D4 eK i) r<0/\0<BN (D4 eK s) r)=true):YA (jf kK) (D4 eK i) (D4 eK s):=by grind[cb,wa,BN]
theorem s9{a b:dr}(h:YA f a b):Km f a b:=by grind[Ja,YA,Km]
def xS:Nat->Nat
 | 0=>2
 | 1=>0
 | _=>1
theorem ZI(i:Nat)(a:i<3):xS i<3/\YA (jf kK) (D4 eK i) (D4 eK (xS i)):=by
 match i,a with
 | 0,_=>exact ⟨by decide,tk (by decide) (by decide) (by decide)⟩
 | 1,_=>exact ⟨by decide,tk (by decide) (by decide) (by decide)⟩
 | 2,_=>exact ⟨by decide,tk (by decide) (by decide) (by decide)⟩
def oK:Nat->Nat
 | 0=>0
 | 1=>2
 | _=>1
theorem tp:lF (jf kK) eK=[[1,2,3]]:=by
 have h:∀i j,i<3->j<3->Rh (gs (lJ (jf kK) eK)) i j:=U2 (nx:=xS) (P:=oK) (λi a=>Sz.2 ⟨a,(ZI i a).1,(ZI i a).2⟩) (by decide) (by decide) (by decide);unfold lF;rw[im,F3,show eK.length=3 from rfl,WC (by decide) λi j a b=>⟨h i j a b,h j i b a⟩]
 decide
theorem tm:jx (jf kK) eK=[[1,2,3]]:=by
 have h:∀i j,i<3->j<3->Rh (ta (jf kK) eK) i j:=U2 (nx:=xS) (P:=oK) (λi a=>Eo.2 ⟨a,(ZI i a).1,s9 (ZI i a).2⟩) (by decide) (by decide) (by decide);unfold jx;rw[show eK.length=3 from rfl,WC (C:=Cn (jf kK) eK) (by decide) h]
 decide
theorem gN:hJ kK=Se.map (B8 kK):=(ZD X3 (List.Perm.refl _) (by decide)).symm
theorem gM(i:Int)(h:(hG kK i).af=[]):kb kK i=(Se.map (B8 kK)).flatMap (CJ i):=by grind[kb,gN,U4,aP]
theorem tn:jz kK [4]=[1,4]:=by
 have a:kb kK 4=[⟨4,1,oO 65⟩]:=by rw[gM 4 (by decide)];exact lG (by kernel_rfl)
 have g:kb kK 1=[]:=by rw[gM 1 (by decide)];exact lG (by kernel_rfl)
 rw[<-Z4 (C:=[4,1]) X3 (by decide) (by decide) λx=>?_]
 .exact (Ol (List.Perm.swap _ _ _) (by decide)).symm
 .constructor
  .intro h;rcases ju.1 h with rfl | h
   .exact .base (by decide)
   .rw[ξ.1 h];exact Wc.step (b:=⟨4,1,oO 65⟩) (i:=4) (.base (by decide)) (by rw[a];exact ξ.2 Z)
  .intro h
   induction h with
   | base h=>rw[ξ.1 h];decide
   | step _ f c=>
    grind
theorem yA:kE kK 4=[⟨oO 65,9⟩]:=by
 unfold kE Jq;rw[tn,gN];exact lG (by kernel_rfl)
theorem tq:kp kK=[(4,⟨oO 65,9⟩)]:=by
 unfold kp;rw[<-show hY kK=fl kK.it from ϱ X3,gO];have b:∀id∈([1,2,3]:List Int),kY kK id=none:=λid h=>Lx (by rw[ox];exact h)
 have a:kY kK 4=some (4,⟨oO 65,9⟩):=by
  unfold kY;rw[ox,yA,υ (by decide)];rfl
 show ([1,2,3,4]:List Int).filterMap (kY kK)=_
 simp_all
theorem tl:mT kK=[FW [1,2,3],FW [],XZ [[1,2,3]],XZ [[1,2,3]],.sl none (([(4,⟨oO 65,9⟩)]:List (Int×gf)).map cP)]:=by
 unfold mT;rw[ox,wg,wd,wc,tm,tp,tq]
theorem P8(l m:List Int)(u:l.length<=100000)(t:m.length<=100000):AI prog 17 [.d (.sl none (l.map AE)),.d (.sl none (m.map AE))] (Aj (decide (l=m))):=by
 refine Av func17 Z Z ntmps17 Z Z Z λF r=>(AD (AF (AB Z Z (AC (AD ?_)))));refine AD (AF (cl Z Z (J (BW Z E0 Z) (cl Z Z (J (BW Z E0 Z) (J (DP Z Z Z) (AC (A4 Z (λc=>?_) (λc=>?_)))))))))
 .refine AD (AF (AB Z Z (AC (A5 ?_))));exact ⟨_,[],[],A2 Z,Z,Z,Hf (λh=>by have i:=jr List.length h;have h:=c;omega),Z⟩
 .refine AU (AD (AD ?_));have j:l.length=m.length:=by have h:=c;omega
  refine AF (AB Z Z (AC (AX (BC (α:=Nat) (λk=>⟨26,[(0,.d (.sl none (l.map AE))),(1,.d (.sl none (m.map AE))),(5,(.d (AE (k:Int))))],[]⟩) (λk=>k<=l.length/\l.take k=m.take k) (λk=>l.length-k) (0) (⟨κ _,by simp⟩) (AR r [] Z Z ⟨Z,Z,Z,trivial⟩) ?_))));rintro k ⟨s,o⟩;refine AD (AD (AF (cl Z Z (cl Z Z (J (BW Z E0 Z) (J (At Z Z Z) (AC (A4 Z (λa=>?_) (λa=>?_)))))))))
  .have g:k<l.length:=BG a;refine AU (AD (AX (AD ?_)));have f:k<m.length:=by omega
   refine Bm [[],[],[0,1],[0,1,2],[],[],[4,5],[4,5,6],rg 8] mixed Z (BY (A7 0 Z Z (A7 5 Z Z (AK [17,18] Z (Al (k) Z Z (Z) (AP g) E0 Z BE Z) ?_))));refine AK [19] Z (BZ Z Z Ag Z) (A7 1 Z Z (A7 5 Z Z (AK [21,22] Z (Al (k) Z Z (Z) (AP f) E0 Z BE Z) (AK [23] Z (BZ Z Z Ag Z) (BR 8 Z Z Z (AZ 9 Z Z (J (DP Z Z Z) (AC ⟨Z,?_⟩))))))));refine Bb (A4 Z (λb=>?_) (λb=>?_))
   .refine AD (AF (AB Z Z (AC (A5 ?_))));exact ⟨_,[],[],A2 Z,Z,Z,Hf (λh=>by subst h;exact b Z),Z⟩
   .refine AU (AF (cl Z Z (J (Ac Z Z (AJ (k+1) (by omega)) Z) (AB Z Z (AC ?_)))));exact ⟨k+1,⟨by show k+1<=_;omega,by rw[ψ g,ψ f,o,Classical.not_not.1 b]⟩,by show l.length-(k+1)<l.length-k;omega,AR r [] Z (Z) ⟨Z,Z,Z,trivial⟩⟩
  .refine Aq (AD (AF (AB Z Z (AC (A5 ?_)))));exact ⟨_,[],[],A2 Z,Z,Z,Sf (by have i:=o;rw[ζ (by have h:=a;omega),ζ (by have h:=a;omega)] at i;exact i),Z⟩
theorem Mk(l m:List (List Int))(w:l.length<=100000)(v:m.length<=100000)(j:∀x∈l,x.length<=100000)(i:∀x∈m,x.length<=100000):AI prog 18 [.d (XZ l),.d (XZ m)] (Aj (decide (l=m))):=by
 refine Av func18 Z Z ntmps18 Z Z Z λF t=>(AD (AF (AB Z Z (AC (AD ?_)))));refine AD (AF (cl Z Z (J (BW Z R4 Z) (cl Z Z (J (BW Z R4 Z) (J (DP Z Z Z) (AC (A4 Z (λg=>?_) (λg=>?_)))))))))
 .refine AD (AF (AB Z Z (AC (A5 ?_))));exact ⟨_,[],[],A2 Z,Z,Z,Hf (λh=>by have o:=jr List.length h;have h:=g;omega),Z⟩
 .refine AU (AD (AD ?_));have r:l.length=m.length:=by have h:=g;omega
  refine AF (AB Z Z (AC (AX (BC (α:=Nat) (λk=>⟨27,[(0,.d (XZ l)),(1,.d (XZ m)),(5,(.d (AE (k:Int))))],[]⟩) (λk=>k<=l.length/\l.take k=m.take k) (λk=>l.length-k) (0) (⟨κ _,by simp⟩) (AR t [] Z Z ⟨Z,Z,Z,trivial⟩) ?_))));rintro k ⟨u,s⟩;refine AD (AD (AF (cl Z Z (cl Z Z (J (BW Z R4 Z) (J (At Z Z Z) (AC (A4 Z (λa=>?_) (λa=>?_)))))))))
  .have c:k<l.length:=BG a;refine AU (AD (AX (AD ?_)));have b:k<m.length:=by omega
   refine Bm [[],[],[0,1],[0,1,2],[],[],[4,5],[4,5,6],rg 8,rg 9] mixed Z (BY (A7 0 Z Z (A7 5 Z Z (AK [17,18] Z (Al (k) Z Z (Z) (AP c) R4 Z D8 Z) ?_))));refine AK [19] Z (BZ Z Z BJ Z) (A7 1 Z Z (A7 5 Z Z (AK [21,22] Z (Al (k) Z Z (Z) (AP b) R4 Z D8 Z) (AK [23] Z (BZ Z Z BJ Z) (BR 8 Z Z Z (AZ 9 Z Z (J (Ak (P8 l[k] m[k] (j _ (ϑ c)) (i _ (ϑ b))) Z Z) (AC ⟨Z,?_⟩))))))));refine AZ 10 Z Z (J (JQ Z Z) (AC ⟨Z,?_⟩));refine Bb (A4 Z (λf=>?_) (λf=>?_))
   .refine AD (AF (AB Z Z (AC (A5 ?_))));exact ⟨_,[],[],A2 Z,Z,Z,Hf (λh=>by subst h;exact f Z),Z⟩
   .refine AU (AF (cl Z Z (J (Ac Z Z (AJ (k+1) (by omega)) Z) (AB Z Z (AC ?_)))));exact ⟨k+1,⟨by show k+1<=_;omega,by rw[ψ c,ψ b,s,Classical.not_not.1 f]⟩,by show l.length-(k+1)<l.length-k;omega,AR t [] Z (Z) ⟨Z,Z,Z,trivial⟩⟩
  .refine Aq (AD (AF (AB Z Z (AC (A5 ?_)))));exact ⟨_,[],[],A2 Z,Z,Z,Sf (by have o:=s;rw[ζ (by have h:=a;omega),ζ (by have h:=a;omega)] at o;exact o),Z⟩
theorem ny(l:List (Int×gf))(g:l.length<=100000):AI prog 21 [.d (.sl none (l.map cP)),.d (.sl none (l.map cP))] (Aj true):=by
 refine Av func21 Z Z ntmps21 Z Z Z λF c=>(AD (AF (AB Z Z (AC ?_))));refine AD (AD (AF (cl Z Z (J (BW Z cC Z) (cl Z Z (J (BW Z underlying48 Z) (J (DP Z Z Z) (AC ?_))))))));refine Cr Z ((by simp)) (AU (AD (AD (AF (AB Z Z (AC (AX (BC (α:=Nat) (λk=>⟨55,[(0,.d (.sl none (l.map cP))),(1,.d (.sl none (l.map cP))),(5,(.d (AE (k:Int))))],[]⟩) (λk=>k<=l.length) (λk=>l.length-k) (0) (κ _) (AR c [] Z Z ⟨Z,Z,Z,trivial⟩) ?_))))))));rintro k f;refine AD (AD (AF (cl Z Z (cl Z Z (J (BW Z cC Z) (J (At Z Z Z) (AC (A4 Z (λb=>?_) (λb=>?_)))))))))
 .have a:k<l.length:=BG b;refine AU (AD ?_);refine AX (AD (Bm [[],[],[0,1],[0,1,2],[0,1,2,3],[],[],[5,6],[5,6,7],[5,6,7,8],rg 10,rg 11,rg 12,rg 12,rg 14,rg 15,rg 16,rg 17,rg 12,rg 12,[0,1,2,3,4,5,6,7,8,9,10,11,18,19],[0,1,2,3,4,5,6,7,8,9,10,11,18,19,20],[0,1,2,3,4,5,6,7,8,9,10,11,18,19,20,21],rg 23,rg 24,rg 25,rg 26,rg 26,rg 28,rg 29,rg 30,rg 26,rg 26,[0,1,2,3,4,5,6,7,8,9,10,11,12,13,14,15,16,17,18,19,20,21,22,23,24,25,31,32],[0,1,2,3,4,5,6,7,8,9,10,11,12,13,14,15,16,17,18,19,20,21,22,23,24,25,31,32,33],[0,1,2,3,4,5,6,7,8,9,10,11,12,13,14,15,16,17,18,19,20,21,22,23,24,25,31,32,33,34],rg 36,rg 37] mixed Z (BY (A7 0 Z Z (A7 5 Z Z (AK [17,18] Z (Al (k) Z Z (Z) (AP a) cC Z cz Z) (AK [19] Z (IJ Z gw Z Z Z) (AK [20] Z (BZ Z Z Ag Z) ?_))))))));refine A7 1 Z Z (A7 5 Z Z (AK [22,23] Z (Al (k) Z Z (Z) (AP a) underlying48 Z dF Z) (AK [24] Z (IJ Z p0 Z Z Z) (AK [25] Z (BZ Z Z Ag Z) (BR 10 Z Z Z (AZ 11 Z Z (J (DP Z Z Z) (AC ⟨Z,?_⟩))))))));refine AZ 12 Z Z (cl Z Z (Il 28 Z (by simp) (AC ⟨Z,?_⟩)));refine BY (A1 [0,28] [] Z Z (λ_=>BO Z Z Z (FF Z Z)) (A1 [5,28] [] Z Z (λ_=>BO Z Z Z (FF Z Z)) (A1 [29,30,28] [] Z Z (λ_=>BO Z Z Z (Al (k) Z Z (Z) (AP a) cC Z cz Z)) (A1 [31,28] [] Z Z (λ_=>BO Z Z Z (Jy Z uT Z Z Z)) (A1 [32,28] [] Z Z (λ_=>BO Z Z Z (CT Z Z Cw Z)) (A1 [33,28] [] Z Z (λ_=>BO Z Z Z (Ak (cA l[k].2.r) Z Z)) (A1 [1,28] [] Z Z (λ_=>BO Z Z Z (FF Z Z)) ?_)))))));refine A1 [5,28] [] Z Z (λ_=>BO Z Z Z (FF Z Z)) (A1 [35,36,28] [] Z Z (λ_=>BO Z Z Z (Al (k) Z Z (Z) (AP a) underlying48 Z dF Z)) (A1 [37,28] [] Z Z (λ_=>BO Z Z Z (Jy Z pZ Z Z Z)) (A1 [38,28] [] Z Z (λ_=>BO Z Z Z (CT Z Z C4 Z)) (BR 23 Z Z Z (AZ 24 Z Z (AT Z Z Z (J (dT (la:=LB l[k].2.r) (lb:=LB l[k].2.r) (ds:=aX) (by kernel_rfl) (by kernel_rfl) (by kernel_rfl) Z Z Z Z (qo _) (qo _) (y9 (LA _ _)) Z) (AC ⟨Z,?_⟩))))))));refine AZ 25 Z Z (J (Br Z Z Z Z) (AC ⟨Z,?_⟩));refine AZ 26 Z Z (cl Z Z (Il 42 Z (by simp) (AC ⟨Z,?_⟩)));refine BY (A1 [0,42] [] Z Z (λ_=>BO Z Z Z (FF Z Z)) (A1 [5,42] [] Z Z (λ_=>BO Z Z Z (FF Z Z)) (A1 [43,44,42] [] Z Z (λ_=>BO Z Z Z (Al (k) Z Z (Z) (AP a) cC Z cz Z)) (A1 [45,42] [] Z Z (λ_=>BO Z Z Z (IJ Z gv Z Z Z)) (A1 [46,42] [] Z Z (λ_=>BO Z Z Z (BZ Z Z FK Z)) (A1 [1,42] [] Z Z (λ_=>BO Z Z Z (FF Z Z)) ?_))))));refine A1 [5,42] [] Z Z (λ_=>BO Z Z Z (FF Z Z)) (A1 [48,49,42] [] Z Z (λ_=>BO Z Z Z (Al (k) Z Z (Z) (AP a) underlying48 Z dF Z)) (A1 [50,42] [] Z Z (λ_=>BO Z Z Z (IJ Z pY Z Z Z)) (A1 [51,42] [] Z Z (λ_=>BO Z Z Z (BZ Z Z FK Z)) (BR 36 Z Z Z (AZ 37 Z Z (AT Z Z Z (J (DP Z Z Z) (AC ⟨Z,?_⟩))))))));refine AZ 38 Z Z (J (Br Z Z Z Z) (AC ⟨Z,?_⟩));refine Bb (Cr Z (by simp) (AU (AF (cl Z Z (J (Ac Z Z (AJ (k+1) (by omega)) Z) (AB Z Z (AC ?_)))))));exact ⟨k+1,(by show k+1<=_;omega),by show l.length-(k+1)<l.length-k;omega,AR c [] Z (Z) ⟨Z,Z,Z,trivial⟩⟩
 .refine Aq (AD (AF (AB Z Z (AC (A5 ?_)))));exact ⟨_,[],[],A2 Z,Z,Z,Z,Z⟩
theorem ez(id n:Int)(a b:List UInt8)(g:0<=n)(f:n<=1000000000000000):AI prog 40 [.d (AE id),.d (Am a),.d (Am b),.d (AE n)] (.agg [AE id,AE 0,AE id,.sl none ((Q1 id a b n).po.map B9),.sl (some true) [],.sl (some true) []]):=by
 refine Av func40 Z Z ntmps40 Z Z Z λF c=>(AD (AF (V (CF 1 Fk Z Z Z Z) (AC (AD ?_)))));refine AF (cl Z Z (cl Z Z (cl Z Z (J (Dx cY et Z Z Z) (cl Z Z (J (Wp Z (Ξ _ (by omega)) Z) (J (Dx Qk eu Z Z Z) (cl Z Z ?_))))))));refine J (Dx cY et Z Z Z) (cl Z Z (J (Dx Qk eu Z Z Z) (V (CB 4 aR Z Z Z Z Z Z Z Z) (WY (emb:=B9) 20 4 (Q1 id a b n).po Z Z Z Z Z Z Z (J (Dx Fk tL Z Z Z) (V (Bc Z Z Z Z Z Z Z DT) (AC (A5 ?_))))))));exact ⟨_,[],[],A2 Z,Z,Z,Z,Z⟩
theorem OG(id n:Int)(a b:List UInt8)(l:0<=n)(k:n<=1000000000000000):AI prog 40 [.d (AE id),.d (Am a),.d (Am b),.d (AE n)] (Ah (Q1 id a b n)):=
 (ez id n a b l k).weak λw O v h=>h.aggMono Z (by simp[D.one]) λi c o g f v j=>by
  match i,g,f with
  | 0,g,f=>injection g with g;injection f with f;subst g f;exact j
  | 1,g,f=>injection g with g;injection f with f;subst g f;exact j
  | 2,g,f=>injection g with g;injection f with f;subst g f;exact j
  | 3,g,f=>injection g with g;injection f with f;subst g f;exact j
  | 4,g,f=>injection g with g;injection f with f;subst g f;exact j.anyNil
  | 5,g,f=>injection g with g;injection f with f;subst g f;exact j.anyNil
theorem bQ:AI prog 10 [] (.raw (.bool true)):=by
 have j:=QH kK yB X3;rw[tl] at j;refine Av func10 Z Z ntmps10 Z Z Z λF s=>(AD ?_);refine AF (AB Z Z (AC (AD (AF (V (CF 1 s7 Z Z Z Z) (AC (AD (AD ?_))))))));refine AF (V (CB 2 x9 Z Z Z Z Z Z Z Z) (WY (emb:=Am) 7 2 w2 Z Z Z Z Z Z Z (J (BW Z underlying86 Z) (cl Z Z (AC (AX (D3 1 0 0 901 S9 Z Z Z Z Z Z Z (BC (α:=Nat×List gf) (λq=>⟨86,[(1,(.ptr 1 0 0)),(7,(.d (.sl none (w2.map Am)))),(8,(.d (AE 3))),(9,(.d (AE (q.1:Int))))],[(901,[.rowD 88 7 (q.2.map BT)]),(1,[.blk 39 [.own 901 0 q.2.length,.d Cj]])]⟩) (λq=>q.1<=3/\q.2=Se.take q.1) (λq=>3-q.1) ((0,[])) (⟨by decide,Z⟩) (AR s [901,1] Z Z ⟨Z,Z,Z,Z,trivial⟩) ?_))))))));rintro ⟨k,l⟩ ⟨r,a⟩;dsimp only at r a⊢;refine AD (AF (J (At Z Z Z) (AC (AD (A4 Z (λc=>?_) (λc=>?_))))))
 .have i:k<w2.length:=by have h:=BG (b:=3) c;exact h
  refine AU (AD (AX (AD ?_)));have g:l++ [⟨⟨0,WU w2[k],[],[]⟩,0⟩]=Se.take (k+1):=by subst a;match k,i with | 0,_=>rfl | 1,_=>rfl | 2,_=>rfl
  have t:l.length<=3:=by rw[a];simp[Se];omega
  refine AF (J (Al (k) Z Z (Z) (AP i) underlying86 Z y6 Z) (J (BZ Z Z CZ Z) ?_));refine AB Z Z (AC (AF (J (AL Z Gm Z Z Z) (J (AQ Z Z Z Uo Z) (cl Z Z (J (Dx cY et Z Z Z) (J (Dx MI Ue Z Z Z) (J (Dx Tu tK Z Z Z) ?_))))))));refine V (CB 50 S9 Z Z Z Z Z Z Z Z) (V (DQ (l) ([⟨⟨0,WU w2[k],[],[]⟩,0⟩]) Z Z Z Z Z Z Z Z S9 (by simp only[η];omega) Z Z Z Z) (J (AL Z Gm Z Z Z) (V (Bc Z Z Z Z Z Z Z vd) (AC (AF (J (Ac Z Z (AJ (k+1) (by omega)) Z) (cl Z Z (AC ?_))))))));exact ⟨(k+1,_),⟨by show k+1<=3;omega,g⟩,by show 3-(k+1)<3-k;omega,AR s [901,1] Z (Z) ⟨Z,Z,Z,Z,trivial⟩⟩
 .refine Aq (AD ?_);have o:k=3:=by have h:=c;omega
  subst o;have f:l=Se:=a;subst f;refine qk (ys:=Se.map BT) 1 0 0 901 Z Z Z (by decide) Z Z Z Z Z Z Z (AF (J (Ak (OG 1 5 [65] [66] (by decide) (by decide)) Z Z) (J (Ak (OG 2 5 [66] [67] (by decide) (by decide)) Z Z) (J (Ak (OG 3 5 [67] [65] (by decide) (by decide)) Z Z) (J (Ak (OG 4 4 [65] [68] (by decide) (by decide)) Z Z) (V (CB 52 QZ Z Z Z Z Z Z Z Z) (WY (emb:=Ah) 27 52 gS Z Z Z Z Z Z Z ?_)))))));refine J (AL Z FO Z Z Z) (V (Bc Z Z Z Z Z Z Z sp) (AC (AD (AF (J (Ar Z Z CG Z Z Z) (J (Ak (j) Z Z) (cl Z Z (J (DI Z Z Z) ?_))))))));refine J (DI Z Z Z) (V (CF 4 Tv Z Z Z Z) (V (Bc Z Z Z Z Z Z Z dC) (AB Z Z (AC (AD (AF (V (CB 54 Ap Z Z Z Z Z Z Z Z) (WY (emb:=AE) 34 54 [1,2,3] Z Z Z Z Z Z Z ?_))))))));refine V (CB 55 Kw Z Z Z Z Z Z Z Z) (WY (emb:=FW) 35 55 [[1,2,3]] Z Z Z Z Z Z Z (AB Z Z (AC (AD (Bm [[],[0],[0,1],[0,1,2],[0,1,2,3],[0,1,2],[0,1,2,5],[0,1,2,5,6],rg 8,rg 9,rg 10,rg 11,rg 12,rg 13,rg 14,rg 15,rg 16,rg 17,rg 18,rg 17,rg 20,rg 21,rg 22,rg 23,rg 24,rg 23,rg 26,rg 27,rg 28,rg 29,rg 30,rg 31,rg 32,rg 33,rg 34,rg 35,rg 36,rg 37,rg 38,rg 39,rg 40,rg 41,rg 42,rg 43,rg 44,rg 45,rg 46,rg 47,rg 48,rg 49,rg 50] mixed Z (AZ 1 Z Z (cl Z Z (AC ⟨Z,?_⟩))))))));refine AZ 2 Z Z (J (GW Z Z Z) (AC ⟨Z,?_⟩));refine AZ 3 Z Z (cl Z Z (DK 38 Z (Z) (AC ⟨Z,?_⟩)));refine BY (A1 [4,38] [] Z Z (λ_=>BO Z Z Z (AL Z lR Z Z Z)) ?_);refine Ay [39,38] Z Z (λ_=>BO Z Z Z (AQ Z Z Z BJ Z)) (A1 [6,38] [] Z Z (λ_=>BO Z Z Z (FF Z Z)) (A1 [41,38] [] Z Z (λ_=>BO Z Z Z (Al (0) Z Z (Z) (Z) R4 Z D8 Z)) (A1 [42,38] [] Z Z (λ_=>BO Z Z Z (BZ Z Z BJ Z)) (BR 8 Z Z Z (AZ 9 Z Z (AT Z Z Z (J (Ak (P8 [1,2,3] [1,2,3] (by decide) (by decide)) Z Z) (AC ⟨Z,?_⟩))))))));refine AZ 10 Z Z (J (B4 Z Z Z Z) (AC ⟨Z,?_⟩));refine AZ 11 Z Z (cl Z Z (DK 46 Z (Z) (AC ⟨Z,?_⟩)));refine AZ 12 Z Z (AT Z Z Z (J (AL Z lu Z Z Z) (AC ⟨Z,?_⟩)));refine AZ 13 Z Z (AT Z Z Z (J (AQ Z Z Z BJ Z) (AC ⟨Z,?_⟩)));refine AZ 14 Z Z (AT Z Z Z (J (BW Z E0 Z) (AC ⟨Z,?_⟩)));refine AZ 15 Z Z (AT Z Z Z (J (GW Z Z Z) (AC ⟨Z,?_⟩)));refine AZ 16 Z Z (J (B4 Z Z Z Z) (AC ⟨Z,?_⟩));refine AZ 17 Z Z (cl Z Z (DK 52 Z (Z) (AC ⟨Z,?_⟩)));refine BY (A1 [4,52] [] Z Z (λ_=>BO Z Z Z (AL Z TL Z Z Z)) (Ay [53,52] Z Z (λ_=>BO Z Z Z (AQ Z Z Z ar Z)) (A1 [6,52] [] Z Z (λ_=>BO Z Z Z (FF Z Z)) (BR 20 Z Z Z (AZ 21 Z Z (AT Z Z Z (J (Ak (Mk [[1,2,3]] [[1,2,3]] (by decide) (by decide) (by decide) (by decide)) Z Z) (AC ⟨Z,?_⟩))))))));refine AZ 22 Z Z (J (B4 Z Z Z Z) (AC ⟨Z,?_⟩));refine AZ 23 Z Z (cl Z Z (DK 58 Z (Z) (AC ⟨Z,?_⟩)));refine BY (A1 [4,58] [] Z Z (λ_=>BO Z Z Z (AL Z lr Z Z Z)) (Ay [59,58] Z Z (λ_=>BO Z Z Z (AQ Z Z Z ar Z)) (A1 [6,58] [] Z Z (λ_=>BO Z Z Z (FF Z Z)) (BR 26 Z Z Z (AZ 27 Z Z (AT Z Z Z (J (Ak (Mk [[1,2,3]] [[1,2,3]] (by decide) (by decide) (by decide) (by decide)) Z Z) (AC ⟨Z,?_⟩))))))));refine AZ 28 Z Z (J (B4 Z Z Z Z) (AC ⟨Z,?_⟩));refine AZ 29 Z Z (cl Z Z (DK 64 Z (Z) (AC ⟨Z,?_⟩)));refine AZ 30 Z Z (AT Z Z Z (J (AL Z kt Z Z Z) (AC ⟨Z,?_⟩)));refine AZ 31 Z Z (AT Z Z Z (J (AQ Z Z Z fJ Z) (AC ⟨Z,?_⟩)));refine AZ 32 Z Z (AT Z Z Z (J (BW Z cC Z) (AC ⟨Z,?_⟩)));refine AZ 33 Z Z (AT Z Z Z (J (GW Z Z Z) (AC ⟨Z,?_⟩)));refine AZ 34 Z Z (J (B4 Z Z Z Z) (AC ⟨Z,?_⟩));refine AZ 35 Z Z (cl Z Z (DK 70 Z (Z) (AC ⟨Z,?_⟩)));refine AZ 36 Z Z (AT Z Z Z (J (AL Z kt Z Z Z) (AC ⟨Z,?_⟩)));refine AZ 37 Z Z (AT Z Z Z (J (AQ Z Z Z fJ Z) (AC ⟨Z,?_⟩)));refine AZ 38 Z Z (AT Z Z Z (J (Al (0) Z Z (Z) (Z) cC Z cz Z) (AC ⟨Z,?_⟩)));refine AZ 39 Z Z (AT Z Z Z (J (IJ Z gw Z Z Z) (AC ⟨Z,?_⟩)));refine AZ 40 Z Z (AT Z Z Z (J (BZ Z Z Ag Z) (AC ⟨Z,?_⟩)));refine AZ 41 Z Z (AT Z Z Z (J (GW Z Z Z) (AC ⟨Z,?_⟩)));refine AZ 42 Z Z (J (B4 Z Z Z Z) (AC ⟨Z,?_⟩));refine AZ 43 Z Z (cl Z Z (DK 78 Z (Z) (AC ⟨Z,?_⟩)));refine AZ 44 Z Z (AT Z Z Z (J (AL Z kt Z Z Z) (AC ⟨Z,?_⟩)));refine AZ 45 Z Z (AT Z Z Z (J (AQ Z Z Z fJ Z) (AC ⟨Z,?_⟩)));refine AZ 46 Z Z (AT Z Z Z (J (Al (0) Z Z (Z) (Z) cC Z cz Z) (AC ⟨Z,?_⟩)));refine AZ 47 Z Z (AT Z Z Z (J (IJ Z gv Z Z Z) (AC ⟨Z,?_⟩)));refine AZ 48 Z Z (AT Z Z Z (J (BZ Z Z FK Z) (AC ⟨Z,?_⟩)));refine AZ 49 Z Z (AT Z Z Z (J (GW Z Z Z) (AC ⟨Z,?_⟩)));refine AZ 50 Z Z (J (B4 Z Z Z Z) (AC ⟨Z,?_⟩));refine AZ 51 Z Z (AB Z Z (AC ⟨Z,?_⟩));refine Bb (A5 ?_);exact ⟨_,[],[],A2 Z,Z,Z,Z,Z⟩
end Go.Proofs.YteifpcnphnhaoaaGreat
namespace Go.Proofs.YteifpcnphnhaoaaGreat
open Go.RowKit
variable{R:Int->Int->Prop}{s:mx}{a:iB}{c:List (List Int)}{f:List gf}{S:List Int}{x:Nat}{g:List Int}{k:Nat}{Y:List gf}{h i:List Int}{j:Nat}{y o:Int}
theorem iv(p:iB):jc p (Ca [])=[]:=by grind[jc,List.flatMap_eq_nil_iff,FQ,Ca]
theorem cc(c:Ad a=0):Jq a (Aw [])=[]:=by
 unfold Jq;rw[List.flatMap_eq_nil_iff];intro x b;have h:=gB c x b;unfold KL;rw[υ (by show ¬x.n+DR a x.r []<0;have:DR a x.r []=0:=rfl;omega)]
theorem O8{M:List (Int×Bool)}:Jq a M=[]↔∀x∈hJ a,0<=x.n+DR a x.r M:=by grind[Jq,List.flatMap_eq_nil_iff,KL]
theorem Wc.mono{T:List Int}(h:∀o∈S,o∈T)(b:Wc a S o):Wc a T o:=by
 induction b with
 | base b=>exact .base (h _ b)
 | step _ f c=>exact .step c f
theorem VE(b:Ad a=0)(c:∀o∈S,o∈a.it.map dr.id):o∈jz a S↔Wc a S o:=by
 unfold jz;rw[(jR _).mem_iff,Φ];exact ⟨λh=>by simpa using h.2,λh=>⟨h.ids b c,by simpa using h⟩⟩
theorem un{C:List Int}(h:∀i∈C,∀b∈kb a i,b.m∈C):jc a (Ca C)=[]:=by
 cases hb:jc a (Ca C) with
 | nil=>rfl
 | cons b r=>
  grind[QD,Ca,k8]
theorem ii(c:Ad a=0)(f:∀x∈S,x∈a.it.map dr.id):jc a (Ca (jz a S))=[]:=
 un λi g b h=>(VE c f).2 (.step ((VE c f).1 g) h)
structure rB (R:Int->Int->Prop) (l Y:List gf):Prop where
 len:Y.length=l.length
 at_:∀(j:Nat) x y,l[j]? =some x->Y[j]? =some y->y.r=x.r/\ -4*Mx<=y.n/\y.n<=4*Mx/\R x.n y.n
theorem rB.start(h:∀o∈f,-4*Mx<=o.n/\o.n<=4*Mx/\R o.n o.n):rB R f f:=
 ⟨Z,λj x y b a=>by
  rw[b] at a;injection a with a;subst a
  have:=h x (ϖ b)
  exact ⟨Z,this⟩⟩
theorem rB.set(h:rB R f Y)(c:k<Y.length){n:Int}(g: -4*Mx<=n/\n<=4*Mx)(i:∀x,R x Y[k].n->R x n):rB R f (Y.set k ⟨Y[k].r,n⟩):=
 ⟨by rw[kq];exact h.len,λj x y b a=>by
  rw[nF] at a
  split at a
  .rename_i e;subst e
   first | (rw[ϱ c] at a;injection a with a;subst a) | (injection a with a;subst a)
   have:=h.at_ k x _ b (ω c);exact ⟨this.1,g.1,g.2,i _ this.2.2.2⟩
  .exact h.at_ j x y b a⟩
theorem rB.map(h:rB R f Y):Y.map gf.r=f.map gf.r:=by
 refine ld (by rw[χ,χ,h.len]) λj b a=>?_;rw[χ] at b a;rw[kR,kR];exact (h.at_ j _ _ (ω a) (ω b)).1
theorem rB.mem(h:rB R f Y):∀y∈Y,∃x∈f,y.r=x.r/\ -4*Mx<=y.n/\y.n<=4*Mx/\R x.n y.n:=λy c=>by
 obtain ⟨j,b,rfl⟩:=mE.1 c;have a:j<f.length:=by rw[<-h.len];exact b
 exact ⟨f[j],ϑ a,h.at_ j _ _ (ω a) (ω b)⟩
def o7(x:Nat)(P:List Nat):Nat:=P.foldl (λa i=>a ||| 1<<<i) x
theorem qX(i j:Nat):(1<<<i).testBit j=decide (i=j):=by rw[Nat.one_shiftLeft,Nat.testBit_two_pow]
theorem OH:∀(P:List Nat) (x j:Nat),(o7 x P).testBit j=true↔x.testBit j=true\/j∈P
 | [],x,j=>by simp[o7]
 | i::P,x,j=>by
  show (o7 (x ||| 1<<<i) P).testBit j=true↔_;rw[OH P,Nat.testBit_or,qX,Bool.or_eq_true,lh,ju]
  constructor
  .rintro ((h | h) | h)
   .exact .inl h
   .exact .inr (.inl h.symm)
   .exact .inr (.inr h)
  .rintro (h | h | h)
   .exact .inl (.inl h)
   .exact .inl (.inr h.symm)
   .exact .inr h
theorem bF:y∈jw s x↔∃i,i<s.ids.length/\x.testBit i=true/\s.ids.getD i 0=y:=by grind[jw]
theorem Sp(b:s.ids.Nodup)(a:y∈s.ids):y∈jw s x↔x.testBit (s.ids.idxOf y)=true:=by grind[bF]
def Hm:List Int->List Int->Bool
 | a::l,b::m=>if a=b then Hm l m else decide (a<b)
 | _,_=>false
def Cz(a b:List Int):Bool:=if a.length≠b.length then decide (a.length<b.length) else Hm a b
theorem P1:∀a b:List Int,Hm a b=true->Hm b a=false
 | a::l,b::m,h=>by
  unfold Hm at h⊢
  split at h
  .rename_i e;subst e;rw[ϱ rfl];exact P1 l m h
  .rename_i e
   rw[υ (λh=>e h.symm)];have:=lG h;exact kD (by omega)
 | [],_,h=>by cases h
 | _::_,[],h=>by cases h
theorem PZ:∀a b c:List Int,Hm a b=true->Hm b c=true->Hm a c=true
 | a::l,b::m,c::r,g,f=>by
  unfold Hm at g f⊢
  split at g
  .rename_i e;subst e
   split at f
   .rename_i e;rw[ϱ e];exact PZ l m r g f
   .rename_i e;rw[υ e];exact f
  .rename_i e
   have k:=lG g
   split at f
   .rename_i i;subst i
    rw[υ e];exact g
   .have j:=lG f;rw[υ (by omega)];exact Υ (by omega)
 | [],_,_,h,_=>by cases h
 | _::_,[],_,h,_=>by cases h
 | _::_,_::_,[],_,h=>by cases h
theorem P0:∀a b:List Int,a.length=b.length->a≠b->Hm a b=false->Hm b a=true
 | a::l,b::m,c,f,h=>by
  unfold Hm at h⊢
  split at h
  .rename_i e;subst e
   rw[ϱ rfl];exact P0 l m (by simpa using c) (λh=>f (by rw[h])) h
  .rename_i e
   have:=of_decide_eq_false h;rw[υ (λh=>e h.symm)];exact Υ (by omega)
 | [],[],_,f,_=>absurd Z f
 | [],_::_,c,_,_=>by simp at c
 | _::_,[],c,_,_=>by simp at c
theorem VK(c:Cz h i=true):¬Cz i h=true:=by grind[Cz,P1]
theorem VI{c:List Int}(g:Cz h i=true)(f:Cz i c=true):Cz h c=true:=by grind[Cz,PZ]
theorem VJ(f:h≠i)(c:¬Cz h i=true):Cz i h=true:=by grind[Cz,P0]
theorem XI{c:Type}{R:c->c->Prop}(g:∀a b,R a b->¬R b a){l m:List c}(k:l.Pairwise R)(j:m.Pairwise R)(h:∀x,x∈l↔x∈m):l=m:=by
 have i:∀{l:List c},l.Pairwise R->l.Nodup:=λh=>h.imp λ{a b} f e=>by subst e;exact g _ _ f f
 grind[List.Perm.eq_of_pairwise,rD]
def IV(n:Nat):Nat->Nat->List (List Nat)
 | 0,_=> [[]]
 | l+1,frm=>((List.range (n+1-(l+1)-frm)).map (frm+ ·)).flatMap λi=>(IV n l (i+1)).map (i:: ·)
theorem HT(n:Nat):∀(l a x:Nat),lS n l a x=(IV n l a).map (o7 x)
 | 0,_,_=>rfl
 | l+1,a,x=>by
  unfold lS IV;rw[List.map_flatMap]
  congr 1
  funext i
  rw[HT n l (i+1),jy]
  rfl
theorem Uc{n:Nat}:∀{l a:Nat} {P:List Nat},P∈IV n l a->P.length=l
 | 0,_,P,h=>by simp[IV] at h;subst h;rfl
 | l+1,a,P,h=>by
  unfold IV at h;obtain ⟨i,_,h⟩:=mO.1 h;obtain ⟨Q,b,rfl⟩:=Γ.1 h;rw[mN,Uc b]
theorem OE{n:Nat}:∀{l a:Nat} {P:List Nat},P∈IV n l a->P.Pairwise (· < ·)/\∀j∈P,a<=j/\j<n
 | 0,_,P,h=>by simp[IV] at h;subst h;simp
 | l+1,a,P,h=>by
  unfold IV at h;obtain ⟨i,o,h⟩:=mO.1 h;obtain ⟨k,g,rfl⟩:=Γ.1 o;have f:=Ω.1 g;obtain ⟨Q,r,rfl⟩:=Γ.1 h;obtain ⟨s,c⟩:=OE r;refine ⟨mC.2 ⟨λj b=>by have:=(c j b).1;omega,s⟩,λj b=>?_⟩;rcases ju.1 b with rfl | b
  .exact ⟨by omega,by omega⟩
  .have:=c j b;omega
theorem Sx{n:Nat}:∀{P:List Nat} {frm:Nat},frm<=n->P.Pairwise (· < ·)->(∀j∈P,frm<=j/\j<n)->P.length<=n-frm
 | [],_,_,_,_=>κ _
 | i::P,frm,g,b,h=>by
  have k:=h i k8;obtain ⟨f,c⟩:=mC.1 b
  have:=Sx (P:=P) (frm:=i+1) (by omega) c λj a=>⟨f j a,(h j (kx _ a)).2⟩
  rw[mN];omega
theorem Ud{n:Nat}:∀{P:List Nat} {frm:Nat},P.Pairwise (· < ·)->(∀j∈P,frm<=j/\j<n)->P∈IV n P.length frm
 | [],_,_,_=>by simp[IV]
 | i::P,frm,f,h=>by
  have l:=h i k8;obtain ⟨g,c⟩:=mC.1 f
  have b:∀j∈P,i+1<=j/\j<n:=λj a=>⟨g j a,(h j (kx _ a)).2⟩
  have k:=Sx (P:=P) (frm:=i+1) (by omega) c b;show i::P∈IV n (P.length+1) frm;unfold IV;refine mO.2 ⟨i,Γ.2 ⟨i-frm,Ω.2 (by omega),by omega⟩,Γ.2 ⟨P,Ud c b,Z⟩⟩
theorem bI(a:Int)(l m:List Int):Hm (a::l) (a::m)=Hm l m:=by grind[Hm]
theorem Ub{n:Nat}{g:Nat->Int}(k:∀i j,i<j->j<n->g i<g j):∀l c,((IV n l c).map λP=>P.map g).Pairwise λa b=>Hm a b=true
 | 0,_=>by simp[IV]
 | l+1,c=>by
  unfold IV;rw[List.map_flatMap,List.pairwise_flatMap]
  constructor
  .intro i _;rw[jy];have f:=Ub k l (i+1);rw[lA] at f⊢;refine f.imp λ{P Q} h=>?_;show Hm (g i::P.map g) (g i::Q.map g)=true;rw[bI];exact h
  .rw[lA];refine rH (λ{a b} z t u x r y o=>?_) (List.pairwise_lt_range);obtain ⟨_,w,rfl⟩:=Γ.1 r;obtain ⟨_,v,rfl⟩:=Γ.1 o;obtain ⟨P,_,rfl⟩:=Γ.1 w;obtain ⟨Q,_,rfl⟩:=Γ.1 v;have s:=Ω.1 t;have:=k (c+a) (c+b) (by omega) (by omega);show (if g (c+a)=g (c+b) then _ else decide (g (c+a)<g (c+b)))=true;rw[υ (by omega)];exact Υ this
theorem Rf{P:List Nat}(b:P.Pairwise (· < ·))(a:∀j∈P,j<s.ids.length):jw s (o7 0 P)=P.map λi=>s.ids.getD i 0:=by
 unfold jw
 congr 1
 grind[XI,lp,List.pairwise_lt_range,OH]
def jJ(s:mx):List (List Int):=(jI s).map (jw s)
theorem cH(u:s.ids.Pairwise (· < ·)):(jJ s).Pairwise λa b=>Cz a b=true:=by
 unfold jJ jI;rw[List.map_flatMap,List.pairwise_flatMap]
 have o:∀k,∀L∈((lS s.ids.length k 0 0).filter (ly s)).map (jw s),L.length=k:=λk L D=>by
  grind[HT,OE,Rf,Uc]
 constructor
 .intro k _
  have C:=Ub (n:=s.ids.length) (g:=λi=>s.ids.getD i 0) (λi j f c=>by
   show s.ids.getD i 0<s.ids.getD j 0;rw[EC 0 c,EC 0 (Nat.lt_trans f c)]
   exact lc.1 u i j _ c f) k 0
  have B:((lS s.ids.length k 0 0).map (jw s)).Pairwise λa b=>Hm a b=true:=by
   rw[HT,jy]
   have e:(IV s.ids.length k 0).map (jw s∘o7 0)=(IV s.ids.length k 0).map λP=>P.map λi=>s.ids.getD i 0:=kT λP z=>by
    have h:=OE z;exact Rf h.1 λj c=>(h.2 j c).2
   rw[e];exact C
  have A:(((lS s.ids.length k 0 0).filter (ly s)).map (jw s)).Pairwise λa b=>Hm a b=true:=List.Pairwise.sublist (List.filter_sublist.map _) B;refine rH (λ{a b} w v l=>?_) A;unfold Cz;rw[υ (by rw[o k a w,o k b v];exact λh=>h Z)];exact l
 .refine rH (λ{a b} _ _ l x t y r=>?_) (List.pairwise_lt_range);have F:=o a x t;have E:=o b y r;unfold Cz;rw[ϱ (by omega)];exact Υ (by omega)
theorem fu(y:Nat):y∈jI s↔(∃P:List Nat,P.Pairwise (· < ·)/\(∀j∈P,j<s.ids.length)/\o7 0 P=y)/\ly s y=true:=by
 unfold jI;rw[mO]
 constructor
 .grind[HT,OE]
 .rintro ⟨⟨P,c,b,e⟩,f⟩
  have h:=Ud (n:=s.ids.length) (frm:=0) c λj a=>⟨κ _,b j a⟩
  have g:=Sx (n:=s.ids.length) (P:=P) (frm:=0) (κ _) c λj a=>⟨κ _,b j a⟩
  refine ⟨P.length,Ω.2 (by omega),Φ.2 ⟨?_,f⟩⟩;rw[HT]
  grind
def PE(n x:Nat):List Nat:=(List.range n).filter λi=>x.testBit i
theorem PD(n x:Nat):(PE n x).Pairwise (· < ·):=List.Pairwise.sublist lp List.pairwise_lt_range
theorem ed{a:Nat}(h:a∈PE j x):a<j:=Ω.1 (Φ.1 h).1
theorem Mb(b:x<2^j):o7 0 (PE j x)=x:=by
 refine Nat.eq_of_testBit_eq λa=>?_
 grind[PE,OH,Nat.testBit_lt_two_pow,ln,Nat.pow_le_pow_right]
theorem tN{P:List Nat}(h:∀a∈P,a<j):o7 0 P<2^j:=by
 refine Nat.lt_pow_two_of_testBit _ λa b=>?_
 grind[OH]
theorem bG(y:Nat):y∈jI s↔y<2^s.ids.length/\ly s y=true:=by
 rw[fu]
 constructor
 .rintro ⟨⟨P,_,a,rfl⟩,c⟩;exact ⟨tN a,c⟩
 .rintro ⟨f,a⟩;exact ⟨⟨PE s.ids.length y,PD _ _,λj b=>ed b,Mb f⟩,a⟩
theorem fv(L:List Int):L∈jJ s↔∃y,y<2^s.ids.length/\ly s y=true/\L=jw s y:=by grind[jJ,bG]
theorem gT(s:k<=c.length)(h:c.Pairwise λa b=>Cz a b=true)(w:∀y∈c.drop k,Cz g y=true)(i:k=0\/∃s:k-1<c.length,¬Cz g c[k-1]=true)(r:g∉c):(c.take k++ [g]++c.drop k).Pairwise λa b=>Cz a b=true:=by
 have v:∀y∈c.take k,Cz y g=true:=λy o=>by
  rcases i with i | ⟨f,i⟩
  .grind
  .obtain ⟨j,u,rfl⟩:=nD.1 o;have t:Cz c[k-1] g=true:=VJ (λe=>r (e▸ϑ f)) i;rcases Nat.lt_or_ge j (k-1) with l | l
   .exact VI (lc.1 h j (k-1) (by omega) f l) t
   grind
 grind[nA,lm]
theorem pC(L:List Int):L∈c.take k++ [g]++c.drop k↔L∈c\/L=g:=by grind[nA]
theorem bH(i:s.ids.Nodup){y:Nat}(g:x<2^s.ids.length)(f:y<2^s.ids.length)(h:jw s x=jw s y):x=y:=by
 rw[<-Mb g,<-Mb f]
 congr 1
 refine XI (R:=λa b:Nat=>a<b) (λa b h=>by omega) (PD _ _) (PD _ _) λj=>?_
 have c:∀z j,j∈PE s.ids.length z↔∃k:j<s.ids.length,s.ids[j]∈jw s z:=λz j=>by
  grind[PE,Sp]
 grind
section
variable{β:Type}(step:β->List Int->β×Bool)
end
section
variable{β:Type}
end
variable{a:List (List Int)}{s:mx}{c:Nat}
structure Qj (s:mx) (m:Nat) (out:List (List Int)):Prop where
 o:out.Pairwise λa b=>Cz a b=true
 m_:∀L,L∈out↔∃y,y<m/\ly s y=true/\L=jw s y
 l:out.length<=m
theorem Qj.start(s:mx):Qj s 0 []:=⟨List.Pairwise.nil,λ_=>⟨λh=>(by cases h),λ⟨_,h,_⟩=>absurd h (nI _)⟩,Θ _⟩
theorem Qj.skip(h:Qj s c a)(b:ly s c=false):Qj s (c+1) a:=by
 refine ⟨h.o,λL=>?_,Nat.le_succ_of_le h.l⟩;rw[h.m_]
 grind
theorem Qj.add{k:Nat}(h:Qj s c a)(i:s.ids.Nodup)(b:c<2^s.ids.length)(t:ly s c=true)(f:k<=a.length)(l:∀y∈a.drop k,Cz (jw s c) y=true)(j:k=0\/∃f:k-1<a.length,¬Cz (jw s c) a[k-1]=true):Qj s (c+1) (a.take k++ [jw s c]++a.drop k):=by
 refine ⟨gT f h.o l j λg=>?_,λL=>?_,?_⟩
 .obtain ⟨y,r,u,o⟩:=(h.m_ _).1 g;have:=bH i b (Nat.lt_trans r b) o;omega
 .rw[pC,h.m_]
  grind
 .have:=h.l
  grind
theorem Qj.done(f:s.ids.Pairwise (· < ·))(h:Qj s (2^s.ids.length) a):a=jJ s:=
 XI (R:=λc b=>Cz c b=true) (λc b h=>VK h) h.o (cH f) λL=>by rw[h.m_,fv]
section
variable{P:Program}{F:Fr}{s:AS}{d:Nat}{x y:Operand}{T T':TypeId}{ty:TypeId}{pos:String}{aft:Array Edge}{g:Option (Nat×Bool)}{k:IntKind}{a b:Int}
end
variable{S:List Int}{a:iB}{c:List Int}{x i:Int}
theorem XJ{A B:List Int}(h:i∉A):j1 i (A++i::B)=A:=by grind[j1,Ua]
theorem ab(h:i∉c):j1 i c=[]:=by
 unfold j1 kJ St;rw[υ h];rfl
theorem uD{l m:List Int}(h:∀x,x∈l↔x∈m):Ca l=Ca m:=by grind[Ca]
theorem Zv{l m:List Int}(h:l.Perm m)(c:Jq a (Aw l)=[]):Jq a (Aw m)=[]:=
 O8.2 λx b=>by
  have:=O8.1 c x b;have f:(Aw l).Perm (Aw m):=h.map _;rw[ML f] at this;exact this
structure s5 (p:iB) (C:List Int):Prop where
 n:C.Nodup
 i:∀x∈C,x∈p.it.map dr.id
 a:jc p (Ca C)=[]
 v:Jq p (Aw C)=[]
theorem s5.perm{C D:List Int}(h:s5 a C)(b:C.Perm D):s5 a D:=
 ⟨b.nodup_iff.1 h.n,λx c=>h.i x (b.mem_iff.2 c),by rw[<-uD λx=>b.mem_iff];exact h.a,Zv b h.v⟩
theorem s5.nil(c:Ad a=0):s5 a []:=⟨List.nodup_nil,λx b=>(by cases b),iv a,cc c⟩
theorem cn{A B:List Int}(h:x∉A):(A++x::B).takeWhile (λa=>decide (a≠x))=A:=by
 induction A with
 | nil=>simp
 | cons a A b=>
  grind[List.takeWhile_cons]
theorem dY(h:x∈c):∃A B,c=A++x::B/\x∉A:=by
 induction c with
 | nil=>cases h
 | cons a c b=>
  by_cases e:a=x
  .subst e;exact ⟨[],c,Z,by simp⟩
  grind
theorem n0(x:Int)(q:List Int)(h:x∈q):q.takeWhile (λa=>decide (a≠x))=j1 x q:=by grind[dY,cn,XJ]
theorem pK:c.find? (λa=>decide (a∉S))=none↔∀a∈c,a∈S:=by simp
theorem Z9{b:List dr}{id:Int}{x:gf}:kH b S id x=none↔∀a∈j1 id (iC b x.r),a∈S:=by grind[kH,Option.map_eq_none_iff,n0,ab]
theorem WN(r:Ad a=0){id:Int}:B7 a S id=none↔∀b∈kb a id,b.m∈S:=by
 have k:hY a=fl a.it:=ϱ r
 have t:B7 a S id=none↔(j8 a).findSome? (kH (fl a.it) S id)=none/\(hG a id).af.find? (λc=>decide (c∉S))=none:=by
  unfold B7
  cases (j8 a).findSome? (kH (fl a.it) S id) with
  | some e=>exact ⟨λh=>(by cases h),λh=>(by cases h.1)⟩
  | none=>exact ⟨λh=>⟨Z,Option.map_eq_none_iff.1 h⟩,λh=>Option.map_eq_none_iff.2 h.2⟩
 rw[t,pK,List.findSome?_eq_none_iff];unfold kb U4
 constructor
 .rintro ⟨s,u⟩ b g;rcases ν.1 g with g | g
  .grind[jR]
  .obtain ⟨L,o,g⟩:=mO.1 g;obtain ⟨x,i,rfl⟩:=Γ.1 o;obtain ⟨y,l,rfl⟩:=Γ.1 g;have f:=(qm a.ro).mem_iff.1 i;have:=s x ((qn a).mem_iff.2 f);rw[<-k] at this;exact Z9.1 this y l
 .intro h;refine ⟨λx i=>?_,λc j=>h ⟨id,c,HE⟩ (mP _ (Γ.2 ⟨c,(jR _).mem_iff.2 j,Z⟩))⟩;rw[<-k];refine Z9.2 λc j=>?_;have f:=(qn a).mem_iff.1 i;exact h ⟨id,c,x.r⟩ (mG _ (mO.2 ⟨B8 a x,Γ.2 ⟨x,(qm a.ro).mem_iff.2 f,Z⟩,Γ.2 ⟨c,j,Z⟩⟩))
theorem qU(j:Ad a=0)(l:∀x∈S,x∈a.it.map dr.id):jc a (Ca S)=[]↔∀id∈S,B7 a S id=none:=by
 have r:jc a (Ca S)=[]↔∀i∈IZ a,FQ a (Ca S) i=[]:=by unfold jc;rw[List.flatMap_eq_nil_iff]
 rw[r]
 constructor
 .intro h id c;have:=h id ((J7 j).mem_iff.2 (l id c));unfold FQ at this;rw[ϱ (show Ca S id=true from Υ c)] at this;refine (WN j).2 λb g=>Classical.byContradiction λk=>?_;have o:=List.filter_eq_nil_iff.1 this b g;exact o (by show (!decide (b.m∈S))=true;rw[kD k];rfl)
 .intro h i _;unfold FQ
  split
  .rename_i f
   have f:i∈S:=lG f;refine List.filter_eq_nil_iff.2 λb g=>?_;show ¬(!decide (b.m∈S))=true;rw[Υ ((WN j).1 (h i f) b g)]
   decide
  .rfl
theorem Uj(k:Ad a=0)(h:S.Nodup)(j:∀x∈S,x∈a.it.map dr.id)(x:gf):CO a.it x S=max x.n 0+DR a x.r (Aw S):=by
 unfold CO DR Aw
 congr 1
 rw[jy]
 have o:(S.map ((λe:Int×Bool=>if e.2=true then BN (hG a e.1) x.r else 0)∘λb=>(b,true)))=S.map λy=>BN (hG a y) x.r:=kT λy _=>(by show (if true=true then BN (hG a y) x.r else 0)=_;rw[ϱ rfl])
 rw[o];have c:=Xy (HZ k).2.1
 have l:(a.it.filter λi=>decide (i.id∈S)).map (λi=>BN i x.r)=((a.it.filter λi=>decide (i.id∈S)).map dr.id).map λy=>BN (hG a y) x.r:=by
  grind[kT,K5]
 rw[l];refine Uh ?_ _;refine (rD (List.Nodup.sublist (List.filter_sublist.map _) c) h).2 λy=>?_;rw[Γ]
 constructor
 .rintro ⟨i,f,rfl⟩;exact lG (Φ.1 f).2
 .intro g;obtain ⟨i,f,rfl⟩:=Γ.1 (j y g);exact ⟨i,Φ.2 ⟨f,Υ g⟩,Z⟩
theorem wx(g:Ad a=0):s5 a S↔S.Nodup/\(∀x∈S,x∈a.it.map dr.id)/\D0 a S:=by
 have b:S.Nodup->(∀x∈S,x∈a.it.map dr.id)->((jc a (Ca S)=[]/\Jq a (Aw S)=[])↔D0 a S):=λk f=>by
  unfold D0;rw[qU g f,O8];refine and_congr Iff.rfl ?_
  constructor
  .intro h x c;rw[Uj g k f];have:=h (B8 a x) (Γ.2 ⟨x,(qm a.ro).mem_iff.2 c,Z⟩);have e:(B8 a x).n+DR a (B8 a x).r (Aw S)=max x.n 0+DR a x.r (Aw S):=rfl;omega
  .intro h L o;obtain ⟨x,c,rfl⟩:=Γ.1 o;have:=h x ((qm a.ro).mem_iff.1 c);rw[Uj g k f] at this;have e:(B8 a x).n+DR a (B8 a x).r (Aw S)=max x.n 0+DR a x.r (Aw S):=rfl;omega
 exact ⟨λh=>⟨h.n,h.i,(b h.n h.i).1 ⟨h.a,h.v⟩⟩,λ⟨j,i,l⟩=>⟨j,i,((b j i).2 l).1,((b j i).2 l).2⟩⟩
theorem bM(b:Ad a=0)(c:CY a)(h:s5 a S):∀y∈S,y∈gg a:=bK b c ((wx b).1 h).2.2 h.i
end Go.Proofs.YteifpcnphnhaoaaGreat
namespace Go.Proofs.YteifpcnphnhaoaaGreat
open Go.RowKit Go.Shelf
variable{C:Nat->Nat->Prop}{W:Int->Int->Bool}{a:List Int}{i:Nat}{o:List Int}{c:Nat}{f:Int}{g:iB}{k:Nat}{h:List Int}{j:Int}
set_option maxRecDepth 100000
theorem p8(h:xK g):CY g:=⟨by have:=h.1;omega,by have:=h.2.1;omega,λi a=>by have:=h.2.2 i a;omega⟩
theorem sc(c:Ad g=0)(i:CY g){id:Int}(a:id∈g.it.map dr.id)(f:id∉gg g):0<(kE g id).length:=by
 refine Decidable.byContradiction λh=>f ?_;have l:kE g id=[]:=List.length_eq_zero_iff.1 (by omega);have j:∀x∈ [id],x∈g.it.map dr.id:=λx b=>by rw[ξ.1 b];exact a
 have k:s5 g (jz g [id]):=⟨Z5 c _,λx b=>Ta x b,ii c j,l⟩
 refine bM c i k id ?_;unfold jz;rw[(jR _).mem_iff,Φ];exact ⟨a,by simpa using Wc.base (ξ.2 Z)⟩
theorem qW(f:Ad g=0)(r:CY g):(gg g).length+(kp g).length=g.it.length:=by
 have j:hY g=fl g.it:=ϱ f
 obtain ⟨L,b⟩:∃L,(fl g.it).map dr.id=L:=⟨_,Z⟩
 have o:L.length=g.it.length:=by rw[<-b,χ,O2]
 have c:L.Nodup:=by rw[<-b];have:=En f;rwa [j] at this
 have k:∀x,x∈L↔x∈g.it.map dr.id:=λx=>by rw[<-b];exact ((KI g.it).map dr.id).mem_iff
 have u:(kp g).length=(L.filter λx=>!decide (x∈gg g)).length:=by
  unfold kp;rw[b]
  have h:∀l:List Int,(∀x∈l,x∈g.it.map dr.id)->(l.filterMap (kY g)).length=(l.filter λx=>!decide (x∈gg g)).length:=λl=>by
   induction l with
   | nil=>intro _;rfl
   | cons a l i=>
    grind[Lx,Tf,sc]
  grind
 have t:(gg g).length=(L.filter λx=>decide (x∈gg g)).length:=by
  refine ((rD (G3 f) (List.Nodup.sublist lp c)).2 λx=>?_).length_eq
  grind[Rj]
 have s:∀(q:Int->Bool) (l:List Int),(l.filter q).length+(l.filter λx=>!q x).length=l.length:=λq l=>by
  induction l with
  | nil=>rfl
  | cons a l i=>rw[lg,lg,mN];cases q a<;>simp<;>omega
 grind
def IX(W:Int->Int->Bool)(c:Int)(l o:List Int):List Int:=l.foldl (λo x=>if (!decide (x∈o) && W c x)=true then o++ [x] else o) o
theorem NI(b:k<a.length):IX W j (a.take (k+1)) o=if (!decide (a[k]∈IX W j (a.take k) o) && W j a[k])=true then IX W j (a.take k) o++ [a[k]] else IX W j (a.take k) o:=by
 unfold IX;rw[ψ b,List.foldl_append]
 rfl
theorem NJ:IX W j (f::a) o=IX W j a (if (!decide (f∈o) && W j f)=true then o++ [f] else o):=rfl
theorem kI{W:Int->Int->Bool}{c:Int}:∀(l o:List Int) (x:Int),x∈IX W c l o↔x∈o\/(x∈l/\W c x=true)
 | [],o,x=>by unfold IX;simp
 | a::l,o,x=>by
  have g:=kI (W:=W) (c:=c) l (if (!decide (a∈o) && W c a)=true then o++ [a] else o) x;rw[NJ,g,ju]
  by_cases h:(!decide (a∈o) && W c a)=true
  .rw[ϱ h,ν,ξ];simp only[kQ] at h
   constructor
   .rintro ((b | rfl) | b)
    .exact .inl b
    .exact .inr ⟨.inl Z,h.2⟩
    .exact .inr ⟨.inr b.1,b.2⟩
   .rintro (b | ⟨rfl | b,f⟩)
    .exact .inl (.inl b)
    .exact .inl (.inr Z)
    .exact .inr ⟨b,f⟩
  .rw[υ h]
   constructor
   .rintro (b | b)
    .exact .inl b
    .exact .inr ⟨.inr b.1,b.2⟩
   .rintro (b | ⟨rfl | b,f⟩)
    .exact .inl b
    .refine .inl (Classical.byContradiction λi=>h ?_);rw[f,kD i];rfl
    .exact .inr ⟨b,f⟩
theorem Ly{W:Int->Int->Bool}{c:Int}:∀(l o:List Int),o<+:IX W c l o
 | [],o=>List.prefix_refl o
 | a::l,o=>by
  rw[NJ];refine List.IsPrefix.trans ?_ (Ly l _)
  split
  .exact List.prefix_append _ _
  .exact List.prefix_refl o
theorem IH{W:Int->Int->Bool}{c:Int}:∀(l o:List Int),o.Nodup->(IX W c l o).Nodup
 | [],o,h=>h
 | a::l,o,h=>by
  rw[NJ];refine IH l _ ?_
  split
  .rename_i b
   rw[kQ] at b;have i:a∉o:=by simpa using b.1
   rw[mc];exact ⟨h,by simp,λx g y f e=>i (by rw[ξ.1 f] at e;exact e▸g)⟩
  .exact h
def mw(W:Int->Int->Bool)(l:List Int):Nat->Nat->List Int->List Int
 | 0,_,o=>o
 | f+1,i,o=>match o[i]? with
  | none=>o
  | some c=>mw W l f (i+1) (IX W c l o)
theorem Tg{f:Nat}(h:¬i<o.length):mw W a f i o=o:=by
 cases f with
 | zero=>rfl
 | succ f=>
  show (match o[i]? with | none=>o | some c=>_)=o
  grind
theorem Xq{f:Nat}(h:i<o.length):mw W a (f+1) i o=mw W a f (i+1) (IX W o[i] a o):=by
 show (match o[i]? with | none=>o | some c=>_)=_;rw[ω h]
def kC(W:Int->Int->Bool)(l:List Int)(a:Int):List Int:=mw W l (l.length+2) 0 [a]
structure BI (l:List Int) (a:Int) (i:Nat) (o:List Int):Prop where
 le:i<=o.length
 nd:o.Nodup
 sb:∀x∈o,x∈a::l
theorem BI.len{i:Nat}(h:BI a f i o):o.length<=a.length+1:=by
 have:=cU h.nd h.sb;omega
theorem BI.step{W:Int->Int->Bool}{l:List Int}{a:Int}{i:Nat}{o:List Int}(h:BI l a i o)(g:i<o.length)(c:Int):BI l a (i+1) (IX W c l o):=
 ⟨jq g (Ly l o).length_le,IH l o h.nd,λx f=>by
  rcases (kI l o x).1 f with b | b
  .exact h.sb x b
  .exact kx _ b.1⟩
theorem BI.start(l:List Int)(a:Int):BI l a 0 [a]:=⟨κ _,by simp,λx b=>by rw[ξ.1 b];exact k8⟩
inductive sX (W:Int->Int->Bool) (l:List Int) (a:Int):Int->Prop
 | refl:sX W l a a
 | step {y x:Int} (h:sX W l a y) (hx:x∈l) (hw:W y x=true):sX W l a x
theorem qY{W:Int->Int->Bool}:∀(b i:Nat) (o:List Int),BI a f i o->a.length+2<=b+i->(∀x∈o,sX W a f x)->(∀j y,j<i->o[j]? =some y->∀x∈a,W y x=true->x∈o)->f∈o→
  (∀x∈mw W a b i o,sX W a f x)/\(∀y∈mw W a b i o,∀x∈a,W y x=true->x∈mw W a b i o)/\f∈mw W a b i o:=λb=>by
 induction b with
 | zero=>
  intro i o h E w B A;have:=h.len;have:=h.le;omega
 | succ b C=>
  intro i o h E w B A
  by_cases s:i<o.length
  .rw[Xq s];refine C (i+1) _ (h.step s _) (by omega) (λx k=>?_) (λj y r u x k v=>?_) ((kI a o f).2 (.inl A))
   .rcases (kI a o x).1 k with z | z
    .exact w x z
    .exact .step (w _ (ϑ s)) z.1 z.2
   .have g:o[j]? =some y:=by
     obtain ⟨t,D⟩:=Ly (W:=W) (c:=o[i]) a o;rw[<-D,nU (by omega)] at u;exact u
    rcases Nat.lt_succ_iff_lt_or_eq.1 r with r | rfl
    .exact (kI a o x).2 (.inl (B j y r g x k v))
    .rw[ω s] at g;injection g with g
     exact (kI a o x).2 (.inr ⟨k,by rw[g];exact v⟩)
  .rw[Tg s];refine ⟨w,λy u x k v=>?_,A⟩;obtain ⟨j,r⟩:=List.getElem?_of_mem u;exact B j y (by have:=(φ.1 r).1;omega) r x k v
theorem lO{W:Int->Int->Bool}{l:List Int}{a x:Int}:x∈kC W l a↔sX W l a x:=by
 have h:=qY (W:=W) (l.length+2) 0 [a] (BI.start l a) (by omega) (λx b=>by rw[ξ.1 b];exact .refl) (λj y i=>absurd i (nI j)) (ξ.2 Z);refine ⟨h.1 x,λg=>?_⟩
 induction g with
 | refl=>exact h.2.2
 | step _ b f c=>exact h.2.1 _ c _ b f
noncomputable def lH(p:iB)(a b:Int):Bool:=decide (YA (jf p) (hG p a) (hG p b))
theorem RP(p:iB)(X:Ad p=0)(T:CY p)(l:List Int)(a:Int)(hl:l.length<=100000)(O:∀x∈l,x∈p.it.map dr.id)(U:a∈p.it.map dr.id):AI prog 59 [.d (BM p),.d (FW l),.d (AE a)] (FW (kC (lH p) l a)):=by
 have E:∀{x:Int},x∈a::l->x∈p.it.map dr.id:=λ{x} A=>by
  rcases ju.1 A with rfl | A
  .exact U
  .exact O _ A
 refine Av func59 Z Z ntmps59 Z Z Z λF B=>?_;refine AD (AF (V (Ba 1 Z Z Z Z Z Z Z) (AB Z Z (AC (AD (AF (cl Z Z (V (CB 10 Ap Z Z Z Z Z Z Z Z) ?_))))))));refine AB Z Z (AC (AD (AD (AF (AB Z Z (AC (AX (BC (α:=Nat×List Int) (λq=>⟨51,[(3,(.ptr 1 0 0)),(1,(.d (FW l))),(7,(.own 10 0 q.2.length)),(8,(.d (AE (q.1:Int))))],[(1,[B3 25 p]),(10,[.rowD 3 1 (q.2.map AE)])]⟩) (λq=>BI l a q.1 q.2/\mw (lH p) l (l.length+2-q.1) q.1 q.2=kC (lH p) l a) (λq=>l.length+2-q.1) ((0,[a])) (⟨BI.start l a,Z⟩) (AR B [1,10] Z Z ⟨Z,Z,Z,Z,trivial⟩) ?_))))))));rintro ⟨i,o⟩ ⟨w,L⟩;dsimp only at w L⊢;refine AD (AD (AF (cl Z Z (cl Z Z (J (QT Z E0 Z) (J (At Z Z Z) (AC (A4 Z (λz=>?_) (λz=>?_)))))))))
 .refine AU (AD (AX (AD ?_)));have h:i<o.length:=BG z;have S:=w.len;refine AF (AB Z Z (AC (AX (BC (α:=Nat×List Int) (λq=>⟨51,[(3,(.ptr 1 0 0)),(1,(.d (FW l))),(7,(.own 10 0 q.2.length)),(8,(.d (AE (i:Int)))),(9,(.d (AE (q.1:Int))))],[(1,[B3 25 p]),(10,[.rowD 3 1 (q.2.map AE)])]⟩) (λq=>q.1<=l.length/\q.2=IX (lH p) o[i] (l.take q.1) o) (λq=>l.length-q.1) ((0,o)) (⟨κ _,Z⟩) (AR B [1,10] Z Z ⟨Z,Z,Z,Z,Z,trivial⟩) ?_))));rintro ⟨k,g⟩ ⟨G,f⟩;dsimp only at G f⊢;refine AD (AD (AF (cl Z Z (cl Z Z (J (BW Z E0 Z) (J (At Z Z Z) (AC (A4 Z (λy=>?_) (λy=>?_)))))))))
  .refine AU (AD (AX (AD ?_)));have b:k<l.length:=BG y;have r:=Ly (W:=lH p) (c:=o[i]) (l.take k) o;rw[<-f] at r;have C:i<g.length:=ln h r.length_le;have s:g[i]=o[i]:=by obtain ⟨t,R⟩:=r;subst R;rw[List.getElem_append_left h]
   have Y:=w.step (W:=lH p) h o[i];have N:g.length<=l.length+1:=by have h1:g.Nodup:=(by rw[f];exact IH _ _ w.nd);have h2:∀x∈g,x∈a::l:=(λx A=>by rw[f] at A;rcases (kI _ _ _).1 A with M | M;exact w.sb x M;exact kx _ (lL M.1));have:=cU h1 h2;rwa [mN] at this
   have I:=E (w.sb _ (ϑ h));have H:=O _ (ϑ b);have Q:=Zu p X T g[i] l[k] (by rw[s];exact I) H;refine Bm [[],[],[],[1,2],[1,2,3],rg 5,rg 6,rg 7,rg 8,rg 8,rg 8,[0,1,2,3,4,5,6,7,9,10],[0,1,2,3,4,5,6,7,9,10,11],rg 8,rg 8,[0,1,2,3,4,5,6,7,13,14],[0,1,2,3,4,5,6,7,13,14,15],rg 17,rg 18] mixed Z (BY ?_);refine A7 7 Z Z (A7 1 Z Z (A7 9 Z Z (AK [25,26] Z (Al (k) Z Z (Z) (AP b) E0 Z BE Z) (AK [27] Z (BZ Z Z Ag Z) (BR 5 Z Z Z (AZ 6 Z Z (J (qp [10] (DG g l[k] (by omega)) (by exact ⟨.inr ⟨_,_,Z,.own Z Z (by simp) (ζ (by simp)),Z⟩,.inl Z,trivial⟩) Z Z) (AC ⟨Z,?_⟩))))))));refine AZ 7 Z Z (J (JQ Z Z) (AC ⟨Z,?_⟩));refine AZ 8 Z Z (cl Z Z (C5 31 Z (λj=>?_) (λj=>?_)))
   .refine AC ⟨Z,?_⟩;refine BY (Ay [3,31] Z Z (λ_=>BO Z Z Z (Ar Z Z Bx Z Z Z)) (A1 [7,31] [] Z Z (λ_=>BO Z Z Z (FF Z Z)) (A1 [8,31] [] Z Z (λ_=>BO Z Z Z (FF Z Z)) (Ay [33,34,31] Z Z (λ_=>BO Z Z Z (DO (i) Z Z (Z) (C) Z E0 BE Z)) (Ay [35,31] Z Z (λ_=>BO Z Z Z (ED Z Z (AP C) Z Ag Z)) ?_)))));refine A1 [1,31] [] Z Z (λ_=>BO Z Z Z (FF Z Z)) (A1 [9,31] [] Z Z (λ_=>BO Z Z Z (FF Z Z)) (A1 [37,38,31] [] Z Z (λ_=>BO Z Z Z (Al (k) Z Z (Z) (AP b) E0 Z BE Z)) (A1 [39,31] [] Z Z (λ_=>BO Z Z Z (BZ Z Z Ag Z)) (BR 17 Z Z Z (AZ 18 Z Z (AT Z Z Z (J (Ak (Q) Z Z) (AC ⟨Z,?_⟩))))))));refine AZ 19 Z Z (J (B4 Z Z Z Z) (AC ⟨Z,?_⟩));refine Bb (A4 Z (λu=>?_) (λu=>?_))
    .refine AF (cl Z Z (cl Z Z (cl Z Z (J (Al (k) Z Z (Z) (AP b) E0 Z BE Z) (J (BZ Z Z Ag Z) ?_)))));refine V (CB 50 Ap Z Z Z Z Z Z Z Z) (V (DQ (g) ([l[k]]) Z Z Z Z Z Z Z Z Ap (by simp only[η];omega) Z Z Z Z) (AB Z Z (AC (AF (cl Z Z (J (Ac Z Z (AJ (k+1) (by omega)) Z) (AB Z Z (AC ?_))))))));exact ⟨(k+1,g++ [l[k]]),⟨b,by show _=IX (lH p) o[i] (l.take (k+1)) o;rw[NI b,<-f,ϱ (by unfold lH;rw[<-s];simp[j,u])]⟩,by show l.length-(k+1)<l.length-k;omega,AR B [1,10] Z (Z) ⟨Z,Z,Z,Z,Z,trivial⟩⟩
    .refine AU (AF (cl Z Z (J (Ac Z Z (AJ (k+1) (by omega)) Z) (AB Z Z (AC ?_)))));exact ⟨(k+1,g),⟨b,by show _=IX (lH p) o[i] (l.take (k+1)) o;rw[NI b,<-f,υ (by unfold lH;rw[<-s];first | (simp[j];done) | (simp[u];done) | (intro D;simp at D;exact j D.1))]⟩,by show l.length-(k+1)<l.length-k;omega,AR B [1,10] Z (Z) ⟨Z,Z,Z,Z,Z,trivial⟩⟩
   .refine AC ⟨Z,?_⟩;refine BY (A1 [3,31] [] Z Z (λ_=>CL Z Z Z Z) (A1 [7,31] [] Z Z (λ_=>CL Z Z Z Z) (A1 [8,31] [] Z Z (λ_=>CL Z Z Z Z) (A1 [33,34,31] [] Z Z (λ_=>CL Z Z Z Z) ?_))));refine A1 [35,31] [] Z Z (λ_=>CL Z Z Z Z) (A1 [1,31] [] Z Z (λ_=>CL Z Z Z Z) (A1 [9,31] [] Z Z (λ_=>CL Z Z Z Z) (A1 [37,38,31] [] Z Z (λ_=>CL Z Z Z Z) (A1 [39,31] [] Z Z (λ_=>CL Z Z Z Z) (BR 17 Z Z Z (AZ 18 Z Z (AN Z Z Z Z (AC ⟨Z,?_⟩))))))));refine AZ 19 Z Z (J (Br Z Z Z Z) (AC ⟨Z,?_⟩));refine Bb (Cr Z Z (AU (AF (cl Z Z (J (Ac Z Z (AJ (k+1) (by omega)) Z) (AB Z Z (AC ?_)))))));exact ⟨(k+1,g),⟨b,by show _=IX (lH p) o[i] (l.take (k+1)) o;rw[NI b,<-f,υ (by unfold lH;rw[<-s];first | (simp[j];done) | (simp[u];done) | (intro D;simp at D;exact j D.1))]⟩,by show l.length-(k+1)<l.length-k;omega,AR B [1,10] Z (Z) ⟨Z,Z,Z,Z,Z,trivial⟩⟩
  .refine Aq ?_;have v:k=l.length:=by have:=y;omega
   refine AF (cl Z Z (J (Ac Z Z (AJ (i+1) (by omega)) Z) (AB Z Z (AC ?_))));exact ⟨(i+1,g),⟨by rw[f,v,kW];exact w.step h o[i],by show mw _ _ (l.length+2-(i+1)) (i+1) g=_;rw[<-L,show l.length+2-i=(l.length+2-(i+1))+1 by omega,Xq h,f,v,kW]⟩,by show l.length+2-(i+1)<l.length+2-i;omega,AR B [1,10] Z (Z) ⟨Z,Z,Z,Z,trivial⟩⟩
 .refine Aq (AD ?_);have K:o=kC (lH p) l a:=by rw[<-L,Tg (by have:=z;omega)]
  refine Fi (emb:=AE) 7 10 o Z Z Z Z Z Z Z ?_;rw[K];refine AF (cl Z Z (AB Z Z (AC (A5 ?_))));exact ⟨_,[],[],A2 Z,Z,Z,Z,Z⟩
noncomputable def lP(L G:List Int):List Int:=L.filter λx=>!decide (x∈G)
theorem TW(p:iB):kF p=DM p (lP (gg p) (Bp p)):=by grind[kF,DM,vG,lP]
theorem tG{p:iB}{E:List (dr×Nat)}(v:∀k,k<E.length->hG p (Jw E k)=D4 E k)(w:cO E){j:Nat}(r:i<E.length)(u:j<E.length):Jw E j∈kC (lH p) (An E (List.range E.length)) (Jw E i)↔Rh (gs (lJ (jf p) E)) i j:=by
 rw[lO]
 have b:∀x,x∈An E (List.range E.length)↔∃k,k<E.length/\x=Jw E k:=λx=>by
  grind[An,Jw]
 constructor
 .intro h
  have a:∀x,sX (lH p) (An E (List.range E.length)) (Jw E i) x->∃k,k<E.length/\x=Jw E k/\Rh (gs (lJ (jf p) E)) i k:=λx g=>by
   induction g with
   | refl=>exact ⟨i,r,Z,.refl i⟩
   | step _ g t f=>
    obtain ⟨k,c,rfl,l⟩:=f;obtain ⟨m,o,rfl⟩:=(b _).1 g;refine ⟨m,o,Z,.step l (Sz.2 ⟨c,o,?_⟩)⟩;have:=lG t
    grind
  obtain ⟨k,c,e,l⟩:=a _ h;rw[w j k u c e];exact l
 .intro h
  have a:∀k,Rh (gs (lJ (jf p) E)) i k->k<E.length/\sX (lH p) (An E (List.range E.length)) (Jw E i) (Jw E k):=λk c=>by
   induction c with
   | refl=>exact ⟨r,.refl⟩
   | step _ e f=>
    obtain ⟨z,s,y⟩:=Sz.1 e;refine ⟨s,.step f.2 ((b _).2 ⟨_,s,Z⟩) ?_⟩
    grind[lH]
  grind
noncomputable def kg(n:Nat)(C:Nat->Nat->Prop)(i:Nat):List (List Nat):=k9 (((List.range i).filter λk=>dec (∀j,j<k->¬C k j)).map λk=>(List.range n).filter λj=>dec (C k j))
theorem eU(g:List (List Nat)):kg g.length (Jt g) g.length=jg g:=rfl
theorem eT(h:∀j,j<i->¬C i j)(a:1<((List.range c).filter λj=>dec (C i j)).length):kg c C (i+1)=kg c C i++ [(List.range c).filter λj=>dec (C i j)]:=by grind[kg,ki,SA,k9,Gn]
theorem aa(h:¬∀j,j<i->¬C i j):kg c C (i+1)=kg c C i:=by grind[kg,ki,Z1]
theorem eS(a:¬1<((List.range c).filter λj=>dec (C i j)).length):kg c C (i+1)=kg c C i:=by grind[kg,ki,k9,Gn]
theorem ue:∀(f i:Nat) (o:List Int),o.Nodup->(mw W a f i o).Nodup:=λf=>by
 induction f with
 | zero=>exact λi o h=>h
 | succ f c=>
  intro i o h
  by_cases b:i<o.length
  .rw[Xq b];exact c _ _ (IH a o h)
  .rw[Tg b];exact h
noncomputable def kU(n:Nat)(C:Nat->Nat->Prop)(i k:Nat):List Nat:=(List.range k).filter λj=>dec (C i j)
theorem ai(h:C i k):kU c C i (k+1)=kU c C i k++ [k]:=by grind[kU,ki,SA]
theorem PI(h:¬C i k):kU c C i (k+1)=kU c C i k:=by grind[kU,ki,Z1]
theorem RY(n k i:Nat)(C:Nat->Nat->Prop):(kU n C i k).length<=k:=by grind[kU]
theorem oM(g:∀i j,C i j->C j i)(wn:∀i j k,C i j->C j k->C i k)(f:i<a.length)(o:∀k (c:k<a.length),a[k]∈h↔∃j,j<i/\C k j)(b:a[i]∈h):(¬∀j,j<i->¬C i j)/\∀k (c:k<a.length),a[k]∈h↔∃j,j<i+1/\C k j:=by grind
theorem oN{E:List (dr×Nat)}{P:List Nat}(u:cO E)(f:E.length=c)(o:∀{k:Nat} (b:k<a.length),a[k]=Jw E k)(g:a.length=c)(r:∀i j,C i j->C j i)(s:∀i,C i i)(wn:∀i j k,C i j->C j k->C i k)(v:∀k (b:k<a.length),a[k]∈h↔∃j,j<i/\C k j)(t:P=(List.range c).filter λj=>dec (C i j)):∀k (b:k<a.length),a[k]∈h++An E P↔∃j,j<i+1/\C k j:=by grind[EV,G7]
theorem R8{L G:List Int}(a:k<L.length):lP (L.take (k+1)) G=lP (L.take k) G++(if L[k]∈G then [] else [L[k]]):=by grind[lP,ψ]
theorem Yv(L G:List Int):(lP L G).length<=L.length:=lB _ _
theorem eQ(p:iB)(S:Ad p=0)(hf:CY p):AI prog 20 [.d (BM p),.d (FW (gg p)),.d (FW (Bp p))] (XZ (lF (jf p) (kF p))):=by
 have hi30:=hf.i;have hll0:=Ec S;have hgl0:=Mo hf;have D:((fl p.it).map dr.id).Nodup:=by have:=En S;rwa [show hY p=fl p.it from ϱ S] at this
 have hL1:=Yv (gg p) (Bp p);have o:=J6 p (lP (gg p) (Bp p)) (by omega) (by omega);have hI:cO (kF p):=by rw[TW];exact L0 D (GN p _)
 have I:∀k,k<(kF p).length->Jw (kF p) k∈p.it.map dr.id/\hG p (Jw (kF p) k)=D4 (kF p) k:=by rw[TW];exact λk f=>Rl S f
 have hel:(kF p).length<=30:=by have U:(kF p).length<=(fl p.it).length:=(by unfold kF;rw[χ];exact lB _ _);rw[O2] at U;omega
 rw[Un,<-TW] at o
 obtain ⟨E,hEE⟩:∃E,kF p=E:=⟨_,Z⟩
 simp only[hEE] at hI I hel o⊢
 obtain ⟨n,G⟩:∃n,E.length=n:=⟨_,Z⟩
 have v:=λ{i j:Nat} (hi:i<E.length) (hj:j<E.length)=>tG (p:=p) (E:=E) (λk f=>(I k f).2) hI hi hj;rw[G] at o hel v
 obtain ⟨l,hl⟩:∃l,An E (List.range n)=l:=⟨_,Z⟩
 rw[hl] at o v;have y:l.length=n:=by rw[<-hl,SU,kj]
 have g:∀{k:Nat} (f:k<l.length),l[k]=Jw E k:=λ{k} f=>by
  have U:l[k]? =some (Jw E k):=by rw[<-hl];unfold An;rw[ς,ω (by simpa [y] using f)];simp[Jw]
  rw[ω f] at U;injection U
 have w:∀x∈l,x∈p.it.map dr.id:=λx hx=>by
  obtain ⟨k,f,rfl⟩:=mE.1 hx;rw[g f];exact (I k (by omega)).1
 obtain ⟨C,hC⟩:∃C,Jt (lJ (jf p) E)=C:=⟨_,Z⟩
 have hCr:∀i,C i i:=λi=>by rw[<-hC];exact Mg _ i
 have hCs:∀i j,C i j->C j i:=λi j h=>by rw[<-hC] at h⊢;exact Rb h
 have wn:∀i j k,C i j->C j k->C i k:=λi j k h h2=>by rw[<-hC] at h h2⊢;exact KY h h2
 have t:∀{i k:Nat} (hi:i<l.length) (f:k<l.length),(l[k]∈kC (lH p) l l[i]/\l[i]∈kC (lH p) l l[k])↔C i k:=λ{i k} hi f=>by
  rw[g hi,g f,v (by omega) (by omega),v (by omega) (by omega),<-hC];rfl
 have X:kg n C n=jg (lJ (jf p) E):=by rw[<-hC,<-eU,F3,G]
 have W:∀a,a∈l->(kC (lH p) l a).length<=31:=λa ha=>by
  have U:∀x∈kC (lH p) l a,x∈a::l:=λx hx=>by
   cases lO.1 hx with
   | refl=>exact k8
   | step _ h _=>exact kx _ h
  have h2:(kC (lH p) l a).Nodup:=ue _ _ _ (by simp);have:=cU h2 U;rw[mN] at this;omega
 refine Av func20 Z Z ntmps20 Z Z Z λF s=>(AD (AF (V (Ba 1 Z Z Z Z Z Z Z) (AB Z Z (AC (AD (AF (AB Z Z ?_))))))));refine AC (AD (AD (AF (AB Z Z (AC (AX (IY 7 10 Ap Z Z Z Z (BC (α:=Nat×List Int) (λq=>⟨99,[(3,(.ptr 1 0 0)),(1,(.d (FW (gg p)))),(2,(.d (FW (Bp p)))),(7,(.own 10 0 q.2.length)),(8,(.d (AE (q.1:Int))))],[(1,[B3 25 p]),(10,[.rowD 3 1 (q.2.map AE)])]⟩) (λq=>q.1<=(gg p).length/\q.2=lP ((gg p).take q.1) (Bp p)) (λq=>(gg p).length-q.1) ((0,[])) (⟨κ _,Z⟩) (AR s [1,10] Z Z ⟨Z,Z,Z,Z,Z,trivial⟩) ?_))))))));rintro ⟨k,T⟩ ⟨f,r⟩;dsimp only at f r⊢;refine AD (AD (AF (cl Z Z (cl Z Z (J (BW Z E0 Z) (J (At Z Z Z) (AC (A4 Z (λR=>?_) (λR=>?_)))))))))
 .refine AU (AD (AX (AD ?_)));have b:k<(gg p).length:=BG R;have hTl:T.length<=30:=by have:=Yv ((gg p).take k) (Bp p);rw[<-r,θ] at this;omega
  refine AF ?_;refine cl Z Z (cl Z Z (cl Z Z (J (Al (k) Z Z (Z) (AP b) E0 Z BE Z) (J (BZ Z Z Ag Z) (J (Ak (DG (Bp p) (gg p)[k] (by omega)) Z Z) (J (JQ Z Z) (AC (A4 Z (λQ=>?_) (λQ=>?_)))))))))
  .refine AF (cl Z Z (cl Z Z (cl Z Z (J (Al (k) Z Z (Z) (AP b) E0 Z BE Z) (J (BZ Z Z Ag Z) ?_)))));refine V (CB 50 Ap Z Z Z Z Z Z Z Z) (V (DQ (T) ([(gg p)[k]]) Z Z Z Z Z Z Z Z Ap (by simp only[η];omega) Z Z Z Z) (AB Z Z (AC (AF (cl Z Z (J (Ac Z Z (AJ (k+1) (by omega)) Z) (AB Z Z (AC ?_))))))));exact ⟨(k+1,T++ [(gg p)[k]]),⟨b,by show _=lP ((gg p).take (k+1)) _;rw[R8 b,υ (by simpa using Q),r]⟩,by show (gg p).length-(k+1)<(gg p).length-k;omega,AR s [1,10] Z (Z) ⟨Z,Z,Z,Z,Z,trivial⟩⟩
  .refine AU (AF (cl Z Z (J (Ac Z Z (AJ (k+1) (by omega)) Z) (AB Z Z (AC ?_)))));exact ⟨(k+1,T),⟨b,by show _=lP ((gg p).take (k+1)) _;rw[R8 b,ϱ (by simpa using Q),r,kZ]⟩,by show (gg p).length-(k+1)<(gg p).length-k;omega,AR s [1,10] Z (Z) ⟨Z,Z,Z,Z,Z,trivial⟩⟩
 .refine Aq (AD ?_);have hke:k=(gg p).length:=by have:=R;omega
  refine Fi (emb:=AE) 7 10 T Z Z Z Z Z Z Z ?_;rw[show T=lP (gg p) (Bp p) by rw[r,hke,kW]];refine AF (J (Ar Z Z Bx Z Z Z) (cl Z Z (J (Ak (o) Z Z) (AB Z Z ?_))));refine AC (AD (AF (AB Z Z (AC (AD (AF (AB Z Z (AC ?_))))))));refine AD (AD (IY 10 12 Ap Z Z Z Z (AF (AB Z Z (AC (AX (IY 9 11 Kw Z Z Z Z (BC (α:=Nat×List (List Int)×List Int) (λq=>⟨99,[(3,(.ptr 1 0 0)),(7,(.d (FW l))),(9,(.own 11 0 q.2.1.length)),(10,(.own 12 0 q.2.2.length)),(11,(.d (AE (q.1:Int))))],[(1,[B3 25 p]),(11,[.rowD 28 1 (q.2.1.map FW)]),(12,[.rowD 3 1 (q.2.2.map AE)])]⟩) (λq=>q.1<=n/\q.2.1=(kg n C q.1).map (An E)/\q.2.1.length<=q.1/\q.2.2.length<=q.1*30/\∀k (f:k<l.length),l[k]∈q.2.2↔∃j,j<q.1/\C k j) (λq=>n-q.1) ((0,[],[])) (⟨κ _,Z,κ _,κ _,λk f=>⟨(λh=>by cases h),λ⟨j,h,_⟩=>absurd h (nI j)⟩⟩) (AR s [1,11,12] Z Z ⟨Z,Z,Z,Z,Z,trivial⟩) ?_))))))));rintro ⟨i,T,u⟩ ⟨hi0,r,hTl,hdl,hD⟩;dsimp only at hi0 r hTl hdl hD⊢;refine AD (AD (AF (cl Z Z (cl Z Z (J (IR Z (by rw[χ,y]) E0 Z) (J (At Z Z Z) (AC (A4 Z (λO=>?_) (λO=>?_)))))))))
  .refine AU (AD (AX (AD (AD ?_))));have hin:i<n:=BG O;have c:i<l.length:=by omega
   refine AF (cl Z Z (cl Z Z (cl Z Z (J (Al (i) Z Z (Z) (AP c) E0 Z BE Z) (J (BZ Z Z Ag Z) (J (qp [12] (DG u l[i] (by omega)) (by exact ⟨.inr ⟨_,_,Z,.own Z Z (by simp) (ζ (by simp)),Z⟩,.inl Z,trivial⟩) Z Z) (AC (A4 Z (λN=>?_) (λN=>?_)))))))))
   .obtain ⟨hnf,hDn⟩:=oM hCs wn c hD N;refine Aq (AF (cl Z Z (J (Ac Z Z (AJ (i+1) (by omega)) Z) (AB Z Z (AC ?_)))));exact ⟨(i+1,T,u),⟨by show i+1<=n;omega,by show _=(kg n C (i+1)).map _;rw[aa hnf,r],by show T.length<=i+1;omega,by show u.length<=(i+1)*30;omega,hDn⟩,by show n-(i+1)<n-i;omega,AR s [1,11,12] Z (Z) ⟨Z,Z,Z,Z,Z,trivial⟩⟩
   .have hfi:∀j,j<i->¬C i j:=λj hj hc=>N ((hD i c).2 ⟨j,hj,hc⟩);refine AU (AD (AF (AB Z Z ?_)));refine AC (AD (AD (AF (AB Z Z (AC (AX (IY 12 13 Ap Z Z Z Z (BC (α:=Nat×List Nat) (λq=>⟨99,[(3,(.ptr 1 0 0)),(7,(.d (FW l))),(9,(.own 11 0 T.length)),(10,(.own 12 0 u.length)),(11,(.d (AE (i:Int)))),(12,(.own 13 0 (An E q.2).length)),(13,(.d (AE (q.1:Int))))],[(1,[B3 25 p]),(11,[.rowD 28 1 (T.map FW)]),(12,[.rowD 3 1 (u.map AE)]),(13,[.rowD 3 1 ((An E q.2).map AE)])]⟩) (λq=>q.1<=n/\q.2=kU n C i q.1) (λq=>n-q.1) ((0,[])) (⟨κ _,Z⟩) (AR s [1,11,12,13] Z Z ⟨Z,Z,Z,Z,Z,Z,Z,trivial⟩) ?_))))))));rintro ⟨k,P⟩ ⟨hk0,K⟩;dsimp only at hk0 K⊢;refine AD (AD (AF (cl Z Z (cl Z Z (J (IR Z (by rw[χ,y]) E0 Z) (J (At Z Z Z) (AC (A4 Z (λM=>?_) (λM=>?_)))))))))
    .refine AU (AD (AX (AD ?_)));have H:k<n:=BG M;have b:k<l.length:=by omega
     have hPl:P.length<=30:=by have:=RY n k i C;rw[<-K] at this;omega
     refine Bm [[],[],[],[],[2,3],[2,3,4],rg 6,[],[],[7,8],[7,8,9],rg 11,rg 12,rg 13,rg 13,rg 13,rg 13,[0,1,2,3,4,5,6,7,8,9,10,11,12,15,16],[0,1,2,3,4,5,6,7,8,9,10,11,12,15,16,17],rg 19,rg 13,rg 13,[0,1,2,3,4,5,6,7,8,9,10,11,12,20,21],[0,1,2,3,4,5,6,7,8,9,10,11,12,20,21,22],rg 24,rg 25] mixed Z (BY (Ay [3] Z Z (λ_=>A9 (Ar Z Z Bx Z Z Z)) (A7 7 Z Z (A7 7 Z Z (A7 11 Z Z (AK [57,58] Z (Al (i) Z Z (Z) (AP c) E0 Z BE Z) (AK [59] Z (BZ Z Z Ag Z) ?_)))))));refine AK [55,56,60] Z (Ak (RP p S hf l l[i] (by omega) w (w _ (ϑ c))) Z Z) (A7 7 Z Z (A7 13 Z Z (AK [62,63] Z (Al (k) Z Z (Z) (AP b) E0 Z BE Z) (AK [64] Z (BZ Z Z Ag Z) (BR 11 Z Z Z (AZ 12 Z Z (J (Ak (DG (kC (lH p) l l[i]) l[k] (by have:=W _ (ϑ c);omega)) Z Z) (AC ⟨Z,?_⟩))))))));refine AZ 13 Z Z (cl Z Z (C5 67 Z (λB=>?_) (λB=>?_)))
     .refine AC ⟨Z,?_⟩;refine BY (Ay [3,67] Z Z (λ_=>BO Z Z Z (Ar Z Z Bx Z Z Z)) (A1 [7,67] [] Z Z (λ_=>BO Z Z Z (FF Z Z)) (A1 [7,67] [] Z Z (λ_=>BO Z Z Z (FF Z Z)) (A1 [13,67] [] Z Z (λ_=>BO Z Z Z (FF Z Z)) (A1 [70,71,67] [] Z Z (λ_=>BO Z Z Z (Al (k) Z Z (Z) (AP b) E0 Z BE Z)) (A1 [72,67] [] Z Z (λ_=>BO Z Z Z (BZ Z Z Ag Z)) (A1 [68,69,73,67] [] Z Z (λ_=>BO Z Z Z (Ak (RP p S hf l l[k] (by omega) w (w _ (ϑ b))) Z Z)) ?_)))))));refine A1 [7,67] [] Z Z (λ_=>BO Z Z Z (FF Z Z)) (A1 [11,67] [] Z Z (λ_=>BO Z Z Z (FF Z Z)) (A1 [75,76,67] [] Z Z (λ_=>BO Z Z Z (Al (i) Z Z (Z) (AP c) E0 Z BE Z)) (A1 [77,67] [] Z Z (λ_=>BO Z Z Z (BZ Z Z Ag Z)) (BR 24 Z Z Z (AZ 25 Z Z (AT Z Z Z (J (Ak (DG (kC (lH p) l l[k]) l[i] (by have:=W _ (ϑ b);omega)) Z Z) (AC ⟨Z,?_⟩))))))));refine AZ 26 Z Z (J (B4 Z Z Z Z) (AC ⟨Z,?_⟩));refine Bb (A4 Z (λA=>?_) (λA=>?_))
      .refine AF ?_;refine cl Z Z (cl Z Z (cl Z Z (J (Al (k) Z Z (Z) (AP b) E0 Z BE Z) (J (BZ Z Z Ag Z) (V (CB 51 Ap Z Z Z Z Z Z Z Z) (V (DQ ((An E P)) ([l[k]]) Z Z Z Z Z Z Z Z Ap (by rw[SU];simp only[η];omega) Z Z Z Z) (AB Z Z (AC ?_))))))))
       try rw[show An E P++ [l[k]]=An E (P++ [k]) by unfold An;rw[kA,g b];rfl]
       refine AF (cl Z Z (J (Ac Z Z (AJ (k+1) (by omega)) Z) (AB Z Z (AC ?_))));exact ⟨(k+1,P++ [k]),⟨H,by show _=kU n C i (k+1);rw[ai ((t c b).1 ⟨B,A⟩),K]⟩,by show n-(k+1)<n-k;omega,AR s [1,11,12,13] Z (Z) ⟨Z,Z,Z,Z,Z,Z,Z,trivial⟩⟩
      .refine AU ?_
       try rw[show An E P++ [l[k]]=An E (P++ [k]) by unfold An;rw[kA,g b];rfl]
       refine AF (cl Z Z (J (Ac Z Z (AJ (k+1) (by omega)) Z) (AB Z Z (AC ?_))));exact ⟨(k+1,P),⟨H,by show _=kU n C i (k+1);rw[PI (by first | exact λh=>A ((t c b).2 h).2 | exact λh=>B ((t c b).2 h).1),K]⟩,by show n-(k+1)<n-k;omega,AR s [1,11,12,13] Z (Z) ⟨Z,Z,Z,Z,Z,Z,Z,trivial⟩⟩
     .refine AC ⟨Z,?_⟩;refine BY (A1 [3,67] [] Z Z (λ_=>CL Z Z Z Z) (A1 [7,67] [] Z Z (λ_=>CL Z Z Z Z) (A1 [7,67] [] Z Z (λ_=>CL Z Z Z Z) (A1 [13,67] [] Z Z (λ_=>CL Z Z Z Z) (A1 [70,71,67] [] Z Z (λ_=>CL Z Z Z Z) (A1 [72,67] [] Z Z (λ_=>CL Z Z Z Z) ?_))))));refine A1 [68,69,73,67] [] Z Z (λ_=>CL Z Z Z Z) (A1 [7,67] [] Z Z (λ_=>CL Z Z Z Z) (A1 [11,67] [] Z Z (λ_=>CL Z Z Z Z) (A1 [75,76,67] [] Z Z (λ_=>CL Z Z Z Z) (A1 [77,67] [] Z Z (λ_=>CL Z Z Z Z) (BR 24 Z Z Z (AZ 25 Z Z (AN Z Z Z Z (AC ⟨Z,?_⟩))))))));refine AZ 26 Z Z (J (Br Z Z Z Z) (AC ⟨Z,?_⟩));refine Bb (Cr Z Z (AU ?_))
      try rw[show An E P++ [l[k]]=An E (P++ [k]) by unfold An;rw[kA,g b];rfl]
      refine AF (cl Z Z (J (Ac Z Z (AJ (k+1) (by omega)) Z) (AB Z Z (AC ?_))));exact ⟨(k+1,P),⟨H,by show _=kU n C i (k+1);rw[PI (by first | exact λh=>A ((t c b).2 h).2 | exact λh=>B ((t c b).2 h).1),K]⟩,by show n-(k+1)<n-k;omega,AR s [1,11,12,13] Z (Z) ⟨Z,Z,Z,Z,Z,Z,Z,trivial⟩⟩
    .refine Aq (AD ?_);have Y:k=n:=by have:=M;omega
     have z:P=(List.range n).filter λj=>dec (C i j):=by rw[K,Y];rfl
     have hPl2:P.length<=30:=by have:=RY n k i C;rw[<-K] at this;omega
     have hDa:=oN (E:=E) hI G g y hCs hCr wn hD z;refine Fi (emb:=AE) 12 13 (An E P) Z Z Z Z Z Z Z (AF (cl Z Z (cl Z Z (V (JR (u) ((An E P)) Z Z Z Z Z Z (λ_=>rfl) Ap (by rw[SU];omega) Z Z Z Z) ?_))));refine AB Z Z (AC (AD (AF (cl Z Z (J (IR Z (by rw[χ,SU]) E0 Z) (J (H1 Z Z Z) (AC (A4 Z (λL=>?_) (λL=>?_)))))))))
     .refine AF (cl Z Z (cl Z Z ?_));refine V (CB 52 Kw Z Z Z Z Z Z Z Z) (V (DQ (T) ([An E P]) Z Z Z Z Z Z Z Z Kw (by simp only[η];omega) Z Z Z Z) (AB Z Z (AC (AF (cl Z Z (J (Ac Z Z (AJ (i+1) (by omega)) Z) (AB Z Z (AC ?_))))))));exact ⟨(i+1,T++ [An E P],u++An E P),⟨by show i+1<=n;omega,by show _=(kg n C (i+1)).map _;rw[eT hfi (by rw[<-z];have h:=L;omega),kA,r,<-z];rfl,by show (T++ [_]).length<=i+1;rw[Δ];simp only[η];omega,by show (u++_).length<=(i+1)*30;rw[Δ,SU];omega,hDa⟩,by show n-(i+1)<n-i;omega,AR s [1,11,12] Z (Z) ⟨Z,Z,Z,Z,Z,trivial⟩⟩
     .refine AU (AF (cl Z Z (J (Ac Z Z (AJ (i+1) (by omega)) Z) (AB Z Z (AC ?_)))));exact ⟨(i+1,T,u++An E P),⟨by show i+1<=n;omega,by show _=(kg n C (i+1)).map _;rw[eS (by rw[<-z];have h:=L;omega),r],by show T.length<=i+1;omega,by show (u++_).length<=(i+1)*30;rw[Δ,SU];omega,hDa⟩,by show n-(i+1)<n-i;omega,AR s [1,11,12] Z (Z) ⟨Z,Z,Z,Z,Z,trivial⟩⟩
  .refine Aq (AD ?_);have hie:i=n:=by have:=O;omega
   refine Fi (emb:=FW) 9 11 T Z Z Z Z Z Z Z ?_;rw[show T=lF (jf p) E by rw[r,hie,X];rfl];refine AF (cl Z Z (AB Z Z (AC (A5 ?_))));exact ⟨_,[],[],A2 Z,Z,Z,Z,Z⟩
theorem i5(a:List AW)(E:List (dr×Nat)):(jx a E).length<=E.length/\∀x∈jx a E,x.length<=E.length:=by grind[jx,mY,SU]
theorem qQ(a:List AW)(E:List (dr×Nat)):(lF a E).length<=E.length/\∀x∈lF a E,x.length<=E.length:=by grind[lF,WI,F3,SU,Z7]
theorem Vj(p:iB)(l:List Int):(DM p l).length<=p.it.length:=by grind[DM,O2]
theorem iF(p:iB):(kF p).length<=p.it.length:=by rw[TW];exact Vj p _
theorem rQ{l:List (List Int)}(h:l.length<=c/\∀x∈l,x.length<=c)(a:c<=100000):l.length<=100000/\∀x∈l,x.length<=100000:=by grind
theorem fy(l:List (List Int))(h:l.length<=100000/\∀x∈l,x.length<=100000):AI prog 18 [.d (XZ l),.d (XZ l)] (Aj true):=by grind[Mk]
theorem sG(l:List Int)(h:l.length<=100000):AI prog 17 [.d (FW l),.d (FW l)] (Aj true):=by
 have:=P8 l l h h
 grind
end Go.Proofs.YteifpcnphnhaoaaGreat
namespace Go.Proofs.YteifpcnphnhaoaaGreat
open Go.ChangeShapes Go.WideShapes Go.ChangeAt Go.RowKit
section
variable{H:Type}{enc:TypeId×Value->H}{w:World}
abbrev tt{α:Type}:α->Prop:=λ_=>True
theorem oI:C9 enc prog w 3 1 AE tt:=(Ye underlying3).asQ id (λ_ _=>rfl) (λ_ _=>trivial)
theorem oJ:C9 enc prog w 2 1 AE tt:=(Ye underlying2).asQ id (λ_ _=>rfl) (λ_ _=>trivial)
theorem oS:C9 enc prog w 9 1 Am tt:=(fG underlying9).asQ id (λ_ _=>rfl) (λ_ _=>trivial)
theorem y8:C9 enc prog w 28 1 (λl:List Int=> .sl none (l.map AE)) tt:=(PL E0 (by kernel_rfl) (by omega) (b:=8) (by kernel_rfl) oI).asQ id (λ_ _=>rfl) (λ_ _=>trivial)
theorem wZ:C9 enc prog w 96 3 yM tt:=
 (KW underlying96 (by kernel_rfl) (CQ Z (by kernel_rfl) oS (CQ Z (by kernel_rfl) oI (CQ Z (by kernel_rfl) oS KX)))).asQ (λa=>(⟨a.1,a.2.1,a.2.2.1⟩:W3)) (λ_ _=>rfl) (λ_ _=>trivial)
theorem wY:C9 enc prog w 192 4 B9 tt:=
 (KW underlying192 (by kernel_rfl) (CQ Z (by kernel_rfl) wZ (CQ Z (by kernel_rfl) oJ KX))).asQ (λa=>(⟨a.1,a.2.1⟩:Fa)) (λ_ _=>rfl) (λ_ _=>trivial)
theorem xw:C9 enc prog w 193 3 Co tt:=
 (KW underlying193 (by kernel_rfl) (CQ Z (by kernel_rfl) oS (CQ Z (by kernel_rfl) oS (CQ Z (by kernel_rfl) oJ KX)))).asQ (λa=>(⟨a.1,a.2.1,a.2.2.1⟩:NN)) (λ_ _=>rfl) (λ_ _=>trivial)
theorem xt:C9 enc prog w 98 6 Bn tt:=
 (KW underlying98 (by kernel_rfl) (CQ Z (by kernel_rfl) oI (CQ Z (by kernel_rfl) wZ (CQ Z (by kernel_rfl) oS (CQ Z (by kernel_rfl) oS KX))))).asQ (λa=>(⟨a.1,a.2.1,a.2.2.1,a.2.2.2.1⟩:AW)) (λ_ _=>rfl) (λ_ _=>trivial)
theorem xx:C9 enc prog w 93 6 Ah tt:=
 (KW underlying93 (by kernel_rfl) (CQ Z (by kernel_rfl) oI (CQ Z (by kernel_rfl) oI (CQ Z (by kernel_rfl) oI
  (CQ Z (by kernel_rfl) (PL R5 (by kernel_rfl) (by omega) (b:=48) (by kernel_rfl) wY)
  (CQ Z (by kernel_rfl) (PL an (by kernel_rfl) (by omega) (b:=40) (by kernel_rfl) xw) (CQ Z (by kernel_rfl) y8 KX))))))).asQ
  (λa=>(⟨a.1,a.2.1,a.2.2.1,a.2.2.2.1,a.2.2.2.2.1,a.2.2.2.2.2.1⟩:dr)) (λ_ _=>rfl) (λ_ _=>trivial)
theorem xu:C9 enc prog w 100 7 BT tt:=
 (KW underlying100 (by kernel_rfl) (CQ Z (by kernel_rfl) xt (CQ Z (by kernel_rfl) oJ KX))).asQ (λa=>(⟨a.1,a.2.1⟩:gf)) (λ_ _=>rfl) (λ_ _=>trivial)
theorem xv:C9 enc prog w 25 2 BM tt:=
 (KW underlying25 (by kernel_rfl) (CQ Z (by kernel_rfl) (PL F0 (by kernel_rfl) (by omega) (b:=88) (by kernel_rfl) xu) (CQ Z (by kernel_rfl) (PL No (by kernel_rfl) (by omega) (b:=96) (by kernel_rfl) xx) KX))).asQ
  (λa=>(⟨a.1,a.2.1⟩:iB)) (λ_ _=>rfl) (λ_ _=>trivial)
end
end Go.Proofs.YteifpcnphnhaoaaGreat
