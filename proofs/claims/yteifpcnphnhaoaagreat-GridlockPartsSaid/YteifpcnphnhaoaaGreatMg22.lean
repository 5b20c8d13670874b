import Derived.Test.YteifpcnphnhaoaaGreatMg21
import Derived.Shelf.SlSortCmp.Whole1
open Go.Proofs.Tryz
namespace Go.Proofs.YteifpcnphnhaoaaGreat
open Go.RowKit Go.Shelf
open Go.Sort (putRow Holds PermIn SortedIn SWO mapBlock onCells putCells)
variable {P:Program}
section
variable {ρr:Ren} {τ:Type}
variable {a:Option (Nat×Bool)} {c:Array TypeId} {f:Array Edge} {g:Type} {h:g ->Value} {i:Array Obj} {j:Array g} {k:String} {o:TypeId} {w:World} {s:FuncId} {t:Nat} {u:AV} {F:Fr} {x:AS} {y:Nat}
theorem rL [Inhabited g] {c m:Nat} {a:Nat} (k:a≠y) (f:a<w.heap.size):(sortWorld h w y c m j i).heap[a]? =w.heap[a]?:=by
 unfold sortWorld;rw [Go.Sort.heap_grow_old _ _ (by rw [Go.Sort.size_putRow];exact f)];show (w.heap.modify y _)[a]? =_
 grind
theorem HU [Inhabited g] {a m:Nat}:w.heap.size<=(sortWorld h w y a m j i).heap.size:=by simp [*,sortWorld]
theorem al (L:SlLaysF.n6 P ρr) {E:TypeId} {g g6:FuncId} {fn:Func} (hfn:P.funcs[g]? =some fn) (hnm:(fn.name== "runtime.NumGoroutine")=false) {c:Code} (hbody:fn.body=some c)
  {A:τ ->Nat} {px:τ ->List D} {tx:τ ->TypeId} (cf:τ ->τ ->Int) (hO:SWO (ltOf cf)) (k B:List τ) (hsz:k.length<4611686018427387904) (hc:∀x∈k,∀y∈k,AK P g [.d (.ptr (.agg (px x))),.d (.ptr (.agg (px y)))] (.raw (.int .i64 (cf x y))))
  (hu:∀ys:List τ,ys.Perm k ->ys.Pairwise (λa b=>¬cf b a<0) ->ys=B)
  {F:Fr} {s:AS} {d:Nat} {x y:Operand} {ty:TypeId} {pos:String} {aft:Array Edge} {gd:Option (Nat×Bool)} {at_:Array TypeId} {f b t n:Nat} {M:MF} {fa:AV} {row:List D} {hp':Hp}
  (hg:ρr.f 6=g6) (hM:fc s.hp f=some [.multi M]) (hpx:∀x∈k,M (A x)=some (.cells (tx x) (px x))) (h1x:∀x∈k,∀c∈px x,c.one=true) (hx:s.ev x=some (.d (.raw (sV b n t)))) (hy:s.ev y=some fa) (hfa:∀w O V v,A6 w O V fa v ->v= .func (.func g) #[] #[]) (hb:M b=some (.row E 1 t row)) (N:row=k.map λx=>pD (A x) 0) (hn:n=k.length) (hxs:k≠ []) (hh:Bi s.hp f (BZ M b (.row E 1 t (B.map λx=>pD (A x) 0)))=some hp') (hd:Nat.blt d s.n=true):
  AH P F ⟨some d,.call {callee:= .value (.func g6),args:= #[x,y],argTypes:=at_},ty,pos,aft,gd⟩ s ⟨s.n,(d,.d (.tup []))::s.env,hp'⟩ (λ_ _=>true):=by
 subst hg N hn;intro V U w hs
 obtain ⟨fn6,hf1,hf2,hf3⟩:∃fn,P.funcs[ρr.f 6]? =some fn/\(fn.name== "runtime.NumGoroutine")=false/\fn.body.isSome=true:=by
  obtain ⟨nm,hn,hf⟩:=L.f6;exact ⟨_,hf,hn,Z⟩
 unfold Oper.wp;rw [show (#[x,y]:Array Operand)=[x,y].toArray from rfl,DG hf1 hf2 hf3,Oper.upon_enter]
 suffices R:Calls P (ρr.f 6) ([x,y].map U.eval).toArray w λe w'=>e= .returned (.tuple #[])/\SR F ⟨s.n,s.env,hp'⟩ V U w' by
  refine R.mono λe w' ⟨G,hsr⟩=>?_;subst G;exact ⟨V,hsr.put (IJ hd) (.d (.tup Z λi c v hc=>nomatch hc)),λ_ _ _=>rfl⟩
 have r0:=hs.raw hx;have r1:=hfa _ _ _ _ (hs.ev hy);have h3:=hs.heap
 have hO0:BD V s.hp b:=⟨f,b,_,by rw [G8 hM,hb];rfl,by rw [(hs.rowN hM hb).1];rfl⟩
 obtain ⟨hρ,us,q1,q2,q3⟩:=hs.rowN hM hb;show Calls P (ρr.f 6) #[U.eval x,U.eval y] w _;rw [r1,r0];have hn:0<k.length:=jV.2 hxs
 have hus:us=k.map λx=>pV (A x) 0:=by
  apply j0
  intro i;rw [ν]
  by_cases C:i<k.length
  .rw [ω C];obtain ⟨u,h1,h2,h4⟩:=q2.2.2 i (pD (A k[i]) 0) (by rw [ν,ω C];rfl) 0 (pD (A k[i]) 0) rfl;rw [ij,iT] at h1;rw [h1]
   cases h4 with
   | raw _=>rfl
  .have:us.length=k.length:=by have:=q2.1;rwa [χ,ij] at this
   rw [jO (by omega),jO (by omega)];rfl
 obtain ⟨r,p1,p2,p3,p3',p4⟩:∃r,w.heap[b]? =some (.cells r E (0,0))/\r.size=t/\k.length<=t/\t<=maxLen/\r.toList.take k.length=us:=by
  rcases q1.2 with ⟨_,h⟩ | ⟨K,cap',r,G,_,T,e3,e4,e5,e6⟩
  .rw [χ] at h;omega
  .rw [χ] at G;injection G with G e7 e8
   injection G with G
   injection G with G
   subst G e8;rw [χ] at e3 e6;exact ⟨r,T,by omega,e3,e4,by rwa [ij] at e6⟩
 rw [χ] at*;have hlt:b<w.heap.size:=(i6.1 p1).1;have hOb:F.O V s.hp b:= .inr hO0;have hOl:∀K,F.O V s.hp K ->K<w.heap.size:=λK h=>h3.ltO h
 let x0:τ:=k[0]
 let ix:Nat ->Nat:=λi=>if i<k.length then i else 0
 let el:Nat ->τ:=λi=>(k[ix i]?).getD x0
 have Q:∀i,el i∈k:=λi=>by
  have hix:ix i<k.length:=by show (if _ then _ else _)<_;split<;>omega
  show (k[ix i]?).getD x0∈k;rw [ω hix];exact ξ hix
 have X:∀i (C:i<k.length),el i=k[i]:=λi C=>by
  show (k[ix i]?).getD x0=_;rw [show ix i=i from ϱ C,ω C];rfl
 let o:Nat ->Value:=λi=>pV (A (el i)) 0
 let cf':Nat ->Nat ->Int:=λi j=>cf (el i) (el j)
 have hO':SWO (ltOf cf'):=⟨λx=>hO.irrefl (el x),λx y z=>hO.trans (el x) (el y) (el z),λx y z=>hO.ntrans (el x) (el y) (el z)⟩
 have henc1:OneCell o:=λ_=>rfl;have hd0:∀i,i<k.length ->(Array.range k.length)[i]! =i:=λi C=>by rw [getElem!_pos _ i (by simpa using C)];simp
 have hcu:∀i (C:i<k.length),r[i]? =some (pV (A k[i]) 0):=λi C=>by
  have:us[i]? =r.toList[i]?:=by rw [<-p4,je C]
  rw [hus,ν,ω C] at this;rw [<-ip];exact this.symm
 have hH:Holds o w b 0 (Array.range k.length):=by
  intro j J;simp only [jh] at J;rw [hd0 _ J];refine ⟨?_,?_⟩
  .simp only [World.cell?,p1,iR];rw [hcu j J];show _=some (pV (A (el j)) 0);rw [X j J];rfl
  .simp only [World.frozen?,p1]
   simp
 have hcmp:CmpLays1 P g #[] o cf' b 0 (Array.range k.length).size w:=by
  intro m os dk _ x y;have hWs:w.heap.size<=(sortWorld o w b 0 m dk os).heap.size:=HU
  let O':Nat ->Prop:=λK=>F.O V s.hp K/\K≠A (el x)/\K≠A (el y)
  have hne:∀i,A (el i)≠b:=λi e=>by
   have:=hpx _ (Q i);rw [e,hb] at this;cases this
  have W:∀i,i=x\/i=y ->AW (sortWorld o w b 0 m dk os) O' (.ptr (.agg (px (el i)))) (pV (A (el i)) 0):=λi C=>by
   obtain ⟨_,vs,c1,c2,c3,c4⟩:=hs.cellsN hM (hpx _ (Q i));have hl:A (el i)<w.heap.size:=(i6.1 c1).1
   have hOn:¬O' (A (el i)):=λh=>by
    rcases C with e | e
    .exact h.2.1 (by rw [e])
    .exact h.2.2 (by rw [e])
   show AW _ _ (.ptr (.agg (px (el i)))) (.pointer (some ⟨A (el i),0,none⟩));refine AW.ptr (x:= .agg (px (el i))) (λj=>vs.getD j undef) (ig hl hWs) hOn (h1x _ (Q i)) (λj c J=>?_) λj c J=>?_
   .have hj':j<vs.length:=by rw [c2];exact (φ.1 J).1
    simp only [World.cell?,rL (hne i) hl,c1,iR]
    simp [hj']
   .have hj':j<vs.length:=by rw [c2];exact (φ.1 J).1
    have I:vs[j]? =some vs[j]:=ω hj';have:vs.getD j undef=vs[j]:=by rw [Φ,I];rfl
    rw [this];exact (c3 j c _ J I).mono hWs (λK hl hno=>rL (λe=>hno (e▸hOb)) hl) (λ_ _ h=>h.1)
  refine (RP (hc (el x) (Q x) (el y) (Q y)) (w:=sortWorld o w b 0 m dk os) (O:=O') (λK h=>ig (hOl K h.1) hWs) (vs:=[pV (A (el x)) 0,pV (A (el y)) 0]) Z (λi a v S I=>?_)).mono λe w' ⟨v,G,T,e3,e4,e5⟩=>⟨?_,Od e3 e4 e5⟩
  .match i,S,I with
   | 0,S,I=>injection S with S;injection I with I;subst S I;exact .d (W x (.inl Z))
   | 1,S,I=>injection S with S;injection I with I;subst S I;exact .d (W y (.inr Z))
  .cases T with
   | raw _=>exact G
 have eg:∀args w,(callFunc g args).run P w= .ok (.enter g args) w:=enters_of hfn hnm hbody;have R:=Any.slices_SortFunc L o henc1 cf' hO' g #[] b 0 t (Array.range k.length) w eg hcmp hH hlt (by simpa using hsz);rw [jh] at R;refine R.mono λe w' ⟨G,Y,n,os,hp,hsort,hw⟩=>?_;subst G hw;obtain ⟨s1,_,s3⟩:=hp;rw [jh] at s1
 have hperm:Y.toList.Perm (List.range k.length):=by
  have G:Y.extract 0 k.length=Y:=by rw [<-s1];exact Array.extract_size
  have T:(Array.range k.length).extract 0 k.length=Array.range k.length:=by
   conv=>lhs;arg 3;rw [<-jh (n:=k.length)]
   exact Array.extract_size
  rw [G,T] at s3
  simpa using s3
 refine ⟨Z,?_⟩
 have hys:Y.toList.map el=B:=by
  apply hu
  .refine (hperm.map el).trans (List.Perm.of_eq ?_)
   apply i7 (by simp)
   intro i h5 h6;simp only [gq,kL];exact X i h6
  .rw [iS];intro i j C J hij;simp only [χ,j8] at C J;have:=hsort i j (ζ _) hij (by omega);rw [getElem!_pos _ j J,getElem!_pos _ i C] at this;simp only [ltOf,decide_eq_false_iff_not] at this
   simpa using this
 have hlen':B.length=k.length:=by rw [<-hys];simp [s1]
 -- the world: first what lies in the row, then the new blocks
 have hheap:(sortWorld o w b 0 n Y os).heap[b]? =some (.cells (putCells o 0 Y r) E (0,0)):=by
  unfold sortWorld;rw [Go.Sort.heap_grow_old _ _ (by rw [Go.Sort.size_putRow];exact hlt)];show (w.heap.modify b _)[b]? =_;rw [jd,ϱ Z,p1];rfl
 refine hs.writeG f b (.nr b E 1 t (k.map λx=>pD (A x) 0)) (.nr b E 1 t (B.map λx=>pD (A x) 0)) (by rw [G8 hM,hb];rfl) (λg i=>?_) Z Z Z HU (Nat.le_add_right _ _) (λK hl hno=>rL (λe=>hno (by rw [e,hρ];rfl)) hl) (λ_ _ e=>nomatch e) λhrep=>?_
 .rw [DU hh]
  by_cases e:g=f
  .subst e;rw [ϱ Z,G8 hM]
   by_cases T:i=b
   .subst T;rw [ϱ ⟨Z,Z⟩,Fu];rfl
   .rw [θ (λh=>T h.2),Hu T]
  .rw [θ e,θ (λh=>e h.1)]
 have hcs:(putCells o 0 Y r).size=t:=by simp only [putCells,Array.size_mapIdx];omega
 have N:(putCells o 0 Y r).toList.take B.length=B.map λx=>pV (A x) 0:=by
  apply j0
  intro i
  by_cases C:i<k.length
  .rw [je (by omega),ν,<-hys,ν,ip,ip,iH (by omega),iH (by omega)];simp only [putCells,Array.getElem_mapIdx,iY];rw [ϱ ⟨ζ _,by omega⟩];simp only [Nat.sub_zero];rw [getElem!_pos _ i (by omega)]
  .rw [jO (by rw [ϖ];omega),jO (by rw [χ];omega)]
 refine ⟨hρ,B.map λx=>pV (A x) 0,⟨by simp,.inr ⟨b,t,_,by simp only [χ],ζ _,hheap,by rw [χ,hlen'];exact p3,p3',by rw [hcs];omega,by rw [χ,ij,N]⟩⟩,⟨by simp,λx l=>?_,λi x l j c H=>?_⟩,λx l c H=>?_⟩
 .obtain ⟨y,_,rfl⟩:=Θ.1 l;rfl
 .rw [ν] at l
  cases gX:B[i]? with
  | none=>rw [gX] at l;cases l
  | some q=>
   rw [gX] at l;injection l with l;subst l
   match j,H with
   | 0,H=>
    injection H with H;subst H
    exact ⟨pV (A q) 0,by rw [ij,iT,ν,gX];rfl,Z,.raw Z⟩
 .obtain ⟨y,_,rfl⟩:=Θ.1 l
  cases H with
  | head=>rfl
  | tail _ h=>cases h
theorem YZ (L:SlLaysF.n6 P ρr) {b y:Operand}
  (G:ρr.f 6=s) (D:x.ev b=some (.d (.raw (.slice none 0 0)))) (R:x.ev y=some u) (I:Nat.blt t x.n=true):
  AH P F ⟨some t,.call {callee:= .value (.func s),args:= #[b,y],argTypes:=c},o,k,f,a⟩ x ⟨x.n,(t,.d (.tup []))::x.env,x.hp⟩ (λ_ _=>true):=by
 subst G;intro B h w A
 obtain ⟨K,r,l,j⟩:∃z,P.funcs[ρr.f 6]? =some z/\(z.name== "runtime.NumGoroutine")=false/\z.body.isSome=true:=by
  obtain ⟨Q,E,H⟩:=L.f6;exact ⟨_,H,E,Z⟩
 unfold Oper.wp;rw [show (#[b,y]:Array Operand)=[b,y].toArray from rfl,DG r l j,Oper.upon_enter];have C:=A.raw D;show Calls P (ρr.f 6) #[h.eval b,h.eval y] w _;rw [C];refine (AnyF.slices_SortFunc_none {L with} none 0 _ w).mono λe O ⟨N,M⟩=>?_;subst N M;exact ⟨B,A.put (IJ I) (.d (.tup Z λi g v J=>nomatch J)),λ_ _ _=>rfl⟩
end
end Go.Proofs.YteifpcnphnhaoaaGreat
namespace Go.Proofs.YteifpcnphnhaoaaGreat
open Go.RowKit Go.Shelf
variable {M:MF} {f a c:Nat ->Nat} {N:fv} {g:Nat} {h:Type} {i j k o:Nat} {t:TypeId} {s:Nat} {u:Ak}
set_option maxRecDepth 100000 in
theorem mU (x y:Po):AK prog 142 [.d (.ptr (.agg (kw x))),.d (.ptr (.agg (kw y)))] (AF (Bf x.r y.r)):=by
 refine At func142 Z Z ntmps142 Z Z Z λF a=>(AC ?_);refine AE (AB Z Z (AD (AC (CZ [[],[0],[0,1],[0,1,2],[],[4],[4,5],[4,5,6],rg 8,rg 9] mixed Z (CG (Av 0 Z Z (AU [5] Z (KE Z Z) (AU [6] Z (WX Z NV Z Z Z) ?_))))))));refine AU [7] Z (DM Z Z Cc Z) (Av 1 Z Z (AU [9] Z (KE Z Z) (AU [10] Z (WX Z NV Z Z Z) (AU [11] Z (DM Z Z Cc Z) (CB 8 Z Z Z (Ad 9 Z Z (J (As (MM x.r y.r) Z Z) (AD ⟨Z,?_⟩))))))));refine Ad 10 Z Z (AB Z Z (AD ⟨Z,?_⟩));refine CM (A4 ?_);exact ⟨_,[],[],A2 Z,Z,Z,Z,Z⟩
theorem Gr {m:Ak} (a:M i=none) (h:M s=some m):BZ M i u s=some m:=by grind [Hu]
theorem M6 (f:M i=none) {h:Hd} {b:List D} (a:BV M h t o b):BV (BZ M i u) h t o b:=by
 match h,a with
 | none,a=>exact a
 | some (g,c),a=>exact ⟨a.1,Gr f a.2⟩
theorem CU.fresh (h:CU j k c a N M) {m:Ak} (g:M i=none):CU j k c a N (BZ M i m):=
 ⟨λf x o=>Gr g (h.n f x o),λb y l=>Gr g (h.p b y l),⟨λr=>M6 g (h.rs.1 r),h.rs.2⟩,Gr g h.w,h.ni,h.pi,h.e,h.q⟩
def NX (f:Nat ->Nat) (k b:Nat):Nat ->Nat:=λj=>if j=k then b else f j
theorem DW {j:Nat} (h:j<o):NX f o g j=f j:=θ (by omega)
theorem G4:NX f o g o=g:=ϱ rfl
theorem QK:(List.range (o+1)).map (λj=>BX (NX f o g j))=(List.range o).map (λj=>BX (f j))++ [BX g]:=by grind [hU,G4,gi,DW]
abbrev Yy (nh:Hd) (a:Nat) (mh:Hd) (c mv:Nat):Ak:= .cells 180 [fy nh a,fy mh c,Lb (.map (some mv))]
theorem CU.keepM (h:CU j k c a N M) (u:Be M N.mh g=none) {v:Ak} {l:List D} (i:M s=some (.cells t l)):BZ (Be M N.mh) g v s=some (.cells t l):=
 Go.Proofs.YteifpcnphnhaoaaGreat.i3 u i λf o=>by have:=h.rs.blk (r:= .m) o;rw [i] at this;cases this
theorem Ly (l:List h) (y d:h) (j:Nat):(l++ [y]).getD j d=if j=l.length then y else l.getD j d:=by grind
theorem gy {l:List h} {d:h} (i:Nat):l.getD i d∈l\/l.getD i d=d:=by grind
theorem iq {l:List h} {y z:h} {i:Nat} (a:(l++ [y])[i]? =some z):(i<l.length/\l[i]? =some z)\/(i=l.length/\z=y):=by grind
theorem CU.addM (h:CU j k c a N M) {y:Po} (R:y.q=[]) (E:y.qh=none) {bn:Nat} (Y:M bn=some (Uu y)) (C:∀o,o<N.po.length ->a o≠bn) {cap:Nat} (J:Be M N.mh g=none) (U:N.po.length+1<=cap):
  CU j k c (NX a N.po.length bn) {N with po:=N.po++ [y],mh:=some (g,cap)} (BZ (BZ (Be M N.mh) g (.row Wq 1 cap ((List.range N.po.length).map (λo=>BX (a o))++ [BX bn]))) j (Yy N.nh N.nd.length (some (g,cap)) (N.po.length+1) k)):=by
 have I:∀i,((N.nd.getD i CQ).ef.map (dq (NX a N.po.length bn)))=(N.nd.getD i CQ).ef.map (dq a):=λi=>gi λe u=>by
  rcases gy (l:=N.nd) (d:=CQ) i with s | s
  .show D.agg [pD (NX a N.po.length bn e.1) 0,_]=_;rw [DW ((h.e _ s).1 e u)]
  .rw [s] at u;cases u
 have G:∀i,((N.nd.getD i CQ).pl.map (jx (NX a N.po.length bn)))=(N.nd.getD i CQ).pl.map (jx a):=λi=>gi λe u=>by
  rcases gy (l:=N.nd) (d:=CQ) i with s | s
  .show D.agg [pD (NX a N.po.length bn e.1) 0,_]=_;rw [DW ((h.e _ s).2 e u)]
  .rw [s] at u;cases u
 have X:∀r,r≠RI.m ->Ca c (NX a N.po.length bn) {N with po:=N.po++ [y],mh:=some (g,cap)} r=Ca c a N r:=λr T=>by
  cases r with
  | e i=>show (⟨_,_,_,(N.nd.getD i CQ).ef.map _⟩:gB)=_;rw [I];rfl
  | p i=>show (⟨_,_,_,(N.nd.getD i CQ).pl.map _⟩:gB)=_;rw [G];rfl
  | n=>rfl
  | m=>exact absurd Z T
  | q o=>
   show (⟨((N.po++ [y]).getD o Ce).qh,_,_,((N.po++ [y]).getD o Ce).q.map _⟩:gB)=⟨(N.po.getD o Ce).qh,_,_,(N.po.getD o Ce).q.map _⟩
   rw [Ly]
   split
   .rename_i e
    rw [R,E,Φ,jO (by omega)];rfl
   .rfl
 have w:=h.rs.upd (R':=Ca c (NX a N.po.length bn) {N with po:=N.po++ [y],mh:=some (g,cap)}) .m X (b:=g) (cap:=cap) J Z (by
  show ((List.range (N.po++ [y]).length).map _).length<=cap
  simp;exact U)
 have A:(Ca c (NX a N.po.length bn) {N with po:=N.po++ [y],mh:=some (g,cap)} .m).xs=(List.range N.po.length).map (λo=>BX (a o))++ [BX bn]:=by
  show (List.range (N.po++ [y]).length).map _=_;rw [Δ,ς,QK]
 rw [A] at w
 have B:∀(Q:Nat) (t:TypeId) (O:List D),t≠180 ->M Q=some (.cells t O) ->BZ (BZ (Be M N.mh) g (.row Wq 1 cap ((List.range N.po.length).map (λo=>BX (a o))++ [BX bn]))) j (Yy N.nh N.nd.length (some (g,cap)) (N.po.length+1) k) Q=some (.cells t O):=λQ t O S s=>by
  rw [Hu]
  .exact h.keepM J s
  .rintro rfl;rw [h.w] at s;injection s with s;injection s with s;exact S s.symm
 refine ⟨λi x F=>B _ _ _ (by decide) (h.n i x F),λi z v=>?_,w.cells (h.keepM J h.w),?_,h.ni,λi f H B e=>?_,λx F=>?_,λz v=>?_⟩
 .rcases iq v with ⟨L,K⟩ | ⟨L,K⟩
  .rw [DW L];exact B _ _ _ (by decide) (h.p i z K)
  .subst L K;rw [G4];exact B _ _ _ (by decide) Y
 .rw [Fu];show _=some (Ak.cells _ [_,fy _ (N.po++ [y]).length,_]);rw [Δ];rfl
 .have W:i<N.po.length+1:=by simpa using H
  have V:f<N.po.length+1:=by simpa using B
  by_cases e1:i=N.po.length<;>by_cases e2:f=N.po.length
  .omega
  .subst e1;rw [G4,DW (by omega)] at e;exact absurd e.symm (C f (by omega))
  .subst e2;rw [G4,DW (by omega)] at e;exact absurd e (C i (by omega))
  .rw [DW (by omega),DW (by omega)] at e;exact h.pi i f (by omega) (by omega) e
 .have:=h.e x F;refine ⟨λe u=>?_,λe u=>?_⟩
  .have:=this.1 e u;simp;omega
  .have:=this.2 e u;simp;omega
 .rcases υ.1 v with v | v
  .exact h.q z v
  .rw [η.1 v,R];intro i H;cases H
theorem CU.perm (h:CU j k c a N M) (U:N.nd=[]) (hqn:∀y∈N.po,y.q=[]/\y.qh=none) {u:List Nat} (X:u.Perm (List.range N.po.length)) {v:Nat} (V:N.mh=some (g,v)):
  CU j k c (λf=>a (u.getD f 0)) {N with po:=u.map λi=>N.po.getD i Ce} (BZ M g (.row Wq 1 v (u.map λo=>BX (a o)))):=by
 have I:u.length=N.po.length:=by rw [X.length_eq,gw]
 have E:∀f,f<u.length ->u.getD f 0<N.po.length:=λf Q=>by
  rw [FC 0 Q];exact Ψ.1 (X.mem_iff.1 (ξ Q))
 have hrow:=h.rs.blk (r:= .m) V
 have J:=(h.rs.1 .m)
 rw [show (Ca c a N .m).h=some (g,v) from V] at J
 have L:N.po.length<=v:=by
  have:=J.1;have e:((List.range N.po.length).map λo=>BX (a o)).length=N.po.length:=by simp
  exact e▸this
 have Q:∀(H:Nat) (t:TypeId) (cs:List D),M H=some (.cells t cs) ->BZ M g (.row Wq 1 v (u.map λo=>BX (a o))) H=some (.cells t cs):=λH t cs hm'=>by
  grind [Hu]
 have K:∀(l:List Po),(∀y∈l,y.q=[]/\y.qh=none) ->∀o,(l.getD o Ce).q=[]/\(l.getD o Ce).qh=none:=λl hl o=>by
  grind [Ce]
 have z:∀y∈u.map λi=>N.po.getD i Ce,y.q=[]/\y.qh=none:=λy T=>by
  grind
 refine ⟨λi x hx=>?_,λo y T=>?_,⟨λr=>?_,λr r' G s W C h2=>?_⟩,?_,h.ni,λi f B Z e=>?_,λx hx=>?_,λy T=>?_⟩
 .grind
 .have w:(u.map λi=>N.po.getD i Ce)[o]? =some y:=T;rw [ν] at w
  cases hj:u[o]? with
  | none=>rw [hj] at w;cases w
  | some i=>
   rw [hj] at w;have e:y=N.po.getD i Ce:=(Option.some.inj w).symm;have hjl:=(φ.1 hj).1;have B:=E o hjl;rw [He hj] at B;show BZ M g _ (a (u.getD o 0))=_;rw [He hj,e,FC Ce B];exact Q _ _ _ (h.p i _ (ω B))
 .cases r with
  | e i=> 
   have:N.nd.getD i CQ=CQ:=by rw [U];rfl
   show BV _ (N.nd.getD i CQ).eh _ _ ((N.nd.getD i CQ).ef.map _);rw [this];rfl
  | p i=> 
   have:N.nd.getD i CQ=CQ:=by rw [U];rfl
   show BV _ (N.nd.getD i CQ).ph _ _ ((N.nd.getD i CQ).pl.map _);rw [this];rfl
  | q o=>
   show BV _ ((u.map λi=>N.po.getD i Ce).getD o Ce).qh _ _ (((u.map λi=>N.po.getD i Ce).getD o Ce).q.map _);obtain ⟨e1,e2⟩:=K _ z o;rw [e1,e2];rfl
  | n=>
   have F:=h.rs.1 .n;show BV _ N.nh _ _ ((List.range N.nd.length).map _)
   cases hh:N.nh with
   | none=>show _=[];rw [U];rfl
   | some p=>
    obtain ⟨H,W⟩:=p;rw [show (Ca c a N .n).h=some (H,W) from hh] at F;refine ⟨by have:=F.1;exact this,?_⟩;rw [Hu]
    .exact F.2
    .rintro rfl;exact absurd (h.rs.2 .n .m H W v hh V) (by intro e;cases e)
  | m=>
   show BV _ N.mh _ _ ((List.range (u.map λi=>N.po.getD i Ce).length).map λf=>BX (a (u.getD f 0)))
   have e:((List.range (u.map λi=>N.po.getD i Ce).length).map λf=>BX (a (u.getD f 0)))=u.map λo=>BX (a o):=by
    apply i7 (by simp)
    intro f C h2;simp only [gq,kL];rw [FC 0 (by simpa using h2)]
   rw [e,V];exact ⟨by rw [χ,I];exact L,Fu _ _ _⟩
 .have A:∀r G s,(Ca c (λf=>a (u.getD f 0)) {N with po:=u.map λi=>N.po.getD i Ce} r).h=some (G,s) ->(Ca c a N r).h=some (G,s):=λr G s C=>by
   cases r with
   | e i=>exact C
   | p i=>exact C
   | n=>exact C
   | m=>exact C
   | q o=>
    have S:((u.map λi=>N.po.getD i Ce).getD o Ce).qh=some (G,s):=C;rw [(K _ z o).2] at S;cases S
  exact h.rs.2 r r' G s W (A _ _ _ C) (A _ _ _ h2)
 .have:=Q _ _ _ h.w;show _=some (Ak.cells _ [_,fy N.mh (u.map λi=>N.po.getD i Ce).length,_]);rw [χ,I];exact this
 .have R:i<u.length:=by simpa using B
  have O:f<u.length:=by simpa using Z
  have:=h.pi _ _ (E i R) (E f O) e;rw [FC 0 R,FC 0 O] at this;have Y:u.Nodup:=X.nodup_iff.2 List.nodup_range;exact (List.getElem_inj Y).1 this
 .have:x∈N.nd:=hx;rw [U] at this;cases this
 .intro i B;rw [(z y T).1] at B;cases B
end Go.Proofs.YteifpcnphnhaoaaGreat
namespace Go.Proofs.YteifpcnphnhaoaaGreat
open Go.RowKit
variable {T:List (AT×Int)} {a c:Type} {f:List (a×c)} {g:List AT} {h:List AI} {i:List Ac} {j:List (List (AT×Int))} {k:a} {o:AT×Int} {s:List a} {t:Nat ->Nat} {u:Nat} {z:Value} {w x:c} {y:a}
theorem c8 [DecidableEq a] (h:k∉f.map Prod.fst):BS f k w=f++ [(k,w)]:=by
 induction f with
 | nil=>rfl
 | cons p r g=>
  grind [BS]
theorem Gt [DecidableEq a] (h:k∉f.map Prod.fst):Aa f k x=x:=by
 induction f with
 | nil=>rfl
 | cons p r b=>
  grind [Aa]
theorem D6 [DecidableEq a] {g:a} (h:k≠g):Aa (f++ [(g,w)]) k x=Aa f k x:=by
 induction f with
 | nil=>simp only [jC,Aa];rw [θ h]
 | cons p r i=>
  grind [Aa]
theorem Dv [DecidableEq a] (h:k∉f.map Prod.fst):Aa (f++ [(k,w)]) k x=w:=by
 induction f with
 | nil=>simp [Aa]
 | cons p r g=>
  grind [Aa]
def VK {α:Type} (d:α) (f:Nat ->Nat) (l:List α):List (α×Value):=(List.range l.length).map λi=>(l.getD i d,pV (f i) 0)
theorem Np (d:a) (f:Nat ->Nat) (l:List a):(VK d f l).map Prod.fst=l:=by
 unfold VK;rw [gZ];refine i7 (by simp) λj c b=>?_
 grind
theorem W8 [DecidableEq a] {d:a} {f:Nat ->Nat} {b:Nat} (h:k∉s):BS (VK d f s) k (pV b 0)=VK d (NX f s.length b) (s++ [k]):=by
 rw [c8 (by rw [Np];exact h)];unfold VK;rw [Δ,ς,hU,Ω,List.map_singleton,G4]
 grind [gi,DW]
theorem W9 [DecidableEq a] [BEq a] [LawfulBEq a] (c:s.Nodup) {i:Nat} (b:i<s.length) (e:s[i]=k):Aa (VK y t s) k z=pV (t i) 0:=by
 refine D7 (by rw [Np];exact c) ?_;exact Θ.2 ⟨i,Ψ.2 b,by rw [FC y b,e]⟩
theorem od [DecidableEq a] (h:k∉s):Aa (VK y t s) k z=z:=Gt (by rw [Np];exact h)
def N7 (rs:List AT) (i j:Nat):Int:=Bf (rs.getD i GC) (rs.getD j GC)
theorem Qr (a:List AT):PC (N7 a):=PZ.comap λi=>a.getD i GC
def Hx (rs:List AT):List Nat:=(List.range rs.length).mergeSort λi j=>decide (N7 rs i j<=0)
theorem fK (a:List AT):(Hx a).Perm (List.range a.length):=List.mergeSort_perm _ _
theorem Y4 (E:g.Nodup) {l:List Nat} (v:l.Perm (List.range g.length)) (r:l.Pairwise λa b=>¬N7 g b a<0):l=Hx g:=by
 have k:∀f:List Nat,f.Perm (List.range g.length) ->(f.Pairwise λa b=>¬N7 g b a<0) ->f.Pairwise λa b=>N7 g a b<0:=λf u r=>by
  have s:f.Pairwise λa b=>a≠b:=u.nodup_iff.2 List.nodup_range;have F:∀x∈f,x<g.length:=λx w=>Ψ.1 (u.mem_iff.1 w);refine nR (λ{a b} H G h=>?_) (r.and s);have o:=(Qr g).anti a b
  by_cases C:N7 g a b=0
  .exfalso
   have I:=EY.1 C
   grind [List.getElem_inj]
  omega
 refine DP (R:=λa b=>N7 g a b<0) (λx=>by rw [(Qr g).refl];omega) (λx y z=>(Qr g).trans x y z) (k l v r) (k _ (fK g) ?_) λx=>v.mem_iff.trans (fK g).mem_iff.symm;have:=List.pairwise_mergeSort (le:=λi j=>decide (N7 g i j<=0)) (λa b c o A=>?_) (λa b=>?_) (List.range g.length)
 .refine List.Pairwise.imp (λ{a b} h=>?_) this;have o:=(Qr g).anti a b
  grind
 .have B:N7 g a b<=0:=by simpa using o
  have t:N7 g b c<=0:=by simpa using A
  have:N7 g a c<=0:=by
   by_cases D:N7 g a b=0
   .rw [(Qr g).eqv a b c D];exact t
   .by_cases K:N7 g b c=0
    .have N:=(Qr g).anti b c;have J:=(Qr g).eqv c b a (by omega);have M:=(Qr g).anti a c;have L:=(Qr g).anti a b;omega
    .have:=(Qr g).trans a b c (by omega) (by omega);omega
  grind
 .have o:=(Qr g).anti a b
  grind
abbrev Gb (D:List (AT×Int)) (r:AT):Int:=Aa D r 0
def fx (ds:List (List (AT×Int))) (r:AT):List Nat:=(List.range ds.length).filter λi=>decide (Gb (ds.getD i []) r<0)
def Jd (x:Ac):Po:=⟨x.r,x.n,0,none,[],0⟩
def Ym (ds:List (List (AT×Int))) (x:Ac):Po:=⟨x.r,x.n,(ds.map λD=>Gb D x.r).sum,none,fx ds x.r,0⟩
def WG (rs:List AT) (D:List (AT×Int)):List (Nat×Int):=(D.filter λd=>decide (d.1∈rs)).map λd=>(rs.idxOf d.1,d.2)
def Wu (rs:List AT) (ds:List (List (AT×Int))) (D:List (AT×Int)):List (Nat×Nat):=(D.filter λd=>decide (d.1∈rs) && decide (d.2<0)).map λd=>(rs.idxOf d.1,(fx ds d.1).length)
def nq (rs:List AT) (ds:List (List (AT×Int))) (x:AI) (D:List (AT×Int)):Nd:=⟨x,none,WG rs D,none,Wu rs ds D,true⟩
def KY (rs:List AT) (its:List AI) (k:Nat):List Nd:=(List.range k).map λi=>nq rs ((its.map A0).take i) (its.getD i Af) (A0 (its.getD i Af))
def FL (ro:List Ac) (its:List AI) (k:Nat):fv:=⟨KY (ro.map Ac.r) its k,ro.map (Ym ((its.map A0).take k)),none,none⟩
def EB (ro:List Ac) (its:List AI) (k t:Nat):fv:=⟨KY (ro.map Ac.r) its k++ [nq (ro.map Ac.r) ((its.map A0).take k) (its.getD k Af) ((A0 (its.getD k Af)).take t)],ro.map (Ym ((its.map A0).take k++ [(A0 (its.getD k Af)).take t])),none,none⟩
theorem WE (h:o.1∈g):WG g (T++ [o])=WG g T++ [(g.idxOf o.1,o.2)]:=by grind [WG]
theorem Ru (h:o.1∉g):WG g (T++ [o])=WG g T:=by grind [WG]
theorem bp (h:o.1∈g) (a:o.2<0):Wu g j (T++ [o])=Wu g j T++ [(g.idxOf o.1,(fx j o.1).length)]:=by grind [Wu]
theorem RW (h:¬(o.1∈g/\o.2<0)):Wu g j (T++ [o])=Wu g j T:=by grind [Wu]
theorem ZE (a:List (List (AT×Int))) (D:List (AT×Int)) (r:AT):fx (a++ [D]) r=fx a r++if Gb D r<0 then [a.length] else []:=by
 unfold fx;rw [Δ,ς,hU,iP]
 grind [jj]
theorem Fg (a:List (List (AT×Int))) (D:List (AT×Int)) (x:Ac):Ym (a++ [D]) x=⟨x.r,x.n,(Ym a x).sum+Gb D x.r,none,(Ym a x).q++(if Gb D x.r<0 then [a.length] else []),0⟩:=by
 unfold Ym;rw [ZE,Ω,jY]
 simp
theorem ZA:EB i h u 0=⟨(FL i h u).nd++ [⟨h.getD u Af,none,[],none,[],true⟩],(FL i h u).po,none,none⟩:=by
 unfold EB FL
 congr 1
 grind [gi,Fg,Ym,Aa]
theorem ZC (a:u<h.length):EB i h u (A0 (h.getD u Af)).length=FL i h (u+1):=by grind [EB,FL,KY,hU,ψ]
theorem ZB {t:Nat} (a:t<(A0 (h.getD u Af)).length) (b:((A0 (h.getD u Af))[t]).1∉i.map Ac.r):EB i h u (t+1)=EB i h u t:=by grind [EB,ψ,nq,Ru,RW,gi,Fg,D6]
theorem DY (x:AI):((A0 x).map Prod.fst).Nodup:=by
 unfold A0
 split
 .have:=Ox (gN x);show ((NB (gN x)).map Prod.fst).Pairwise _;rw [iW];refine this.imp λ{a b} h e=>?_;rw [e,PZ.refl] at h;omega
 .exact List.nodup_nil
theorem ZD (E:(i.map Ac.r).Nodup) {t j:Nat} (O:u<=h.length) (J:t<(A0 (h.getD u Af)).length) (C:j<i.length) (A:(i.map Ac.r).idxOf ((A0 (h.getD u Af))[t]).1=j) (B:((A0 (h.getD u Af))[t]).1∈i.map Ac.r) {x:Nd} {y:Po} (N:(EB i h u t).nd[u]? =some x) (I:(EB i h u t).po[j]? =some y):
  EB i h u (t+1)=⟨(EB i h u t).nd.set u (pw x j y.q.length ((A0 (h.getD u Af))[t]).2),(EB i h u t).po.set j (pv y u ((A0 (h.getD u Af))[t]).2),none,none⟩:=by
 obtain ⟨d,G⟩:∃d,(A0 (h.getD u Af))[t]=d:=⟨_,Z⟩
 rw [G] at A B⊢
 have v:d.1∉((A0 (h.getD u Af)).take t).map Prod.fst:=λb=>by
  grind [DY,kH]
 have K:(KY (i.map Ac.r) h u).length=u:=by unfold KY;simp
 have s:((h.map A0).take u).length=u:=by simp;omega
 have L:x=nq (i.map Ac.r) ((h.map A0).take u) (h.getD u Af) ((A0 (h.getD u Af)).take t):=by
  grind [EB]
 have l:(i.map (Ym ((h.map A0).take u++ [(A0 (h.getD u Af)).take t])))[j]? =some y:=I;rw [ν,ω C] at l;have H:y=Ym ((h.map A0).take u++ [(A0 (h.getD u Af)).take t]) i[j]:=(Option.some.inj l).symm
 have c:i[j].r=d.1:=by
  have g:=List.getElem_idxOf (kJ B);simp only [A,gq] at g;exact g
 have w:Gb ((A0 (h.getD u Af)).take t) d.1=0:=Gt v
 have D:y.q.length=(fx ((h.map A0).take u) d.1).length:=by
  rw [H,Fg,c,w];show (fx _ _++_).length=_;rw [c];simp
 unfold EB;rw [ψ J,G]
 congr 1
 .rw [List.set_append_right _ _ (by omega),K,Nat.sub_self,List.set_cons_zero]
  congr 2
  rw [L];unfold nq pw;rw [WE B,A,D]
  by_cases f:d.2<0
  .rw [bp B f,A,ϱ f]
  .rw [RW (λb=>f b.2),θ f]
 .refine j0 λa=>?_;rw [jm]
  by_cases e:j=a
  .subst e;rw [ϱ Z,ϱ (by simpa using C),ν,ω C];show some _=some _
   congr 1
   rw [H];unfold pv;rw [Fg,Fg,c];have g:Gb ((A0 (h.getD u Af)).take t++ [d]) d.1=d.2:=Dv v;rw [g,w,s,c.symm];simp only [Int.add_zero,Po.mk.injEq,true_and,and_true]
   by_cases f:d.2<0
   .simp [f]
   .simp [f]
  .rw [θ e,ν,ν]
   cases hi:i[a]? with
   | none=>rfl
   | some z=>
    show some _=some _
    congr 1
    have o:=(φ.1 hi)
    have F:z.r≠d.1:=λM=>e (by
     have g:(i.map Ac.r)[j]'(by simpa using C)=(i.map Ac.r)[a]'(by simpa using o.1):=by
      rw [gq,gq,o.2,c,M]
     exact (List.getElem_inj E).1 g)
    rw [Fg,Fg];have:Gb ((A0 (h.getD u Af)).take t++ [d]) z.r=Gb ((A0 (h.getD u Af)).take t) z.r:=D6 F;rw [this]
end Go.Proofs.YteifpcnphnhaoaaGreat
namespace Go.Proofs.YteifpcnphnhaoaaGreat
open Go.RowKit Go.Shelf
variable {a:Nat ->Prop} {w:World} {c:Value} {x:D}
def jo:D ->D
 | .sl (some true) []=> .raw (.slice none 0 0)
 | x=>x
def uy:D ->D
 | .agg cs=> .agg (cs.map jo)
 | x=>jo x
theorem cQ (x:D):(jo x).one=x.one:=by
 unfold jo
 split<;>rfl
theorem AW.nrm1 (h:AW w a x c):AW w a (jo x) c:=by
 unfold Go.Proofs.YteifpcnphnhaoaaGreat.jo
 split
 .cases h with
  | sl k i g f z u y A t=>
   rename_i b n s
   have r:=i true rfl
   have o:b=none:=by cases b with
    | none=>rfl
    | some _=>cases r
   subst o;have l:=g rfl;have j:n=0:=f.symm;subst l j;exact .raw rfl
 .exact h
theorem AW.nrm (h:AW w a x c):AW w a (uy x) c:=by
 unfold Go.Proofs.YteifpcnphnhaoaaGreat.uy
 split
 .rename_i l
  cases h with
  | agg k o j=>
   refine .agg (by rw [k,χ]) (λb f=>?_) λi b c f g=>?_
   .grind [cQ]
   .rw [ν] at f
    cases hd:l[i]? with
    | none=>rw [hd] at f;cases f
    | some d=>
     rw [hd] at f;injection f with f;subst f
     exact (j i d c hd g).nrm1
 .exact h.nrm1
section
variable {P:Program} {F:Fr} {Q:Exit ->AS ->Prop} {ops:Array Oper} {l:List Oper} {n:Nat} {env:List (Nat×AV)} {hp:Hp}
theorem cL (t:Nat) {x:D} (k:get env t=some (.d x)) (h:Aj P F ops l Q ⟨n,(t,.d (uy x))::env,hp⟩):Aj P F ops l Q ⟨n,env,hp⟩:=λi c w b=>h i c w ⟨b.size,b.defs,λj a f=>by
 rcases MU f with ⟨rfl,rfl⟩ | ⟨_,f⟩
 .have g:=b.env t _ k
  generalize c.tmps.getD t undef=v at g⊢
  cases g with
  | d h=>exact .d h.nrm
 .exact b.env j a f,b.heap⟩
end
variable {N:fv} {M:MF} {a:List AI} {c:List Ac} {y:Po} {x:Nd} {i f:Nat}
def bB (M:MF) (h:Hd) (E:TypeId) (ys:List D):MF:=match h with
 | none=>M
 | some (b,c)=>BZ M b (.row E 1 c ys)
theorem ZZ {f:Nat}:∀(H a:Hp),fc H f=some [.multi M] ->Bi H f M=some a ->a=H:=by
 intro H
 induction H with
 | nil=>intro a h;cases h
 | cons p r b=>
  grind [fc,Bi]
theorem am {P:Program} {r:Ren} {j:Type} (L:SlLaysF.n6 P r) {E:TypeId} {g g6:FuncId} {T:Func} (Q:P.funcs[g]? =some T) (N:(T.name== "runtime.NumGoroutine")=false) {c:Code} (o:T.body=some c)
  {bl:j ->Nat} {px:j ->List D} {tx:j ->TypeId} (G:j ->j ->Int) (hO:Go.Sort.SWO (ltOf G)) (i k:List j) (J:i.length<4611686018427387904) (hc:∀x∈i,∀y∈i,AK P g [.d (.ptr (.agg (px x))),.d (.ptr (.agg (px y)))] (.raw (.int .i64 (G x y))))
  (hu:∀H:List j,H.Perm i ->H.Pairwise (λa b=>¬G b a<0) ->H=k)
  {F:Fr} {s:AS} {d:Nat} {x y:Operand} {ty:TypeId} {I:String} {V:Array Edge} {gd:Option (Nat×Bool)} {U:Array TypeId} {f n:Nat} {h:Hd} {fa:AV} {t:List D} {A:Hp}
  (X:r.f 6=g6) (Z:fc s.hp f=some [.multi M]) (K:∀x∈i,M (bl x)=some (.cells (tx x) (px x))) (S:∀x∈i,∀c∈px x,c.one=true) (u:s.ev x=some (.d (fy h n))) (W:s.ev y=some fa) (R:∀w O ρ v,A6 w O ρ fa v ->v= .func (.func g) #[] #[]) (C:BV M h E 1 t) (z:t=i.map λx=>pD (bl x) 0) (hn:n=i.length) (l:h≠none ->i≠ []) (B:Bi s.hp f (bB M h E (k.map λx=>pD (bl x) 0))=some A) (Y:Nat.blt d s.n=true):
  AH P F ⟨some d,.call {callee:= .value (.func g6),args:= #[x,y],argTypes:=U},ty,I,V,gd⟩ s ⟨s.n,(d,.d (.tup []))::s.env,A⟩ (λ_ _=>true):=by
 match h,u,C,B,l with
 | none,u,C,B,_=>
  rw [ZZ _ _ Z B];exact YZ L X u W Y
 | some (b,cap),u,C,B,l=>exact al L Q N o G hO i k J hc hu X Z K S u W R C.2 z hn (l (by simp)) B Y
theorem uR (h k:Nat) (o l:Nat ->Nat) (s:M h=some (Yy none 0 none 0 k)):CU h k o l ⟨[],[],none,none⟩ M:=by
 refine ⟨λi x f=>by simp at f,λj y a=>by simp at a,⟨λr=>?_,λr u b c w t v=>?_⟩,s,λi j g _=>by simp at g,λi j g _=>by simp at g,λx f=>(by cases f),λy a=>(by cases a)⟩
 .cases r<;>rfl
 .cases r<;>cases t
structure Fw (p:fj):Prop where
 i:p.it.length<=30
 r:p.ro.length<=100
 x:∀x∈p.it,x.po.length<=12/\x.pa.length<=12/\x.af.length<=12
def fR (x:AI):Prop:=x.po.length<=12/\x.pa.length<=12/\x.af.length<=12
theorem Fw.b {p:fj} (h:Fw p):E1 p:=⟨by have:=h.r;omega,by have:=h.i;omega,λi a=>by have:=h.x i a;omega⟩
theorem R0 {g f:Type} {l:List (g×f)} (h:(l.map Prod.fst).Nodup):l.Nodup:=by
 have c:(l.map Prod.fst).Pairwise (λa b=>a≠b):=h;rw [iW] at c;exact c.imp λ{a b} h e=>h (by rw [e])
theorem NZ {x:AI} (h:fR x):(A0 x).length<=60:=by
 unfold A0
 split
 .have g:(eD x).length<=(gN x).length:=by
   have f:(NB (gN x)).length<=(fq (gN x)).length:=by
    have c:(NB (gN x)).Perm ((fq (gN x)).filter λd=>decide (d.2≠0)):=by
     refine (List.perm_ext_iff_of_nodup ?_ ?_).2 λd=>?_
     .have:=Ox (gN x);refine this.imp λ{a b} h e=>?_;rw [e,PZ.refl] at h;omega
     all_goals (grind [R0,F8,LE])
    rw [c.length_eq]
    grind
   exact gJ f (IN _)
  have:=Hq x;have:=h.1;have:=h.2.1;omega
 simp
theorem LD (x:AI):P2 (A0 x):=by
 unfold A0
 split
 .rename_i b
  intro d a;exact oL b d ((LE _ _).1 a).1
 .intro d a;cases a
theorem Xq {D:List (AT×Int)} (h:P2 D) (r:AT): -1000000000000000<=Gb D r/\Gb D r<=1000000000000000:=by
 unfold Gb
 induction D with
 | nil=>simp [Aa]
 | cons d D a=>
  grind [Aa,P2]
theorem We:∀{ds:List (List (AT×Int))} (_:∀D∈ds,P2 D) (r:AT),-(ds.length*1000000000000000)<=(ds.map λD=>Gb D r).sum/\(ds.map λD=>Gb D r).sum<=ds.length*1000000000000000
 | [],_,r=>by simp
 | D::ds,h,r=>by
  have c:=Xq (h D (iG ..)) r;have b:=We (ds:=ds) (λD a=>h D (i5 _ a)) r;simp only [iV,List.sum_cons,jZ];omega
theorem KX (a:List (List (AT×Int))) (r:AT):(fx a r).length<=a.length:=by
 unfold fx
 grind
theorem Xe (a:List AT) (D:List (AT×Int)):(WG a D).length<=D.length:=by
 unfold WG;rw [χ];exact gz _ _
theorem Wt (a:List AT) (b:List (List (AT×Int))) (D:List (AT×Int)):(Wu a b D).length<=D.length:=by
 unfold Wu;rw [χ];exact gz _ _
theorem di (h:N.nd[i]? =some x):(BG N).nd[i]? =some (Ez x):=by
 show (N.nd.map Ez)[i]? =_
 grind
theorem dh (h:N.po[i]? =some y):(BG N).po[i]? =some (Cd y):=by
 show (N.po.map Cd)[i]? =_
 grind
theorem fL (M:a.length<=30) (r:∀x∈a,fR x) {k t j:Nat} (i:k<a.length) (h:BG N=EB c a k t) (E:N.nd[k]? =some x) (C:N.po[j]? =some y):
  (-1000000000000000000<=y.sum/\y.sum<=1000000000000000000)/\x.ef.length<=100000/\x.pl.length<=100000/\y.q.length<=100000:=by
 have o:=di E;have l:=dh C;rw [h] at o l;have u:(KY (c.map Ac.r) a k).length=k:=by unfold KY;simp
 have A:(A0 (a.getD k Af)).length<=60:=NZ (r _ (by rw [FC Af i];exact ξ i));have g:(KY (c.map Ac.r) a k++ [nq (c.map Ac.r) ((a.map A0).take k) (a.getD k Af) ((A0 (a.getD k Af)).take t)])[k]? =some (Ez x):=o;rw [List.getElem?_append_right (by omega),u,Nat.sub_self] at g;have G:Ez x=_:=(Option.some.inj g).symm;have K:x.ef=(Ez x).ef:=rfl;have J:x.pl=(Ez x).pl:=rfl;have b:(c.map (Ym ((a.map A0).take k++ [(A0 (a.getD k Af)).take t])))[j]? =some (Cd y):=l;rw [ν] at b
 cases hj:c[j]? with
 | none=>rw [hj] at b;cases b
 | some z=>
  rw [hj] at b;have F:Cd y=Ym ((a.map A0).take k++ [(A0 (a.getD k Af)).take t]) z:=(Option.some.inj b).symm;have I:y.sum=(Cd y).sum:=rfl;have H:y.q=(Cd y).q:=rfl;have w:((a.map A0).take k++ [(A0 (a.getD k Af)).take t]).length<=31:=by simp;omega
  have B:=We (ds:=(a.map A0).take k++ [(A0 (a.getD k Af)).take t]) (λD f=>by
   rcases υ.1 f with f | f
   .obtain ⟨x,_,rfl⟩:=Θ.1 (iQ f);exact LD x
   .rw [η.1 f];exact (LD _).take t) z.r
  have L:=KX ((a.map A0).take k++ [(A0 (a.getD k Af)).take t]) z.r;have v:=Xe (c.map Ac.r) ((A0 (a.getD k Af)).take t);have s:=Wt (c.map Ac.r) ((a.map A0).take k) ((A0 (a.getD k Af)).take t);rw [ϖ] at v s;rw [K,J,I,H,G,F];unfold Ym nq;dsimp only
  generalize (List.map (λD=>Gb D z.r) (List.take k (List.map A0 a)++ [List.take t (A0 (a.getD k Af))])).sum=S at B⊢
  generalize (List.take k (List.map A0 a)++ [List.take t (A0 (a.getD k Af))]).length=m at*
  omega
theorem qy (b:(c.map Ac.r).Nodup) {k t j:Nat} (v:k<a.length) (s:t<(A0 (a.getD k Af)).length) {f:fv} (h:BG N=EB c a k t) (u:(c.map Ac.r).idxOf ((A0 (a.getD k Af))[t]).1=j) (l:((A0 (a.getD k Af))[t]).1∈c.map Ac.r) {i:Nd} {g:Po} (A:N.nd[k]? =some x) (z:N.po[j]? =some y)
  (E:f.nd=N.nd.set k i) (C:Ez i=Ez (pw x j y.q.length ((A0 (a.getD k Af))[t]).2)) (D:f.po=N.po.set j g) (B:Cd g=Cd (pv y k ((A0 (a.getD k Af))[t]).2)):BG f=EB c a k (t+1):=by
 have r:=di A;have o:=dh z
 have w:j<c.length:=by
  have:=kJ l
  grind
 rw [h] at r o;rw [ZD b (Nat.le_of_lt v) s w u l r o,<-h];unfold BG;dsimp only;rw [E,D,List.map_set,List.map_set,C,B]
 rfl
theorem FF.del {R:RI ->gB} (h:FF M R) {t:TypeId} {g:List D} (i:M f=some (.cells t g)):FF (FB M f) R:=by
 refine ⟨λr=>?_,h.2⟩;have a:=h.1 r
 cases hh:(R r).h with
 | none=>rw [hh] at a;exact a
 | some p=>
  obtain ⟨j,c⟩:=p;rw [hh] at a;refine ⟨a.1,?_⟩;rw [H4]
  .exact a.2
  .rintro rfl;have:=a.2
   grind
theorem CU.addN2 {v I:Nat} {a w:Nat ->Nat} (h:CU v I a w N M) {x:Nd} (C:x.ef=[]) (Q:x.eh=none) (B:x.pl=[]) (O:x.ph=none) {bn:Nat} (hM:M bn=some (Uv x)) (H:∀j,j<N.nd.length ->a j≠bn) {cap:Nat} (U:Be (FB M v) N.nh f=none) (Y:N.nd.length+1<=cap) {wb':Nat} (E:BZ (Be (FB M v) N.nh) f (.row bj 1 cap ((List.range N.nd.length).map (λj=>BX (a j))++ [BX bn])) wb'=none):
  CU wb' I (NX a N.nd.length bn) w {N with nd:=N.nd++ [x],nh:=some (f,cap)} (BZ (BZ (Be (FB M v) N.nh) f (.row bj 1 cap ((List.range N.nd.length).map (λj=>BX (a j))++ [BX bn]))) wb' (Yy (some (f,cap)) (N.nd.length+1) N.mh N.po.length I)):=by
 have X:∀j,((N.po.getD j Ce).q.map λi=>BX (NX a N.nd.length bn i))=(N.po.getD j Ce).q.map λi=>BX (a i):=λj=>gi λe o=>by
  rcases gy (l:=N.po) (d:=Ce) j with g | g
  .rw [DW (h.q _ g e o)]
  .rw [g] at o;cases o
 have hR:∀r,r≠RI.n ->Ca (NX a N.nd.length bn) w {N with nd:=N.nd++ [x],nh:=some (f,cap)} r=Ca a w N r:=λr W=>by
  cases r with
  | q j=>show (⟨_,_,_,(N.po.getD j Ce).q.map _⟩:gB)=_;rw [X];rfl
  | m=>rfl
  | n=>exact absurd Z W
  | e i=>
   show (⟨((N.nd++ [x]).getD i CQ).eh,_,_,((N.nd++ [x]).getD i CQ).ef.map _⟩:gB)=⟨(N.nd.getD i CQ).eh,_,_,(N.nd.getD i CQ).ef.map _⟩
   rw [Ly]
   split
   .rename_i e
    rw [C,Q,Φ,jO (by omega)];rfl
   .rfl
  | p i=>
   show (⟨((N.nd++ [x]).getD i CQ).ph,_,_,((N.nd++ [x]).getD i CQ).pl.map _⟩:gB)=⟨(N.nd.getD i CQ).ph,_,_,(N.nd.getD i CQ).pl.map _⟩
   rw [Ly]
   split
   .rename_i e
    rw [B,O,Φ,jO (by omega)];rfl
   .rfl
 have T:=h.rs.del h.w
 have u:=T.upd (R':=Ca (NX a N.nd.length bn) w {N with nd:=N.nd++ [x],nh:=some (f,cap)}) .n hR (b:=f) (cap:=cap) U Z (by
  show ((List.range (N.nd++ [x]).length).map _).length<=cap
  simp;exact Y)
 have F:(Ca (NX a N.nd.length bn) w {N with nd:=N.nd++ [x],nh:=some (f,cap)} .n).xs=(List.range N.nd.length).map (λj=>BX (a j))++ [BX bn]:=by
  show (List.range (N.nd++ [x]).length).map _=_;rw [Δ,ς,QK]
 rw [F] at u
 have G:∀(K:Nat) (t:TypeId) (J:List D),t≠180 ->M K=some (.cells t J) ->BZ (BZ (Be (FB M v) N.nh) f (.row bj 1 cap ((List.range N.nd.length).map (λj=>BX (a j))++ [BX bn]))) wb' (Yy (some (f,cap)) (N.nd.length+1) N.mh N.po.length I) K=some (.cells t J):=λK t J V g=>by
  refine Gr E ?_
  have A:FB M v K=some (.cells t J):=by
   rw [H4]
   .exact g
   .rintro rfl;rw [h.w] at g;injection g with g;injection g with g;exact V g.symm
  exact Go.Proofs.YteifpcnphnhaoaaGreat.i3 U A λc hc=>by have:=T.blk (r:= .n) hc;rw [A] at this;cases this
 refine ⟨λi z s=>?_,λj y L=>G _ _ _ (by decide) (h.p j y L),⟨λr=>M6 E (u.1 r),u.2⟩,?_,λi k R G e=>?_,h.pi,λz s=>?_,λy L=>?_⟩
 .rcases iq s with ⟨A,S⟩ | ⟨A,S⟩
  .rw [DW A];exact G _ _ _ (by decide) (h.n i z S)
  .subst A S;rw [G4];exact G _ _ _ (by decide) hM
 .rw [Fu];show _=some (Ak.cells _ [fy _ (N.nd++ [x]).length,_,_]);rw [Δ];rfl
 .have hi':i<N.nd.length+1:=by simpa using R
  have hk':k<N.nd.length+1:=by simpa using G
  by_cases e1:i=N.nd.length<;>by_cases e2:k=N.nd.length
  .omega
  .subst e1;rw [G4,DW (by omega)] at e;exact absurd e.symm (H k (by omega))
  .subst e2;rw [G4,DW (by omega)] at e;exact absurd e (H i (by omega))
  .rw [DW (by omega),DW (by omega)] at e;exact h.ni i k (by omega) (by omega) e
 .rcases υ.1 s with s | s
  .exact h.e z s
  .have e:=η.1 s;subst e;refine ⟨λe o=>?_,λe o=>?_⟩
   .rw [C] at o;cases o
   .rw [B] at o;cases o
 .intro i R;have:=h.q y L i R
  simp;omega
section
variable {P:Program} {F:Fr} {s:AS} {d:Nat} {ty T T' E:TypeId} {pos:String} {aft:Array Edge} {g:Option (Nat×Bool)} {x:Operand}
theorem Sf {p:Option Addr} (b:P.underlying T=some (.pointer E)) (c:s.ev x=some (.d (.raw (.pointer p)))) (j:Nat.blt d s.n=true):AA P F ⟨some d,.binOp .neq T x (.const (.pointer none)) T',ty,pos,aft,g⟩ s d (.d (.raw (.bool (!p.isNone)))):=
 Cv _ j λl a w h=>by
  have f:=h.raw c;have i:P.pointee T=E:=by unfold Program.pointee;rw [b]
  have k:a.eval (.const (.pointer none))= .pointer none:=rfl;exact ⟨.bool (!p.isNone),by simp [execOp,f,k,UD,binOp,run_equal_pointer_nil w T p (by rw [i];exact b)],.d (.raw Z)⟩
end
section
variable {P:Program} {F:Fr} {s:AS} {d:Nat} {ty T:TypeId} {pos:String} {aft:Array Edge} {g:Option (Nat×Bool)} {x:Operand}
theorem Y0 (r k:Nat) {f j b f2 l m:Nat} {t:TypeId} {u:List AV} (z:s.ev x=some (.ptr f j b)) (B:fb s.hp f j=some (.blk t u)) (E:u[b]? =some (.d (.raw (.map (some m))))) (C:fb s.hp r k=some (.addr f2 l (.map (some m)))) (G:BQ P T=true) (D:Nat.blt d s.n=true):
  AA P F ⟨some d,.load T x,ty,pos,aft,g⟩ s d (.map f2 l):=by
 have h:=AP (F:=F) (ty:=ty) (pos:=pos) (aft:=aft) (g:=g) z B E G D;refine ⟨h.1,h.2.1,λy i w o=>?_⟩;refine nI (λa J ⟨v,I,c,H⟩=>⟨v,I,?_,H⟩) (h.2.2 y i w o)
 cases c with
 | d c=>cases c with
  | raw _=>
   obtain ⟨_,A⟩:=o.heap.sim r k _ C;exact .map A
end
variable {a:List AI} {c:List Ac} {k:Nat} {N:fv} {f:fj} {g:Nat ->Nat} {h:List Nat} {i:List AT} {j:Hd} {o:List Ac} {X:AI} {t:Nat} {M:MF} {s:Nat} {y:Po} {u w:Nat}
def DT (p:fj):List Ac:=(Hx (p.ro.map Ac.r)).map λi=>p.ro.getD i IR
def Oi (y:Po):Po:={y with mi:=y.q.length}
def cW (p:fj):fv:=⟨(FL (DT p) (fk p) (fk p).length).nd,(FL (DT p) (fk p) (fk p).length).po.map Oi,none,none⟩
theorem cS {a:Type} {f:Ac ->a} (h:(o.map f).Nodup) (k:Nat):((o.take k).map f).Nodup:=by grind
theorem cT {f:Ac ->AT} (h:(o.map f).Nodup) (c:k<o.length):f o[k]∉(o.take k).map f:=λb=>by
 have a:=cS h (k+1);rw [EH c,jn] at a;exact a.2.2 _ b _ (List.mem_singleton_self _) rfl
theorem HY (c:Az f=0):(f.ro.map Ac.r).Nodup:=by
 have g:=Ul.1 (PR c).1;rw [List.Nodup,iW,iS];intro i j h a b e;have:=g j (Ψ.2 a)
 grind [JU,GZ]
theorem sS (l:i.Nodup) (k:h.Perm (List.range i.length)) {f:Nat ->Nat} {r:AT} {z:Value} (o:r∈h.map λa=>i.getD a GC):Aa (VK GC f i) r z=pV (f (h.getD ((h.map λa=>i.getD a GC).idxOf r) 0)) 0:=by
 have b:=kJ o;have c:=List.getElem_idxOf b
 generalize (h.map λa=>i.getD a GC).idxOf r=j at b c⊢
 rw [χ] at b;rw [gq] at c;have g:h[j]<i.length:=Ψ.1 (k.mem_iff.1 (ξ b));rw [FC GC g] at c;rw [FC 0 b];exact W9 l g c
theorem oz (g:h.Perm (List.range i.length)) {f:Nat ->Nat} {r:AT} {z:Value} (j:r∉h.map λa=>i.getD a GC):Aa (VK GC f i) r z=z:=by
 refine od λb=>j ?_;obtain ⟨a,c,e⟩:=hY b;exact Θ.2 ⟨a,g.mem_iff.2 (Ψ.2 c),by rw [FC GC c,e]⟩
theorem VZ (p:fj):(DT p).map Ac.r=(Hx (p.ro.map Ac.r)).map λi=>(p.ro.map Ac.r).getD i GC:=by grind [DT,gi,IR,GC]
theorem kt (y:Po):∀c∈kw y,c.one=true:=by
 intro c a;simp only [Υ,List.not_mem_nil,or_false] at a;rcases a with rfl | rfl | rfl | rfl | rfl | rfl | rfl | rfl | rfl | rfl<;>rfl
theorem bA (p:fj):∀i∈List.range p.ro.length,∀j∈List.range p.ro.length,AK prog 142 [.d (.ptr (.agg (kw (Jd (p.ro.getD i IR))))),.d (.ptr (.agg (kw (Jd (p.ro.getD j IR)))))] (.raw (.int .i64 (N7 (p.ro.map Ac.r) i j))):=by grind [mU,Jd,N7]
theorem kd (c:CU u w (λ_=>0) g ⟨[],f.ro.map Jd,none,j⟩ M):∀i∈List.range f.ro.length,M (g i)=some (.cells 190 (kw (Jd (f.ro.getD i IR)))):=λi b=>by
 have a:=Ψ.1 b;refine c.p i (Jd (f.ro.getD i IR)) ?_;show (f.ro.map Jd)[i]? =_;rw [ν,ω a,FC IR a];rfl
theorem az (l:CU u w (λ_=>0) g ⟨[],f.ro.map Jd,none,j⟩ M):
  CU u w (λ_=>0) (λk=>g ((Hx (f.ro.map Ac.r)).getD k 0)) ⟨[],(DT f).map Jd,none,j⟩ (bB M j Wq ((Hx (f.ro.map Ac.r)).map λx=>pD (g x) 0)):=by
 have v:(Hx (f.ro.map Ac.r)).Perm (List.range (f.ro.map Jd).length):=by
  grind [fK]
 have s:(Hx (f.ro.map Ac.r)).map (λi=>(f.ro.map Jd).getD i Ce)=(DT f).map Jd:=by
  grind [DT,gi]
 cases hmh:j with
 | some q=>
  obtain ⟨b,c⟩:=q;subst hmh;have h:=l.perm Z (λy o=>by obtain ⟨x,_,rfl⟩:=Θ.1 o;exact ⟨Z,Z⟩) v rfl;dsimp only at h;rw [s] at h;exact h
 | none=>
  subst hmh;have C:BV M none Wq 1 ((List.range (f.ro.map Jd).length).map λa=>BX (g a)):=l.rs.1 .m;have t:=Um C rfl;rw [gw,χ] at t;have B:f.ro=[]:=jU t
  have A:(DT f).map Jd=f.ro.map Jd:=by
   simp_all
  rw [A];rw [B] at l⊢;exact ⟨l.n,λa y o=>by simp at o,⟨λr=>by cases r<;>rfl,λr E b c G D F=>by cases r<;>cases D⟩,l.w,l.ni,λi a z _ _=>by simp at z,l.e,l.q⟩
theorem Yz (a:List Ac) (b:List AI):BG ⟨[],a.map Jd,none,j⟩=FL a b 0:=by
 unfold BG FL KY;dsimp only;rw [gZ]
 rfl
theorem GL (a:Az f=0):((fk f).map AI.id).Nodup:=by
 have b:fk f=BK f.it:=ϱ a;rw [b];exact ((Zs f.it).map AI.id).nodup_iff.2 (D9 (PR a).2.1)
theorem OB (a:Az f=0):((DT f).map Ac.r).Nodup:=by grind [DT,fK,χ,i7,FC,HY]
theorem QT {l:List AI} (h:(l.map AI.id).Nodup) (c:k<l.length):l[k].id∉(l.take k).map AI.id:=λb=>by
 have a:((l.take (k+1)).map AI.id).Nodup:=h.sublist ((List.take_sublist (k+1) l).map AI.id);rw [EH c,jn] at a;exact a.2.2 _ b _ (List.mem_singleton_self _) rfl
theorem pR (h:BG N=FL c a k):N.nd.length=k:=by grind [KY,χ,BG,FL]
theorem oy (h:BG N=FL c a k):N.po.length=c.length:=by grind [χ,BG,FL]
theorem nJ {x:AI} {nh:Hd} (b:a.getD k Af=x) (h:BG N=FL c a k):BG {N with nd:=N.nd++ [⟨x,none,[],none,[],true⟩],nh:=nh}=EB c a k 0:=by
 subst b;rw [ZA,<-h];unfold BG;dsimp only;rw [Ω];rfl
theorem nL (g:a.getD k Af=X) (b:t<(A0 X).length) (f:((A0 X)[t]).1∉c.map Ac.r):EB c a k (t+1)=EB c a k t:=by
 subst g;exact ZB b f
theorem nK {b:List Ac} (v:a.getD k Af=X) (i:(b.map Ac.r).Nodup) (u:k<a.length) (l:t<(A0 X).length) {c:fv} (h:BG N=EB b a k t) (o:(b.map Ac.r).idxOf ((A0 X)[t]).1=s) (r:((A0 X)[t]).1∈b.map Ac.r) {x g:Nd} {f:Po} (z:N.nd[k]? =some x) (w:N.po[s]? =some y)
  (D:c.nd=N.nd.set k g) (B:Ez g=Ez (pw x s y.q.length ((A0 X)[t]).2)) (C:c.po=N.po.set s f) (A:Cd f=Cd (pv y k ((A0 X)[t]).2)):BG c=EB b a k (t+1):=by grind [qy]
theorem uq (h:BG N=EB c a k t):N.nd.length=k+1:=by grind [KY,Δ,BG,EB]
theorem uo (h:BG N=EB c a k t):N.po.length=c.length:=by
 have b:=gG (λN=>N.po.length) h;have f:(N.po.map Cd).length=(c.map _).length:=b
 grind
theorem nM (f:a.getD k Af=X) (b:k<a.length):EB c a k (A0 X).length=FL c a (k+1):=by
 subst f;exact ZC b
theorem qJ (h:BG N=FL c a a.length):B4 N=a.map AI.id:=by
 have j:N.nd.map Ez=KY (c.map Ac.r) a a.length:=gG (λN=>N.nd) h;have g:B4 N=(N.nd.map Ez).map λx=>x.it.id:=by unfold B4;rw [gZ];rfl
 rw [g,j];unfold KY;rw [gZ]
 apply i7 (by simp)
 intro i f b;simp only [gq,kL,Function.comp];show (a.getD i Af).id=_
 grind
theorem d6 {b a:List Po} (f:s<b.length) (h:a=(b.take s).map Oi++b.drop s) (c:a[s]? =some y):a.set s (Oi y)=(b.take (s+1)).map Oi++b.drop (s+1):=by grind [χ,kI]
theorem lO (g:fk f=a) (b:DT f=c):cW f=⟨(FL c a a.length).nd,(FL c a a.length).po.map Oi,none,none⟩:=by
 unfold cW;rw [g,b]
theorem cU {b:fv} (f:BG N=FL c a a.length) (h:b.nd=N.nd) (g:b.po=N.po.map Oi):BG b=⟨(FL c a a.length).nd,(FL c a a.length).po.map Oi,none,none⟩:=by
 rw [<-f];unfold BG;dsimp only;rw [h,g,gZ,gZ]
 rfl
set_option maxRecDepth 100000 in
set_option maxHeartbeats 2000000 in
theorem U6 (p:fj) (hf:Fw p) (hE:Az p=0):AO prog 96 [.d (Bq p)] [] λr H'=>∃B u l o N M bs,r= .d (.tup [pD B 0,AF 0])/\H'=HW u bs (GR l (B4 N)) M/\CU B u l o N M/\BG N=cW p:=by
 have hck:=Gn p hf.b;rw [hE] at hck;have hrn:=HY hE;have hrl:=hf.r;refine At func96 Z Z ntmps96 Z Z Z λF H=>(AC (AE ?_));refine V (Bo 1 Z Z Z Z Z Z Z) (AB Z Z (AB Z Z (AD (AC (AC (AE (J (Ay Z Z Bl Z Z Z) (J (As (hck) Z Z) ?_))))))));refine AB Z Z (AD (AC (AE (fZ Z Z (J (Cw Z Z Z) (AD (Cm Z (Z) (AX ?_))))))));refine AC (AE (V (PY 50 Z Z Z Z) (cM 51 50 0 Z Z Z Z Z λu=>(lL 26 51 0 (.inl Z) Z (J (FD rY s5 Z Z Z) (cL 27 Z (V (Bo 2 Z Z Z Z Z Z Z) (AB Z Z ?_))))))));refine AD (AC (Ht 40 Z Z Z (fJ 5 2 40 (ds:=[fy none 0,fy none 0,Lb (.map (some u))]) H Z Z Z Z Z Z Z Z Z Z Z (λ_=>rfl) λB hwb=>(AE (V (PY 3 Z Z Z Z) (AB Z Z (AD (AC ?_))))))));refine AC (AE (J (AN Z Dx Z Z Z) (J (AP Z Z Z ON Z) (J (Ba Z fU Z) (fZ Z Z (AD (AZ (BO (α:=Nat×(Nat ->Nat)×Hd×MF) (λq=>⟨142,[(1,(.ptr 1 0 0)),(5,(.d (pD B 0))),(6,(.map 3 0)),(31,(.d (.sl none (p.ro.map Bv)))),(32,(.d (AF (p.ro.length:Int)))),(33,(.d (AF (q.1:Int))))],[(1,[.blk 39 [.d (.sl none (p.ro.map Bv)),.d (.sl none (p.it.map Ag))]]),(3,[BT Bc Lb (VK GC q.2.1 ((p.ro.take q.1).map Ac.r))]),(40,[.multi q.2.2.2]),(50,[BT AF Lb (GR (λ_=>0) [])]),(51,[.addr 50 0 (.map (some u))])]⟩) (λq=>q.1<=p.ro.length/\CU B u (λ_=>0) q.2.1 ⟨[],(p.ro.take q.1).map Jd,none,q.2.2.1⟩ q.2.2.2/\(q.2.2.1≠none ->0<q.1)) (λq=>p.ro.length - q.1) ((0,(λ_=>0),none,BZ (λ_=>none) B (Yy none 0 none 0 u))) (⟨ζ _,uR _ _ _ _ (show BZ (λ_=>none) B (Yy none 0 none 0 u) B=_ from Fu _ _ _),λh=>absurd Z h⟩) (AY H [1,3,40,50,51] Z Z No) ?_))))))));rintro ⟨k,o,mh,M⟩ ⟨hk0,G,hmh⟩;dsimp only at hk0 G hmh⊢;refine AC (AE (J (BB Z Z Z) (AD (AC (A9 Z (λh34=>?_) (λh34=>?_))))))
 .have g:k<p.ro.length:=BR h34;refine AX (AC (AZ (AC ?_)));have hpl:((p.ro.take k).map Jd).length=k:=by rw [χ,ϖ];omega
  have hpr:((p.ro.take k).map Ac.r).length=k:=by rw [χ,ϖ];omega
  refine AE (J (BJ (k) Z Z (Z) (A5 g) fU Z Mu Z) (J (DM Z Z VU Z) ?_));refine V (By 4 Qw Z Z Z Z) (V (B3 Z Z Z Z Z Z Z Mu) (AD (AC (AE (fZ Z Z (J (AN Z Ex Z Z Z) (J (Ay Z Z Cc Z Z Z) (J (AN Z Ex Z Z Z) ?_))))))));refine J (Ay Z Z Cc Z Z Z) (J (AN Z Rk Z Z Z) (J (AP Z Z Z GE Z) (J (FD rV sZ Z Z Z) (cL 44 Z (V (Bo 5 Z Z Z Z Z Z Z) (cO 45 5 40 (ds:=kw (Jd p.ro[k])) H Z Z Z Z Z Z Z Z Z Z Z (λ_=>rfl) λbn U=>(V (Uo (VK GC o ((p.ro.take k).map Ac.r)) (p.ro[k].r) (pV bn 0) Z Z Z XP CV Z Z) (AD ?_))))))));have hrnk:p.ro[k].r∉(p.ro.take k).map Ac.r:=cT hrn g;rw [W8 hrnk,hpr,<-EH g];have fb:Aa (VK GC (NX o k bn) ((p.ro.take (k+1)).map Ac.r)) p.ro[k].r (.pointer none)=pV bn 0:=by rw [W9 (i:=k) (cS hrn (k+1)) (by rw [χ,ϖ];omega) (by rw [gq,List.getElem_take]),G4]
  have A:=G.fresh (m:=Uu (Jd p.ro[k])) U;have hpb:((List.range k).map o).length=k:=by simp
  have I:BZ M bn (Uu (Jd p.ro[k])) B=some (Yy none 0 mh ((List.range k).map o).length u):=by rw [hpb];have h:_=some (Yy none 0 mh ((p.ro.take k).map Jd).length u):=A.w;rw [hpl] at h;exact h
  have hmr:BV (BZ M bn (Uu (Jd p.ro[k]))) mh Wq 1 (((List.range k).map o).map BX):=by have h:BV _ mh Wq 1 ((List.range ((p.ro.take k).map Jd).length).map λj=>BX (o j)):=A.rs.1 .m;rw [hpl] at h;rw [gZ];exact h
  refine CZ [[],[],[1],[1,2],[1,2,3],[],[],[6],[5,6,7],[5,6,7,8],[1,2,3,4,5,6,7,8,9],rg 11,rg 12,rg 13] mixed Z (CG (Av 5 Z Z (Av 5 Z Z (AU [47] Z (Dg Z Z) (AU [48] Z (C9 Z Kt Z Z Z) (Ao [49] [40] Z Z (λ_=>Ae (EE (f:=40) Z Z (I) Z XE Z)) (Av 6 Z Z (AU [8] Z (AN Z Ex Z Z Z) ?_))))))));refine Ao [52] [4] Z Z (λ_=>Ae (Ay Z Z Cc Z Z Z)) (Ao [51,53] [3] Z Z (λ_=>Ae (II (VK GC (NX o k bn) ((p.ro.take (k+1)).map Ac.r)) p.ro[k].r (.pointer none) (pV bn 0) Z Z Z XP CV aL fb Z)) (HC [54] [6] [(55,_)] Z Z (λ_=>HD (C5 6 n8 Z Z Z Z Z Z Z Z)) (.inr ⟨55,_,Z,Z,Z,Z,Z⟩) Z Z Z Z Z (HC [50,55] [61,40,6] [(56,_)] Z Z (λ_=>HD (HT 50 61 40 hmr Z Z (by simp) Z Z Z Z Z (F2 (emb:=BX) ((List.range k).map o) [bn] Z Z Z Z Z Z Z Z n8 (by simp;omega) Z Z Z Z))) (.inr ⟨56,_,Z,Z,Z,Z,Z⟩) Z Z Z Z Z (CB 11 Z Z Z (Ad 12 Z Z (FX 56 61 40 H Z Z Z (by simp) (by simp) Z Z Z Z Z Z Z (λ_ _=>rfl) λb1 c1 hb1 hc1=>(J (Dg Z Z) (AD ⟨Z,?_⟩))))))));refine Ad 13 Z Z (J (C9 Z Kt Z Z Z) (AD ⟨Z,?_⟩));refine Ad 14 Z Z (V (Pk (f:=40) Z Z Z Z (A.keepM hb1 I) ((by show _<3;omega)) Z sB) (AD ⟨Z,?_⟩));refine CM ?_;have e1:((List.range ((p.ro.take k).map Jd).length).map (λj=>BX (o j))++ [BX bn])=((List.range k).map o++ [bn]).map BX:=by rw [hpl,Ω,gZ];rfl
  have e2:((List.range k).map o++ [bn]).length=((p.ro.take k).map Jd).length+1:=by simp;omega
  have O:=A.addM (y:=Jd p.ro[k]) (bn:=bn) Z Z (Fu _ _ _) (λj hj e=>by have h1:=G.p j _ (ω hj);rw [e,U] at h1;cases h1) hb1 (cap:=c1) (by have h:=hc1;simp at h⊢;omega);dsimp only at O;rw [e1,<-e2,<-EH g,hpl] at O;refine AE (J (Al Z Z (Ξ _ (by omega)) Z) (fZ Z Z (AD ?_)));exact ⟨(k+1,NX o k bn,some (b1,c1),_),⟨by show k+1<=_;omega,O,λ_=>Nat.succ_pos _⟩,by show p.ro.length - (k+1)<p.ro.length - k;omega,AY H [1,3,40,50,51] Z (Z) No⟩
 .refine Aw (AC ?_);have hkk:k=p.ro.length:=by have h:=h34;omega
  subst hkk;rw [gc] at G⊢;have Q:M B=some (Yy none 0 mh p.ro.length u):=by have h:_=some (Yy none 0 mh (p.ro.map Jd).length u):=G.w;rw [χ] at h;exact h
  have hR3:=az G;have hmr:BV M mh Wq 1 ((List.range p.ro.length).map λj=>BX (o j)):=by have h:BV _ mh Wq 1 ((List.range (p.ro.map Jd).length).map λj=>BX (o j)):=G.rs.1 .m;rw [χ] at h;exact h
  refine AE (fZ Z Z (J (Dg Z Z) (J (C9 Z Kt Z Z Z) (J (EE (f:=40) Z Z (Q) Z XE Z) (V (am pZ func142 Z Z (f:=40) (bl:=o) (px:=λj=>kw (Jd (p.ro.getD j IR))) (tx:=λ_=>190) (N7 (p.ro.map Ac.r)) (Qr _).swo (List.range p.ro.length) (Hx (p.ro.map Ac.r)) (by simp;omega) (bA p) (λys h1 h2=>Y4 hrn (by rw [χ];exact h1) h2) Z Z (kd G) (λ_ _=>kt _) Z Z MG hmr Z (by simp) (λh=>by have h1:=hmh h;intro h2;have h3:=gG List.length h2;rw [gw,jB] at h3;omega) Z Z) (AD (AC (AC ?_))))))))
  obtain ⟨a,v⟩:∃a,fk p=a:=⟨_,Z⟩
  have hoi:=IV p hf.b;rw [v] at hoi
  obtain ⟨c,s⟩:∃c,DT p=c:=⟨_,Z⟩
  have hitl:a.length<=30:=by rw [<-v];exact gJ (Do p) hf.i
  have hrol:c.length<=100:=by rw [<-s];unfold DT;rw [χ,(fK _).length_eq,gw,χ];exact hrl
  have hitx:∀x∈a,fR x:=λx hx=>hf.x x (IW (p:=p) (by rw [v];exact hx));have hin:(a.map AI.id).Nodup:=by rw [<-v];exact GL hE
  have hroN:(c.map Ac.r).Nodup:=by rw [<-s];exact OB hE
  have hpin:=λ(r:AT) (h:r∈c.map Ac.r)=>sS (z:= .pointer none) hrn (fK (p.ro.map Ac.r)) (f:=o) (r:=r) (by rw [<-VZ,s];exact h);have R:=λ(r:AT) (h:r∉c.map Ac.r)=>oz (z:= .pointer none) (fK (p.ro.map Ac.r)) (f:=o) (r:=r) (by rw [<-VZ,s];exact h);rw [<-VZ,s] at hpin;rw [s] at hR3
  generalize bB M mh Wq ((Hx (p.ro.map Ac.r)).map λx=>pD (o x) 0)=M2 at hR3⊢
  obtain ⟨w,hpb2⟩:∃f:Nat ->Nat,(λk=>o ((Hx (p.ro.map Ac.r)).getD k 0))=f:=⟨_,Z⟩
  rw [hpb2] at hR3;have S:∀r,r∈c.map Ac.r ->Aa (VK GC o (p.ro.map Ac.r)) r (.pointer none)=pV (w ((c.map Ac.r).idxOf r)) 0:=λr h=>by rw [hpin r h,<-hpb2]
  obtain ⟨pm,hpm⟩:∃m,VK GC o (p.ro.map Ac.r)=m:=⟨_,Z⟩
  rw [hpm] at S R⊢;refine AE (J (Ay Z Z Bl Z Z Z) (J (As (hoi) Z Z) (J (Ba Z ch Z) (fZ Z Z (AD (AZ (BO (α:=Nat×Nat×(Nat ->Nat)×fv×MF) (λq=>⟨142,[(1,(.ptr 1 0 0)),(5,(.d (pD q.2.1 0))),(6,(.map 3 0)),(66,(.d (.sl none ((a.map AI.id).map AF)))),(67,(.d (AF ((a.map AI.id).length:Int)))),(68,(.d (AF (q.1:Int))))],[(1,[.blk 39 [.d (.sl none (p.ro.map Bv)),.d (.sl none (p.it.map Ag))]]),(3,[BT Bc Lb pm]),(40,[.multi q.2.2.2.2]),(50,[BT AF Lb (GR q.2.2.1 ((a.take q.1).map AI.id))]),(51,[.addr 50 0 (.map (some u))])]⟩) (λq=>q.1<=a.length/\CU q.2.1 u q.2.2.1 w q.2.2.2.1 q.2.2.2.2/\BG q.2.2.2.1=FL c a q.1) (λq=>a.length - q.1) ((0,B,(λ_=>0),⟨[],c.map Jd,none,mh⟩,M2)) (⟨ζ _,hR3,Yz c a⟩) (AY H [1,3,40,50,51] Z Z No) ?_)))))));rintro ⟨k,B,l,N,M⟩ ⟨hk0,G,hT⟩;dsimp only at hk0 G hT⊢;refine AC (AE (J (BB Z Z Z) (AD (AC (A9 Z (λh69=>?_) (λh69=>?_))))))
  .have g:k<a.length:=by have h:=h69;rw [χ] at h;exact BR h
   refine AX (AC (AZ (AC ?_)))
   obtain ⟨X,hX⟩:∃X,a.getD k Af=X:=⟨_,Z⟩
   have L:a[k]=X:=by rw [<-hX,FC Af g]
   have hidk:X.id∉(a.take k).map AI.id:=by rw [<-L];exact QT hin g
   have hitk:O6 a X.id=(X,true):=by have h:=Tm g (QT hin g) rfl;rw [L] at h;exact h
   have hip:=qA p X.id hf.b;rw [v,hitk] at hip;have hk70:((a.map AI.id).map AF)[k]? =some (AF X.id):=by rw [ν,ν,ω g,L];rfl
   refine AE (J (BJ (k) Z Z (Z) (hk70) ch Z BU Z) (J (CI Z Z An Z) (AB Z Z (AD (AC (AE (J (Ay Z Z Bl Z Z Z) (fZ Z Z ?_))))))));refine J (As (hip) Z Z) (fZ Z Z (J (Dc Z Z Z) (J (Dc Z Z Z) (V (By 7 FG Z Z Z Z) (V (B3 Z Z Z Z Z Z Z Co) (AB Z Z (AD (AC ?_))))))));refine AE (J (Ay Z Z CP Z Z Z) (J (FD rX s4 Z Z Z) (cL 79 Z (V (Bo 8 Z Z Z Z Z Z Z) (AB Z Z (AD (AC (fJ 13 8 40 (ds:=vA ⟨X,none,[],none,[],true⟩) H Z Z Z Z Z Z Z Z Z Z Z (λ_=>rfl) λbn U=>?_))))))));have hNk:N.nd.length=k:=pR hT;have A:=G.fresh (m:=Uv ⟨X,none,[],none,[],true⟩) U;have hnb:((List.range k).map l).length=k:=by simp
   have I:BZ M bn (Uv ⟨X,none,[],none,[],true⟩) B=some (Yy N.nh ((List.range k).map l).length N.mh N.po.length u):=by rw [hnb];have h:_=some (Yy N.nh N.nd.length N.mh N.po.length u):=A.w;rw [hNk] at h;exact h
   have hnr:BV (FB (BZ M bn (Uv ⟨X,none,[],none,[],true⟩)) B) N.nh bj 1 (((List.range k).map l).map BX):=by have h:BV _ N.nh bj 1 ((List.range N.nd.length).map λj=>BX (l j)):=(A.rs.del A.w).1 .n;rw [hNk] at h;rw [gZ];exact h
   refine mx 5 20 40 Z Z Z I Z Z Z Z (CZ [[],[],[1],[1,2],[1,2,3],[],[],[6],[6,7],[6,7,8],[],[10],[6,7,8,9,10,11],[],[0,1,2,3,4,6,7,8,9,10,11,12],[0,1,2,3,4,6,7,8,9,10,11,12,14],[0,1,2,3,4,6,7,8,9,10,11,12,14,15],[0,1,2,3,4,5,6,7,8,9,10,11,12,14,15,16],[0,1,2,3,4,5,6,7,8,9,10,11,12,14,15,16,17],rg 19] mixed Z (CG (Av 5 Z Z (Av 5 Z Z (AU [82] Z (LM Z Z) (AU [83] Z (AN Z NW Z Z Z) (Ao [84] [20,51] Z Z (λ_=>Ae (Y0 51 0 Z Z Z Z XD Z)) ?_)))))));refine Av 10 Z Z (Av 5 Z Z (AU [87] Z (LM Z Z) (AU [88] Z (AN Z JL Z Z Z) (Ao [89] [20] Z Z (λ_=>Ae (AP Z Z Z Gp Z)) (Av 13 Z Z (HC [91] [9] [(92,_)] Z Z (λ_=>HD (C5 9 Wl Z Z Z Z Z Z Z Z)) (.inr ⟨92,_,Z,Z,Z,Z,Z⟩) Z Z Z Z Z (HC [90,92] [60,40,9] [(93,_)] Z Z (λ_=>HD (HT 90 60 40 hnr Z Z (by simp) Z Z Z Z Z (F2 (emb:=BX) ((List.range k).map l) [bn] Z Z Z Z Z Z Z Z Wl (by simp;omega) Z Z Z Z))) (.inr ⟨93,_,Z,Z,Z,Z,Z⟩) Z Z Z Z Z (Av 13 Z Z ?_))))))));refine AU [81] Z (LM Z Z) (AU [95] Z (AN Z JL Z Z Z) (HC [96,93] [20,60] [] Z Z (λ_=>HD (B3 Z Z Z Z Z Z Z nW)) (.inl ⟨Z,Z⟩) Z Z Z Z Z (HC [85,86] [50] [(97,_)] Z Z (λ_=>HD (HP (GR l ((a.take k).map AI.id)) (X.id) ((.pointer none)) Z Z Z XQ IF W0 Z Z)) (.inr ⟨97,_,Z,Z,Z,Z,Z⟩) Z Z Z Z Z (AU [97] Z (DC Z Z Z) (CB 19 Z Z Z (Ad 20 Z Z (V (HR (GR l ((a.take k).map AI.id)) (X.id) ((.pointer none)) (pV bn 0) Z Z Z IF Z Z) (AD ⟨Z,?_⟩))))))));refine CM (AC (WT 93 60 40 20 0 H Z Z Z (by simp) (by simp) Z Z (λ_ _=>rfl) (λ_ _=>rfl) Z (λ_ _=>rfl) (λ_ _=>rfl) Z Z (λ_ _=>rfl) (λ_ _=>rfl) (λ_ _=>rfl) (λ_ _=>rfl) λb1 c1 hb1 hc1=>(fJ 5 20 40 (ds:=[fy (some (b1,c1)) ((List.range k).map l++ [bn]).length,fy N.mh N.po.length,Lb (.map (some u))]) H Z Z Z Z Z Z Z Z Z Z Z (λ_=>rfl) λwb2 Q=>?_)));have hby:BS (GR l ((a.take k).map AI.id)) X.id (pV bn 0)=GR (NX l k bn) ((a.take (k+1)).map AI.id):=by have h:=W8 (d:=(0:Int)) (f:=l) (b:=bn) hidk;rw [show ((a.take k).map AI.id).length=k by rw [χ,ϖ];omega,<-L,<-EH g] at h;rw [<-L];exact h
   rw [hby];have e1:((List.range N.nd.length).map (λj=>BX (l j))++ [BX bn])=((List.range k).map l++ [bn]).map BX:=by rw [hNk,Ω,gZ];rfl
   have e2:((List.range k).map l++ [bn]).length=N.nd.length+1:=by simp;omega
   have O:=A.addN2 (x:=⟨X,none,[],none,[],true⟩) (bn:=bn) Z Z Z Z (Fu _ _ _) (λj hj e=>by have h1:=G.n j _ (ω hj);rw [e,U] at h1;cases h1) hb1 (cap:=c1) (by have h:=hc1;simp at h;omega) (wb':=wb2) (by rw [e1];exact Q);rw [e1,<-e2,hNk] at O;have hT0:=nJ (x:=X) (nh:=some (b1,c1)) hX hT;have hfk:fR X:=hitx X (by rw [<-L];exact ξ g);have hdl:=NZ hfk;refine AE (J (Ay Z Z CP Z Z Z) (J (As (UM X (by have h:=hfk.1;omega) (by have h:=hfk.2.1;omega) (by have h:=hfk.2.2;omega)) Z Z) (fZ Z Z (J (Dc Z Z Z) (J (Dc Z Z Z) (AB Z Z (AB Z Z ?_)))))));refine AD (AC (AE (fZ Z Z (J (Ba Z underlying215 Z) (fZ Z Z (AD (AZ (BO (α:=Nat×fv×MF) (λr=>⟨142,[(1,(.ptr 1 0 0)),(5,(.d (pD wb2 0))),(6,(.map 3 0)),(66,(.d (.sl none ((a.map AI.id).map AF)))),(67,(.d (AF ((a.map AI.id).length:Int)))),(68,(.d (AF (k:Int)))),(13,(.d (pD bn 0))),(104,(.d (.sl none ((A0 X).map Pg)))),(105,(.d (AF ((A0 X).length:Int)))),(106,(.d (AF (r.1:Int))))],[(1,[.blk 39 [.d (.sl none (p.ro.map Bv)),.d (.sl none (p.it.map Ag))]]),(3,[BT Bc Lb pm]),(40,[.multi r.2.2]),(50,[BT AF Lb (GR (NX l k bn) ((a.take (k+1)).map AI.id))]),(51,[.addr 50 0 (.map (some u))])]⟩) (λr=>r.1<=(A0 X).length/\CU wb2 u (NX l k bn) w r.2.1 r.2.2/\BG r.2.1=EB c a k r.1) (λr=>(A0 X).length - r.1) ((0,_,_)) (⟨ζ _,O,hT0⟩) (AY H [1,3,40,50,51] Z Z T1) ?_))))))));rintro ⟨t,N3,M3⟩ ⟨ht0,hR4,D⟩;dsimp only at ht0 hR4 D⊢;refine AC (AE (J (BB Z Z Z) (AD (AC (A9 Z (λY=>?_) (λY=>?_))))))
   .have ht1:t<(A0 X).length:=BR Y;refine AX (AC (AZ (AC (AE (J (BJ (t) Z Z (Z) (A5 ht1) underlying215 Z Wb Z) ?_)))));refine J (DM Z Z nc Z) (V (By 10 aF Z Z Z Z) (V (B3 Z Z Z Z Z Z Z Wb) (AD (AC (AE (fZ Z Z (J (AN Z Kn Z Z Z) (J (Ay Z Z Cc Z Z Z) ?_))))))))
    by_cases hm:((A0 X)[t]).1∈c.map Ac.r
    .refine J (II pm ((A0 X)[t]).1 (.pointer none) (pV (w ((c.map Ac.r).idxOf ((A0 X)[t]).1)) 0) Z Z Z XP CV aL (S _ hm) Z) (AB Z Z (AD (AC (AE (fZ Z Z (J (Sf underlying186 Z Z) (AD (Bx Z (Z) ?_))))))));have hnl3:N3.nd.length=k+1:=uq D;have hpl3:N3.po.length=c.length:=uo D
     obtain ⟨x,hx⟩:∃x,N3.nd[k]? =some x:=⟨_,ω (by omega)⟩
     have hjl:(c.map Ac.r).idxOf ((A0 X)[t]).1<N3.po.length:=by rw [hpl3];have h:=kJ hm;rw [χ] at h;exact h
     obtain ⟨y,hy⟩:∃y,N3.po[(c.map Ac.r).idxOf ((A0 X)[t]).1]? =some y:=⟨_,ω hjl⟩
     have hbd:=fL hitl hitx g D hx hy;have hda:=LD X _ (ξ ht1);have hj:=pt hR4 hx hy ((A0 X)[t]).2 ⟨by omega,by omega⟩ hbd.1 hbd.2.1 hbd.2.2.1 hbd.2.2.2;rw [G4] at hj;refine AE (fZ Z Z (fZ Z Z (J (AN Z Xb Z Z Z) (J (AP Z Z Z GE Z) ?_))));refine C6 (VA hj Z [40] ⟨Z,trivial⟩ Z Z Z Z (λr H' ⟨e1,N',M',e2,_⟩=>by subst e1 e2;exact ⟨Z,Z,Z⟩) Z) Z ?_;rintro _ ⟨r,H',⟨rfl,N4,M4,rfl,E,hnh4,hmh4,⟨x',hx4,ex4⟩,y',hy4,ey4⟩,rfl⟩;refine AD (AE (J (Al Z Z (Ξ _ (by omega)) Z) (fZ Z Z (AD ?_))));exact ⟨(t+1,N4,M4),⟨by show t+1<=_;omega,E,nK hX hroN g ht1 D Z hm hx hy hx4 ex4 hy4 ey4⟩,by show (A0 X).length - (t+1)<(A0 X).length - t;omega,AY H [1,3,40,50,51] Z (Z) T1⟩
    .refine J (II pm ((A0 X)[t]).1 (.pointer none) (.pointer none) Z Z Z XP CV aL (R _ hm) Z) (AB Z Z (AD (AC (AE ?_))));refine fZ Z Z (J (Sf underlying186 Z Z) (AD (Cm Z (Z) (AX (AE (J (Al Z Z (Ξ _ (by omega)) Z) (fZ Z Z (AD ?_))))))));exact ⟨(t+1,N3,M3),⟨by show t+1<=_;omega,hR4,by show BG N3=EB c a k (t+1);rw [nL hX ht1 hm];exact D⟩,by show (A0 X).length - (t+1)<(A0 X).length - t;omega,AY H [1,3,40,50,51] Z (Z) T1⟩
   .refine Aw ?_;have hte:t=(A0 X).length:=by have h:=Y;omega
    have hT5:BG N3=FL c a (k+1):=by rw [<-nM hX g,<-hte];exact D
    refine AE (J (Al Z Z (Ξ _ (by omega)) Z) (fZ Z Z (AD ?_)));exact ⟨(k+1,wb2,NX l k bn,N3,M3),⟨by show k+1<=_;omega,hR4,hT5⟩,by show a.length - (k+1)<a.length - k;omega,AY H [1,3,40,50,51] Z (Z) No⟩
  .refine Aw (AC (AC ?_));have hke:k=a.length:=by have h:=h69;rw [χ] at h;omega
   subst hke;rw [gc];have hwbf:=G.w;have hpzf:N.mh=none ->N.po.length=0:=λh=>by have h1:BV M N.mh Wq 1 ((List.range N.po.length).map λj=>BX (w j)):=G.rs.1 .m;have h2:=Um h1 h;rw [gw] at h2;exact h2
   have hids:=qJ hT;have hNl:N.po.length=c.length:=oy hT;refine AE ?_;refine fZ Z Z (J (Dg Z Z) (J (C9 Z Kt Z Z Z) (J (EE (f:=40) Z Z (hwbf) Z XE Z) (J (WU hpzf Z underlying177 Z) (fZ Z Z (AD (AZ (BO (α:=Nat×fv×MF) (λr=>⟨142,[(5,(.d (pD B 0))),(126,(.d (fy N.mh N.po.length))),(127,(.d (AF (N.po.length:Int)))),(128,(.d (AF (r.1:Int))))],[(40,[.multi r.2.2]),(50,[BT AF Lb (GR l (a.map AI.id))]),(51,[.addr 50 0 (.map (some u))])]⟩) (λr=>r.1<=N.po.length/\CU B u l w r.2.1 r.2.2/\r.2.1.nd=N.nd/\r.2.1.mh=N.mh/\r.2.1.po=(N.po.take r.1).map Oi++N.po.drop r.1) (λr=>N.po.length - r.1) ((0,N,M)) (⟨ζ _,G,Z,Z,Z⟩) (AY H [40,50,51] Z Z E0) ?_))))))));rintro ⟨j,N5,M5⟩ ⟨hj0,E,K,T,C⟩;dsimp only at hj0 E K T C⊢;refine AC (AE (J (BB Z Z Z) (AD (AC (A9 Z (λW=>?_) (λW=>?_))))))
   .have hj1:j<N.po.length:=BR W;refine AX (AC (AZ (AC ?_)));have hl5:N5.po.length=N.po.length:=by rw [C];simp;omega
    have hpr5:BV M5 N.mh Wq 1 ((List.range N.po.length).map λj=>BX (w j)):=by have h:BV M5 N5.mh Wq 1 ((List.range N5.po.length).map λj=>BX (w j)):=E.rs.1 .m;rw [hl5,T] at h;exact h
    obtain ⟨rb,rc,hre⟩:=Uz hpr5 (j:=j) (by rw [gw];exact hj1);have hrow:=ST hpr5 hre
    obtain ⟨y,hy⟩:∃y,N5.po[j]? =some y:=⟨_,ω (by omega)⟩
    obtain ⟨hyb,hyq⟩:=E.pp j y hy;have hqz:=Um hyq;refine AE (J (WV hre (j) Z Z Z hj1 underlying177 aa Z) (J (nH (f:=40) (e:=j) (off:=0) Z (by omega) Z (hrow) ((by rw [ν,jM hj1];rfl)) Z FA Z) ?_));refine AB Z Z (AD (AE (fZ Z Z ?_)));refine fZ Z Z (J (Dg Z Z) (J (C9 Z Hl Z Z Z) (J (EE (f:=40) Z Z (hyb) Z Gp Z) (J (WU hqz Z fS Z) (J (Dg Z Z) (J (C9 Z Kp Z Z Z) (V (Pk (f:=40) Z Z Z Z (hyb) ((by show _<10;omega)) Z BU) (AD ?_))))))));have hR6:=E.setPo (y':=Oi y) hy Z Z;refine AE (J (Al Z Z (Ξ _ (by omega)) Z) (fZ Z Z (AD ?_)));exact ⟨(j+1,{N5 with po:=N5.po.set j (Oi y)},_),⟨by show j+1<=_;omega,hR6,K,T,d6 hj1 C hy⟩,by show N.po.length - (j+1)<N.po.length - j;omega,AY H [40,50,51] Z (Z) E0⟩
   .refine Aw (AC ?_);have hje:j=N.po.length:=by have h:=W;omega
    subst hje;rw [gc,List.drop_length,iC] at C;have hids5:B4 N5=a.map AI.id:=by unfold B4 at hids⊢;rw [K];exact hids
    refine AE (fZ Z Z (AB Z Z (AB Z Z (AD (A4 ?_)))));exact ⟨_,[40,50,51],_,A2 Z,Z,Z,B,u,l,w,N5,M5,some (List.range (GR l (a.map AI.id)).length,(GR l (a.map AI.id)).length),Z,by rw [hids5];rfl,E,by rw [lO v s];exact cU hT K C⟩
end Go.Proofs.YteifpcnphnhaoaaGreat
namespace Go.Proofs.YteifpcnphnhaoaaGreat
open Go.RowKit
variable {a:List Ac} {c:Nat ->Bool} {f:List AI} {g:List (List (AT×Int))} {i:Nat} {N:fv} {h:Type} {x:Nd} {j:Nat} {k:List AT} {o:List Ac} {s:Nat} {t:fj} {u:List h} {w:P1} {y:Nat} {M:MF} {z:Ak}
set_option maxRecDepth 100000
def HO (ds:List (List (AT×Int))) (on:Nat ->Bool) (r:AT):Int:=((List.range ds.length).map λi=>if on i=true then Gb (ds.getD i []) r else 0).sum
def lR (on:Nat ->Bool) (q:List Nat):Nat:=q.findIdx λi=>!on i
def rH (ds:List (List (AT×Int))) (on:Nat ->Bool) (x:Ac):Po:=⟨x.r,x.n,HO ds on x.r,none,fx ds x.r,lR on (fx ds x.r)⟩
def SP (rs:List AT) (its:List AI) (on:Nat ->Bool) (i:Nat):Nd:={nq rs ((its.map A0).take i) (its.getD i Af) (A0 (its.getD i Af)) with on:=on i}
def gA (ros:List Ac) (its:List AI) (on:Nat ->Bool):fv:=⟨(List.range its.length).map (SP (ros.map Ac.r) its on),ros.map (rH (its.map A0) on),none,none⟩
def BF (on:Nat ->Bool) (i:Nat):Nat ->Bool:=λj=>if j=i then false else on j
theorem XT (q:List Nat):lR (λ_=>true) q=q.length:=by
 unfold lR
 simp
theorem ai (a:List (List (AT×Int))) (r:AT):HO a (λ_=>true) r=(a.map λD=>Gb D r).sum:=by
 unfold HO
 congr 1
 apply i7 (by simp)
 grind
theorem cV (p:fj):cW p=gA (DT p) (fk p) λ_=>true:=by
 unfold cW gA FL KY;dsimp only;rw [gZ]
 congr 1
 grind [gi,κ,Oi,Ym,rH,ai,XT]
theorem Rs {f g:Ac ->Po} (h:j<a.length) {y:Po} (c:(a.map Ac.r).Nodup) (o:y=g a[j]) (l:∀x∈a,x.r≠a[j].r ->f x=g x):(a.map f).set j y=a.map g:=by
 refine j0 λi=>?_;rw [jm]
 by_cases e:j=i
 .grind
 .rw [θ e,ν,ν]
  cases hi:a[i]? with
  | none=>rfl
  | some z=>
   have b:=φ.1 hi;show some _=some _
   rw [l z (ϑ hi) λs=>e (by
    have k:(a.map Ac.r)[j]'(by simpa using h)=(a.map Ac.r)[i]'(by simpa using b.1):=by
     grind
    exact (List.getElem_inj c).1 k)]
theorem NU {r:AT} (b:r∈a.map Ac.r):∃c:(a.map Ac.r).idxOf r<a.length,a[(a.map Ac.r).idxOf r].r=r:=by
 have h:=kJ b;have f:=List.getElem_idxOf h
 grind
theorem ak (l:(a.map Ac.r).Nodup) (f:Ac ->Po):∀(D:List (AT×Int)),(D.map Prod.fst).Nodup ->(WG (a.map Ac.r) D).foldl Mv (a.map f)=a.map λx=>{f x with sum:=(f x).sum - Gb D x.r}:=by
 intro D
 induction D using Zp with
 | h0=>
  intro _;show a.map f=_;refine gi λx _=>?_;show f x={f x with sum:=(f x).sum - 0}
  rw [Int.sub_zero]
 | h1 D d b=>
  intro g;rw [Ω,jn] at g;have j:d.1∉D.map Prod.fst:=λh=>g.2.2 _ h _ (List.mem_singleton_self _) rfl;have b:=b g.1
  by_cases c:d.1∈a.map Ac.r
  .rw [WE c,List.foldl_append,b];obtain ⟨o,k⟩:=NU c
   grind [Mv,Rs,Dv,Gt,D6]
  .rw [Ru c,b];refine gi λx i=>?_;have:Gb (D++ [d]) x.r=Gb D x.r:=D6 λe=>c (e▸Θ.2 ⟨x,i,Z⟩);rw [this]
theorem cc (w:(a.map Ac.r).Nodup) (f:Ac ->Po) (k:List (List (AT×Int))):∀(D:List (AT×Int)),(D.map Prod.fst).Nodup ->(Wu (a.map Ac.r) k D).foldl Pc (a.map f)=a.map λx=>{f x with mi:=if Gb D x.r<0 then min (f x).mi (fx k x.r).length else (f x).mi}:=by
 intro D
 induction D using Zp with
 | h0=>
  intro _;show a.map f=_;refine gi λx _=>?_;have z:Gb [] x.r=0:=rfl
  simp_all
 | h1 D d i=>
  intro o;rw [Ω,jn] at o;have b:d.1∉D.map Prod.fst:=λh=>o.2.2 _ h _ (List.mem_singleton_self _) rfl;have i:=i o.1
  by_cases c:d.1∈a.map Ac.r/\d.2<0
  .rw [bp c.1 c.2,List.foldl_append,i];obtain ⟨v,j⟩:=NU c.1;show Pc _ ((a.map Ac.r).idxOf d.1,(fx k d.1).length)=_;rw [XS (y:=(λx=>{f x with mi:=if Gb D x.r<0 then min (f x).mi (fx k x.r).length else (f x).mi}) a[(a.map Ac.r).idxOf d.1]) (by rw [ν,ω v];rfl)];refine Rs v w ?_ λx u g=>?_
   .dsimp only;have t:Gb (D++ [d]) a[(a.map Ac.r).idxOf d.1].r=d.2:=by rw [j];exact Dv b
    have s:Gb D a[(a.map Ac.r).idxOf d.1].r=0:=by rw [j];exact Gt b
    rw [t,s,θ (by omega),ϱ c.2,j]
   .rw [j] at g;have:Gb (D++ [d]) x.r=Gb D x.r:=D6 g;rw [this]
  .rw [RW c,i];refine gi λx u=>?_
   by_cases e:x.r=d.1
   .have l:d.1∈a.map Ac.r:=e▸Θ.2 ⟨x,u,Z⟩;have t:Gb (D++ [d]) x.r=d.2:=by rw [e];exact Dv b
    have s:Gb D x.r=0:=by rw [e];exact Gt b
    rw [t,s,θ (by omega),θ (λh=>c ⟨l,h⟩)]
   .have:Gb (D++ [d]) x.r=Gb D x.r:=D6 e;rw [this]
theorem Iz (h:j≠i):BF c i j=c j:=θ h
theorem L0:BF c i i=false:=ϱ rfl
theorem d7 (p:h ->Bool) (l m:List h):(l++m).findIdx p=if l.findIdx p<l.length then l.findIdx p else m.findIdx p+l.length:=List.findIdx_append
theorem Ok {b:Type} {p q:b ->Bool}:∀{l:List b},(∀x∈l,p x=q x) ->l.findIdx p=l.findIdx q
 | [],_=>rfl
 | a::l,h=>by
  rw [List.findIdx_cons,List.findIdx_cons,h a (iG ..),Ok λx c=>h x (i5 _ c)]
theorem JD {n:Nat} (h:i<n):∃B:List Nat,List.range n=List.range i++i::B/\∀j∈B,i<j:=by
 refine ⟨List.range' (i+1) (n - i - 1),?_,λj b=>?_⟩
 .rw [List.range_eq_range',List.range_eq_range'];have a:n=i+(1+(n - i - 1)):=by omega
  conv=>lhs;rw [a]
  rw [<-List.range'_append_1,iR,Nat.add_comm 1 (n - i - 1),List.range'_succ]
 grind
theorem T5 (h:i<g.length) (r:AT):∃B:List Nat,fx g r=fx (g.take i) r++((if Gb (g.getD i []) r<0 then [i] else [])++B)/\(∀j∈fx (g.take i) r,j<i)/\∀j∈B,i<j:=by
 obtain ⟨B,c,b⟩:=JD h;refine ⟨B.filter λi=>decide (Gb (g.getD i []) r<0),?_,λj a=>?_,λj a=>b j (gS.1 a).1⟩
 all_goals (grind [fx,jj])
theorem lQ (h:i<g.length) (a:Nat ->Bool) (r:AT):lR (BF a i) (fx g r)=if Gb (g.getD i []) r<0 then min (lR a (fx g r)) (fx (g.take i) r).length else lR a (fx g r):=by
 obtain ⟨B,c,b,f⟩:=T5 h r;rw [c]
 generalize fx (g.take i) r=A at b⊢
 grind [Ok,Iz,lR,d7,L0]
theorem ah (h:i<g.length) (b:c i=true) (r:AT):HO g (BF c i) r=HO g c r - Gb (g.getD i []) r:=by
 obtain ⟨B,a,f⟩:=JD h;unfold HO;rw [a,Ω,Ω,iV,iV,jY,jY,List.sum_cons,List.sum_cons]
 grind [gi,Iz,L0]
theorem Wf:∀(l:List (Nat×Int)) (a:List Po),(l.foldl Mv a).map Cd=l.foldl Mv (a.map Cd)
 | [],_=>rfl
 | e::l,a=>by
  rw [List.foldl_cons,List.foldl_cons,Wf l]
  congr 1
  unfold Mv;rw [ν]
  cases a[e.1]? with
  | none=>rfl
  | some y=>show (a.set e.1 _).map Cd=_;rw [List.map_set];rfl
theorem XR:∀(l:List (Nat×Nat)) (a:List Po),(l.foldl Pc a).map Cd=l.foldl Pc (a.map Cd)
 | [],_=>rfl
 | e::l,a=>by
  rw [List.foldl_cons,List.foldl_cons,XR l]
  congr 1
  unfold Pc;rw [ν]
  cases a[e.1]? with
  | none=>rfl
  | some y=>show (a.set e.1 _).map Cd=_;rw [List.map_set];rfl
theorem uP (t:(a.map Ac.r).Nodup) (h:BG N=gA a f c) (g:i<f.length) (y:c i=true) (w:N.nd[i]? =some x):BG (sK N i x)=gA a f (BF c i):=by
 have o:N.nd.map Ez=(List.range f.length).map (SP (a.map Ac.r) f c):=gG fv.nd h;have k:N.po.map Cd=a.map (rH (f.map A0) c):=gG fv.po h
 have b:Ez x=SP (a.map Ac.r) f c i:=by
  have u:(N.nd.map Ez)[i]? =some (Ez x):=by rw [ν,w];rfl
  grind
 have s:x.ef=WG (a.map Ac.r) (A0 (f.getD i Af)):=gG Nd.ef b;have l:x.pl=Wu (a.map Ac.r) ((f.map A0).take i) (A0 (f.getD i Af)):=gG Nd.pl b;have gX:i<(f.map A0).length:=by simpa using g
 have r:(f.map A0).getD i []=A0 (f.getD i Af):=by rw [FC [] gX,FC Af g,gq]
 unfold BG sK gA;dsimp only
 congr 1
 .rw [List.map_set,o]
  have:Ez (Ei x)=SP (a.map Ac.r) f (BF c i) i:=by
   have u:Ez (Ei x)=Ei (Ez x):=rfl;rw [u,b];unfold SP Ei BF;rw [ϱ rfl]
  rw [this];refine j0 λj=>?_;rw [jm]
  by_cases e:i=j
  .subst e;rw [ϱ Z,ϱ (by simpa using g),ν,jM g];rfl
  .rw [θ e,ν,ν]
   cases hj:(List.range f.length)[j]? with
   | none=>rfl
   | some z=>
    have v:=φ.1 hj;have:z=j:=by have:=v.2;simp at this;exact this.symm
    subst this;show some _=some _;unfold SP BF;rw [θ (λh=>e h.symm)]
 .rw [XR,Wf,k,s,l,ak t _ _ (DY _),cc t _ _ _ (DY _)];refine gi λz _=>?_;unfold rH;dsimp only;rw [ah gX y,lQ gX,r]
theorem Fo (N:fv) (i:Nat):(BG N).nd.getD i CQ=Ez (N.nd.getD i CQ):=by
 show (N.nd.map Ez).getD i CQ=_;rw [Φ,Φ,ν]
 cases N.nd[i]?<;>rfl
theorem If (N:fv) (j:Nat):(BG N).po.getD j Ce=Cd (N.po.getD j Ce):=by
 show (N.po.map Cd).getD j Ce=_;rw [Φ,Φ,ν]
 cases N.po[j]?<;>rfl
theorem Hn (N:fv):B4 (BG N)=B4 N:=by
 unfold B4 BG;rw [gZ];rfl
theorem ZV (N:fv) (x:Nd):Hz (BG N) (Ez x)=Hz N x:=by
 have c:Uc (BG N)=Uc N:=funext λe=>by unfold Uc;rw [If];rfl
 have b:∀e,df (BG N) (Ez x) e=df N x e:=λe=>by unfold df;rw [If,Fo];rfl
 have a:Dq (BG N)=Dq N:=funext λe=>by unfold Dq;rw [Fo,Hn];rfl
 grind [Hz,Ez]
theorem T4 (N:fv):Fk (BG N)=Fk N:=by
 have c:(BG N).nd.findSome? (XO (BG N))=N.nd.findSome? (XO N):=by
  show (N.nd.map Ez).findSome? _=_;rw [List.findSome?_map]
  congr 1
  grind [XO,Ez,ZV]
 have b:(BG N).po.findSome? (Yl (BG N))=N.po.findSome? (Yl N):=by
  show (N.po.map Cd).findSome? _=_;rw [List.findSome?_map]
  congr 1
  funext y
  show Yl (BG N) (Cd y)=Yl N y;have a:gu (BG N)=gu N:=funext λi=>by unfold gu;rw [Fo];rfl
  have f:∀i,((BG N).nd.getD i CQ).it.id=(N.nd.getD i CQ).it.id:=λi=>by rw [Fo];rfl
  unfold Yl;rw [a];show (if TN y y.sum=true then (y.q.reverse.find? (gu N)).map λi=>(⟨((BG N).nd.getD i CQ).it.id,0,y.r,-1⟩:P1) else none)=_
  grind
 unfold Fk;rw [c,b]
theorem dO (h:Hz N x=some w):w.id=x.it.id:=by
 unfold Hz at h
 split at h
 .injection h with h;subst h;rfl
 grind
theorem XN (h:Fk N=some w):∃(i:Nat) (x:Nd),N.nd[i]? =some x/\x.on=true/\w.id=x.it.id:=by
 unfold Fk at h
 split at h
 .rename_i l g
  injection h with h;subst h
  obtain ⟨x,b,a⟩:=List.exists_of_findSome?_eq_some g;obtain ⟨i,f,j⟩:=hY b;unfold XO at a
  split at a
  .rename_i c
   exact ⟨i,x,by rw [ω f,j],c,dO a⟩
  .cases a
 .obtain ⟨y,k,a⟩:=List.exists_of_findSome?_eq_some h;unfold Yl at a
  split at a
  .cases hf:y.q.reverse.find? (gu N) with
   | none=>rw [hf] at a;cases a
   | some i=>
    grind [gu,CQ]
  .cases a
structure rP (ros:List Ac) (its:List AI):Prop where
 l:its.length<=30
 x:∀x∈its,fR x
 i:(its.map AI.id).Nodup
 a:∀x∈its,∀id∈x.af,id∈its.map AI.id
 r:(ros.map Ac.r).Nodup
 n:∀x∈ros,-4000000000000000<=x.n/\x.n<=4000000000000000
 o:ros.length<=100
theorem nN (h:x∈(gA a f c).nd):∃i,i<f.length/\x=SP (a.map Ac.r) f c i:=by
 obtain ⟨i,b,e⟩:=Θ.1 h
 grind
theorem Up (f:List Ac) (c:List AI) (g:Nat ->Bool):B4 (gA f c g)=c.map AI.id:=by
 unfold B4 gA;rw [gZ]
 apply i7 (by simp)
 intro i a b;simp only [gq,kL,Function.comp];show (c.getD i Af).id=_
 grind
theorem mA {D:List (AT×Int)} {e:Nat×Int} (h:e∈WG k D):∃d∈D,e.2=d.2:=by
 obtain ⟨d,a,rfl⟩:=Θ.1 h
 grind
theorem ky {D:List (AT×Int)} {e:Nat×Nat} (h:e∈Wu k g D):∃d∈D,d.1∈k/\d.2<0/\e=(k.idxOf d.1,(fx g d.1).length):=by grind [Wu]
theorem oQ (h:rP a f) (b:Nat ->Bool) (r:AT): -30000000000000000<=HO (f.map A0) b r/\HO (f.map A0) b r<=30000000000000000:=by
 have c:∀l:List Nat,-(l.length*1000000000000000)<=(l.map λi=>if b i=true then Gb ((f.map A0).getD i []) r else 0).sum/\(l.map λi=>if b i=true then Gb ((f.map A0).getD i []) r else 0).sum<=l.length*1000000000000000:=by
  intro l
  induction l with
  | nil=>simp
  | cons i l s=>
   simp only [iV,List.sum_cons,jZ]
   have k:P2 ((f.map A0).getD i []):=by
    rcases gy (l:=f.map A0) (d:=[]) i with g | g
    .grind [LD]
    .rw [g];intro x j;cases j
   have o:=Xq k r;omega
 have o:=c (List.range (f.map A0).length);have t:=h.l
 grind [HO]
theorem vD (h:rP a f) (g:Nat ->Bool):iO (gA a f g):=by
 have I:=h.l
 have k:∀y∈(gA a f g).po,y.q.length<=30/\y.mi<=30/\∃x∈a,y=rH (f.map A0) g x:=λy j=>by
  obtain ⟨x,b,e⟩:=Θ.1 j;subst e;have t:=KX (f.map A0) x.r;rw [χ] at t;have C:lR g (fx (f.map A0) x.r)<=(fx (f.map A0) x.r).length:=List.findIdx_le_length;exact ⟨by show (fx _ _).length<=_;omega,by show lR _ _<=_;omega,x,b,Z⟩
 refine ⟨by rw [Up];exact h.i,λx b id v=>?_,λx b=>?_,λx b e z=>?_,λx b e z=>?_,λy j=>?_,λy j=>?_,?_,λy j=>?_⟩
 .obtain ⟨i,c,rfl⟩:=nN b;rw [Up];refine h.a (f.getD i Af) (by rw [FC Af c];exact ξ c) id v
 .obtain ⟨i,c,rfl⟩:=nN b;have u:f.getD i Af∈f:=by rw [FC Af c];exact ξ c
  have t:=NZ (h.x _ u);have C:=Xe (a.map Ac.r) (A0 (f.getD i Af));have K:=Wt (a.map Ac.r) ((f.map A0).take i) (A0 (f.getD i Af));have J:=(h.x _ u).2.2;exact ⟨by show (WG _ _).length<=_;omega,by show (Wu _ _ _).length<=_;omega,by show (f.getD i Af).af.length<=_;omega⟩
 .obtain ⟨i,c,rfl⟩:=nN b;obtain ⟨d,A,G⟩:=mA z;have:=LD _ d A;rw [G];omega
 .obtain ⟨i,c,rfl⟩:=nN b;obtain ⟨d,A,u,l,rfl⟩:=ky z;obtain ⟨F,D⟩:=NU u;have gX:i<(f.map A0).length:=by simpa using c
  have w:(f.map A0).getD i []=A0 (f.getD i Af):=by rw [FC [] gX,FC Af c,gq]
  have s:Gb ((f.map A0).getD i []) d.1=d.2:=by rw [w];exact D7 (DY _) A
  obtain ⟨B,H,M,L⟩:=T5 gX d.1
  have E:((gA a f g).po.getD ((a.map Ac.r).idxOf d.1) Ce).q=fx (f.map A0) d.1:=by
   show ((a.map _).getD _ Ce).q=_;rw [FC Ce (by simpa using F),gq];show fx _ (a[(a.map Ac.r).idxOf d.1]).r=_;rw [D]
  rw [E];dsimp only;have o:=gG List.length H;rw [ϱ (by rw [s];exact l),Δ,Δ,ς] at o;have t:=KX ((f.map A0).take i) d.1;rw [ϖ,χ] at t;omega
 .have:=k y j;omega
 .obtain ⟨_,_,x,b,rfl⟩:=k y j;have:=h.n x b;show -1000000000000000000<=x.n/\x.n<=1000000000000000000;omega
 .have t:(gA a f g).nd.length=f.length:=by unfold gA;simp
  have C:(gA a f g).po.length=a.length:=by unfold gA;simp
  have:=h.o;omega
 .have:=k y j;omega
theorem oP {N:fv} (h:iO (BG N)):iO N:=by
 have c:∀x∈N.nd,Ez x∈(BG N).nd:=λx a=>Θ.2 ⟨x,a,Z⟩;have f:∀y∈N.po,Cd y∈(BG N).po:=λy b=>Θ.2 ⟨y,b,Z⟩;refine ⟨by rw [<-Hn];exact h.i,λx a id g=>by rw [<-Hn];exact h.a _ (c x a) id g,λx a=>h.l (Ez x) (c x a),λx a=>h.e (Ez x) (c x a),λx a e i=>?_,λy b=>h.m (Cd y) (f y b),λy b=>h.rm (Cd y) (f y b),?_,λy b=>h.ql (Cd y) (f y b)⟩
 .have:=h.p _ (c x a) e i;rw [If] at this;exact this
 .have:=h.n
  grind [BG]
theorem qz (h:rP a f) (i:BG N=gA a f c):Sa N.po 1000000000000000000:=λy g=>by
 have b:Cd y∈(BG N).po:=Θ.2 ⟨y,g,Z⟩;rw [i] at b;obtain ⟨x,k,e⟩:=Θ.1 b;have l:=oQ h c x.r;have j:y.sum=HO (f.map A0) c x.r:=gG Po.sum e.symm;rw [j];omega
def GA (ros:List Ac) (its:List AI):Nat ->(Nat ->Bool) ->List P1×(Nat ->Bool)
 | 0,on=>([],on)
 | f+1,on=>match Fk (gA ros its on) with
  | none=>([],on)
  | some e=>(e::(GA ros its f (BF on ((its.map AI.id).idxOf e.id))).1,(GA ros its f (BF on ((its.map AI.id).idxOf e.id))).2)
def Eo (n:Nat) (on:Nat ->Bool):Nat:=((List.range n).filter on).length
def Mj (p:fj):List P1×(Nat ->Bool):=GA (DT p) (fk p) (fk p).length λ_=>true
def Eg (its:List AI) (on:Nat ->Bool) (k:Nat):List Int:=((List.range k).filter on).map λi=>(its.getD i Af).id
theorem MN {n:Nat} (a:i<n) (b:c i=true):Eo n (BF c i)+1=Eo n c:=by
 obtain ⟨B,g,f⟩:=JD a
 grind [Eo,BF,jj,Iz]
theorem Q2 [BEq h] [LawfulBEq h] (a:u.Nodup) (b:i<u.length):u.idxOf u[i]=i:=by grind
theorem Sm (h:Fk (gA a f c)=none):GA a f y c=([],c):=by
 cases y with
 | zero=>rfl
 | succ y=>unfold GA;rw [h]
theorem Sl (h:Fk (gA a f c)=some w):GA a f (y+1) c=(w::(GA a f y (BF c ((f.map AI.id).idxOf w.id))).1,(GA a f y (BF c ((f.map AI.id).idxOf w.id))).2):=by
 show (match Fk (gA a f c) with | none=>_ | some w=>_)=_;rw [h]
theorem SM (h:BG N=gA a f c) (k:N.nd[i]? =some x):i<f.length/\x.on=c i/\x.it=f.getD i Af:=by
 have b:(N.nd.map Ez)[i]? =some (Ez x):=by rw [ν,k];rfl
 rw [show N.nd.map Ez=(List.range f.length).map (SP (a.map Ac.r) f c) from gG fv.nd h] at b;have g:i<f.length:=by have:=(φ.1 b).1;simpa using this
 rw [ν,jM g] at b;have j:Ez x=SP (a.map Ac.r) f c i:=(Option.some.inj b).symm;exact ⟨g,gG Nd.on j,gG Nd.it j⟩
theorem OM (a:List AI) (b:Nat ->Bool) (k:Nat):Eg a b (k+1)=Eg a b k++if b k=true then [(a.getD k Af).id] else []:=by grind [Eg,hU]
theorem Yt (a:List AI) (b:Nat ->Bool) (k:Nat):(Eg a b k).length<=k:=by grind [Eg]
theorem tc (h:BG N=gA a f c):N.nd.length=f.length:=by grind [χ,BG,gA]
theorem n3 (c:Fw t) (a:Az t=0):rP (DT t) (fk t):=by
 refine ⟨gJ (Do t) c.i,λx b=>c.x x (IW b),GL a,λx b id g=>?_,OB a,λx b=>?_,?_⟩
 .have f:fk t=BK t.it:=ϱ a;have h:Pf (t.it.map AI.id) x=0:=Gu (PR a).2.2 _ (Θ.2 ⟨x,IW b,Z⟩)
  grind [Pf,IZ,Zs]
 .have f:x∈t.ro:=by
   grind [fK,DT]
  exact L4 (PR a).1 x f
 .unfold DT;rw [χ,(fK _).length_eq,gw,χ];exact c.r
set_option maxHeartbeats 1000000 in
theorem WC (p:fj) (hf:Fw p) (hE:Az p=0):AK prog 95 [.d (Bq p)] (.tup [.sl none ((Eg (fk p) (Mj p).2 (fk p).length).map AF),.sl none ((Mj p).1.map dg),AF 0]):=by
 have G:=U6 p hf hE;have g:=n3 hf hE;unfold Mj;rw [cV] at G
 obtain ⟨a,X⟩:∃a,fk p=a:=⟨_,Z⟩
 obtain ⟨b,S⟩:∃b,DT p=b:=⟨_,Z⟩
 rw [X,S] at G g⊢;have hl:=g.l;refine At func95 Z Z ntmps95 Z Z Z λF hF=>(AC (AE ?_));refine V (Bo 1 Z Z Z Z Z Z Z) (AB Z Z (AB Z Z (AB Z Z (AD (my (AC (AE (J (Ay Z Z Bl Z Z Z) ?_))))))));refine C6 (VA G Z [40,50,51] ⟨Z,Z,Z,trivial⟩ Z Z Z Z (λr H' ⟨_,_,_,_,_,_,_,e1,e2,_⟩=>by subst e1 e2;exact ⟨Z,Z,Z⟩) Z) Z ?_;rintro _ ⟨r,H',⟨wb,mv,nb,pb,N,M,bs,rfl,rfl,A,s⟩,rfl⟩;refine fZ Z Z (J (Dc Z Z Z) (J (Dc Z Z Z) (AB Z Z (AB Z Z (AD ?_)))));refine AC (AC (AE (fZ Z Z (J (Cw Z Z Z) (AD (Cm Z (Z) (AX (AC ?_))))))));have v:B4 N=a.map AI.id:=by rw [<-Hn,s,Up]
 rw [v];refine AE (AB Z Z (AD (AC (nA (AC (AZ (NG 7 900 bH Z Z Z Z (BO (α:=(Nat ->Bool)×fv×MF×List P1×Nat) (λq=>⟨64,[(5,(.d (pD wb 0))),(7,(.own 900 0 q.2.2.2.1.length))],(900,[.rowD 245 9 (q.2.2.2.1.map dg)])::HW mv bs (GR nb (a.map AI.id)) q.2.2.1⟩) (λq=>CU wb mv nb pb q.2.1 q.2.2.1/\BG q.2.1=gA b a q.1/\Eo a.length q.1<=q.2.2.2.2/\q.2.2.2.1.length+q.2.2.2.2<=a.length/\q.2.2.2.1++(GA b a q.2.2.2.2 q.1).1=(GA b a a.length λ_=>true).1/\(GA b a q.2.2.2.2 q.1).2=(GA b a a.length λ_=>true).2) (λq=>q.2.2.2.2) ((λ_=>true,N,M,[],a.length)) (⟨A,s,by show ((List.range a.length).filter _).length<=_;exact gJ (gz _ _) (by simp),by simp,Z,Z⟩) (AY hF [900,40,50,51] Z Z ⟨Z,Z,trivial⟩) ?_))))))));rintro ⟨o,N,M,l,f⟩ ⟨A,s,hc,hal,u,t⟩;dsimp only at A s hc hal u t⊢;refine AZ (AC ?_);have K:=oP (N:=N) (by rw [s];exact vD g o);have O:=qz g s;have v:B4 N=a.map AI.id:=by rw [<-Hn,s,Up]
 have W:=pQ bs A K O;rw [v] at W;refine AE (fZ Z Z (V (FE W Z [40,50,51] ⟨Z,Z,Z,trivial⟩ Z Z Z Z Z Z Z Z Z) (fZ Z Z ?_)))
 cases hne:Fk N
 .refine J (Dc Z Z Z) (J (Dc Z Z Z) (V (By 2 J1 Z Z Z Z) (V (B3 Z Z Z Z Z Z Z KB) (AB Z Z (AD ?_)))));refine AC (AC (AE (fZ Z Z (J (Mp Z Z) (AD (Bx Z (Z) (Aw (AC ?_))))))));have hro:GA b a f o=([],o):=Sm (by rw [<-s,T4,hne]);rw [hro] at u t;rw [iC] at u;dsimp only at t;have hwb:=A.w;have D:BV M N.nh bj 1 ((List.range N.nd.length).map λi=>BX (nb i)):=A.rs.1 .n;have U:=Um D;rw [gw] at U;have hNl:=tc s;refine AE (AB Z Z (AD (AC (AC (AE (fZ Z Z ?_))))));refine J (Dg Z Z) (J (C9 Z JL Z Z Z) (J (EE (f:=40) Z Z (hwb) Z Gp Z) (J (WU U Z fS Z) (fZ Z Z (AD (AZ (NG 10 901 BP Z Z Z Z (BO (α:=Nat×List Int) (λq=>⟨64,[(7,(.own 900 0 l.length)),(10,(.own 901 0 q.2.length)),(43,(.d (fy N.nh N.nd.length))),(44,(.d (AF (N.nd.length:Int)))),(45,(.d (AF (q.1:Int))))],(901,[.rowD 3 1 (q.2.map AF)])::(900,[.rowD 245 9 (l.map dg)])::HW mv bs (GR nb (a.map AI.id)) M⟩) (λq=>q.1<=N.nd.length/\q.2=Eg a o q.1) (λq=>N.nd.length - q.1) ((0,[])) (⟨ζ _,Z⟩) (AY hF [901,900,40,50,51] Z Z F0) ?_))))))));rintro ⟨k,B⟩ ⟨hk0,hI⟩;dsimp only at hk0 hI⊢;refine AC (AE (J (BB Z Z Z) (AD (AC (A9 Z (λI=>?_) (λI=>?_))))))
  .have z:k<N.nd.length:=BR I;refine AX (AC (AZ (AC ?_)))
   obtain ⟨x,C⟩:∃x,N.nd[k]? =some x:=⟨_,ω z⟩
   obtain ⟨w,c,E⟩:=SM s C;have L:=A.n k x C;obtain ⟨rb,rc,T⟩:=Uz D (j:=k) (by rw [gw];exact z);have R:=ST D T;have hidl:B.length<=k:=by rw [hI];exact Yt a o k
   refine AE (J (WV T (k) Z Z Z z fS MZ Z) (J (nH (f:=40) (e:=k) (off:=0) Z (by omega) Z (R) ((by rw [ν,jM z];rfl)) Z OO Z) ?_));refine AB Z Z ?_;refine AD (AC (AE (fZ Z Z (J (Dg Z Z) (J (C9 Z FP Z Z Z) (J (EE (f:=40) Z Z (L) Z pG Z) (AD (Iq Z (λH=>?_) (λH=>?_)))))))))
   .refine AE (fZ Z Z (fZ Z Z (J (Dg Z Z) (J (C9 Z GP Z Z Z) (J (C9 Z PQ Z Z Z) ?_)))));refine J (EE (f:=40) Z Z (L) Z An Z) (V (C5 3 BP Z Z Z Z Z Z Z Z) (V (F2 (B) ([x.it.id]) Z Z Z Z Z Z Z Z BP (by simp only [ς];omega) Z Z Z Z) (AB Z Z (AD (AE (J (Al Z Z (AM (k+1) (by omega)) Z) (fZ Z Z (AD ?_))))))));exact ⟨(k+1,_),⟨by show k+1<=_;omega,by show _=Eg a o (k+1);rw [OM,ϱ (by rw [<-c];simpa using H),<-hI,<-E]⟩,by show N.nd.length - (k+1)<N.nd.length - k;omega,AY hF [901,900,40,50,51] Z (Z) F0⟩
   .refine AX (AE (J (Al Z Z (AM (k+1) (by omega)) Z) (fZ Z Z (AD ?_))));exact ⟨(k+1,_),⟨by show k+1<=_;omega,by show _=Eg a o (k+1);rw [OM,θ (by rw [<-c];simpa using H),iC,<-hI]⟩,by show N.nd.length - (k+1)<N.nd.length - k;omega,AY hF [901,900,40,50,51] Z (Z) F0⟩
  .refine Aw (AC ?_);have hke:k=a.length:=by have h:=I;omega
   refine LL (emb:=dg) 7 900 l Z Z Z Z Z Z Z ?_;refine LL (emb:=AF) 10 901 B Z Z Z Z Z Z Z (AE (fZ Z Z (fZ Z Z (AB Z Z (AB Z Z (AB Z Z (AD (A4 ?_))))))));exact ⟨_,[],[],A2 Z,Z,Z,by rw [<-t,<-u,hI,hke],Z⟩
 .refine J (Dc Z Z Z) (J (Dc Z Z Z) (V (By 4 J1 Z Z Z Z) (V (B3 Z Z Z Z Z Z Z KB) (AB Z Z (AD ?_)))));refine AC (AC (AE (fZ Z Z (J (Mp Z Z) (AD (Cm Z (Z) (AX (AC ?_))))))))
  rename_i e
  obtain ⟨i,x,C,hon,hid⟩:=XN hne;obtain ⟨w,c,E⟩:=SM s C;rw [hon] at c;have c:=c.symm;have Y:i<(a.map AI.id).length:=by rw [χ];exact w
  have hei:(a.map AI.id)[i]=e.id:=by rw [hid,E,gq,FC Af w]
  have hby:=SH (nb:=nb) g.i Y;rw [hei] at hby;have hcn:=MN w c
  obtain ⟨f2,rfl⟩:∃f2,f=f2+1:=⟨f - 1,by omega⟩
  have Q:GA b a (f2+1) o=(e::(GA b a f2 (BF o i)).1,(GA b a f2 (BF o i)).2):=by rw [Sl (by rw [<-s,T4,hne]),<-hei,Q2 g.i Y]
  have y:=ϑ C;have hrm:=bc A C O (K.e x y) (K.l x y).1 (K.l x y).2.1 (λe he=>(K.p x y e he).2) K.m;refine CZ [[],[0],[0,1],[0,1,2],[],[4],rg 6,rg 7] mixed Z (CG (Av 5 Z Z (AU [28] Z (Dg Z Z) ?_)));refine AU [29] Z (C9 Z NW Z Z Z) (Ao [30] [40] Z Z (λ_=>Ae (EE (f:=40) Z Z (A.w) Z XD Z)) (AU [8] Z (AN Z lr Z Z Z) (Ao [32] [4] Z Z (λ_=>Ae (AP Z Z Z An Z)) (CB 6 Z Z Z (Ad 7 Z Z (Ds 31 51 0 Z Z (J (II (GR nb (a.map AI.id)) e.id (.pointer none) (pV (nb i) 0) Z Z Z XQ IF W0 hby Z) (AD ⟨Z,?_⟩))))))));refine Ad 8 Z Z ?_;refine C6 (VA hrm Z [40] ⟨Z,trivial⟩ Z Z Z Z (λr H' ⟨e1,M',e2,_⟩=>by subst e1 e2;exact ⟨Z,Z,Z⟩) Z) Z ?_;rintro _ ⟨r,H',⟨rfl,M2,rfl,hR2⟩,rfl⟩;refine AD ⟨Z,?_⟩;refine CM (AE (fZ Z Z (J (Ay Z Z n9 Z Z Z) (V (C5 5 bH Z Z Z Z Z Z Z Z) (V (F2 (l) ([e]) Z Z Z Z Z Z Z Z bH (by simp only [ς];omega) Z Z Z Z) (AB Z Z (AD ?_)))))));exact ⟨(BF o i,sK N i x,M2,l++ [e],f2),⟨hR2,uP g.r s w c C,by show Eo a.length (BF o i)<=f2;omega,by show (l++ [e]).length+f2<=_;rw [Δ];simp;omega,by show (l++ [e])++(GA b a f2 (BF o i)).1=_;rw [ji,<-u,Q];rfl,by show (GA b a f2 (BF o i)).2=_;rw [<-t,Q]⟩,by show f2<f2+1;omega,AY hF [900,40,50,51] Z (Z) ⟨Z,Z,trivial⟩⟩
theorem bP {g:Type} (f:g ->AT) {l m i:List g} (c:(l.map f).Nodup) (s:m.Perm l) (j:m.Pairwise λa b=>¬Bf (f b) (f a)<0) (o:i.Perm l) (t:i.Pairwise λa b=>¬Bf (f b) (f a)<0):i=m:=by
 have r:∀{k:List g},(k.map f).Nodup ->(k.Pairwise λa b=>¬Bf (f b) (f a)<0) ->k.Pairwise λa b=>Bf (f a) (f b)<0:=λ{k} c h=>by
  rw [List.Nodup,iW] at c;refine (h.and c).imp λ{a b} ⟨v,u⟩=>?_;have o:=PZ.anti (f a) (f b);have t:Bf (f a) (f b)≠0:=λe=>u (EY.1 e);omega
 exact DP (R:=λa b=>Bf (f a) (f b)<0) (λx=>by rw [PZ.refl];omega) (λx y z=>PZ.trans _ _ _) (r ((o.map f).nodup_iff.2 c) t) (r ((s.map f).nodup_iff.2 c) j) λx=>by rw [o.mem_iff,s.mem_iff]
theorem RE (f:List AT):(Hx f).Pairwise λa b=>¬N7 f b a<0:=by
 have:=List.pairwise_mergeSort (le:=λi j=>decide (N7 f i j<=0)) (λa b c k l=>?_) (λa b=>?_) (List.range f.length)
 .refine List.Pairwise.imp (λ{a b} h=>?_) this;have k:=(Qr f).anti a b
  grind
 .have o:N7 f a b<=0:=by simpa using k
  have g:N7 f b c<=0:=by simpa using l
  have:N7 f a c<=0:=by
   by_cases r:N7 f a b=0
   .rw [(Qr f).eqv a b c r];exact g
   .by_cases t:N7 f b c=0
    .have w:=(Qr f).anti b c;have s:=(Qr f).eqv c b a (by omega);have v:=(Qr f).anti a c;have u:=(Qr f).anti a b;omega
    .have:=(Qr f).trans a b c (by omega) (by omega);omega
  grind
 .have k:=(Qr f).anti a b
  grind
theorem Yd (p:fj):(DT p).Perm p.ro:=by grind [DT,fK,χ,i7,FC]
theorem St (p:fj):(DT p).Pairwise λa b=>¬Bf b.r a.r<0:=by grind [DT,nR,RE,fK,N7]
theorem Ye (c:(t.ro.map Ac.r).Nodup) (g:o.Perm t.ro) (f:o.Pairwise λa b=>¬Bf b.r a.r<0):o=DT t:=by grind [bP,Yd,St]
theorem bU (c:Az t=0) (g:o.Perm t.ro) (f:o.Pairwise λa b=>¬Bf b.r a.r<0):o=DT t:=Ye (HY c) g f
def fo (p:fj):List Int:=Eg (fk p) (Mj p).2 (fk p).length
theorem Jk (p:fj) (b:Fw p) (c:Az p=0):AK prog 39 [.d (Bq p)] (.tup [.sl none ((fo p).map AF),AF 0]):=by
 have a:=WC p b c;refine At func39 Z Z ntmps39 Z Z Z λF f=>(AC (AE (V (Bo 1 Z Z Z Z Z Z Z) (AB Z Z (AB Z Z (AD (AC (AE ?_))))))));refine J (Ay Z Z Bl Z Z Z) (J (As (a) Z Z) (fZ Z Z (J (Dc Z Z Z) (J (Dc Z Z Z) (J (Dc Z Z Z) (AB Z Z (AB Z Z (AB Z Z ?_))))))));refine AD (AC (AE (fZ Z Z (fZ Z Z (AB Z Z (AB Z Z (AD (A4 ?_))))))));exact ⟨_,[],[],A2 Z,Z,Z,Z,Z⟩
def W1 (l:List Int) (x:Int):List Int:=l.filter λy=>decide (y≠x)
def s9 (its:List AI) (x:Ac) (l:List Int):Int:=max x.n 0+((its.filter λi=>decide (i.id∈l)).map λi=>Bw i x.r).sum
theorem eE (i:AI) (r:AT): -1000000000000000<=Bw i r/\Bw i r<=1000000000000000:=by
 unfold Bw
 split
 .simp [*,N8]
 .omega
def ui (its:List AI) (l:List Int) (id:Int) (x:Ac):Option P1:=if id∈KM its x.r then (((KM its x.r).takeWhile λa=>decide (a≠id)).find? λa=>decide (a∉l)).map λa=>⟨id,1,x.r,a⟩ else none
def qk (p:fj) (l:List Int) (id:Int):Option P1:=match (DT p).findSome? (ui (BK p.it) l id) with
 | some e=>some e
 | none=>((B2 p id).af.find? λa=>decide (a∉l)).map λa=>⟨id,2,GC,a⟩
theorem P7 {l:List Ac} (h:Dn l=0):∀x∈l,CF x.r=0:=λx b=>by
 have f:=Ul.1 h;obtain ⟨j,a,rfl⟩:=hY b;have:=f j (Ψ.2 a);unfold JU at this;rw [FC IR a] at this
 split at this
 .contradiction
 .rename_i c
  exact Classical.byContradiction λh=>c h
theorem E9 {l:List AI} (h:Eu l=0):∀x∈l,Ar x=0:=λx b=>by
 have f:=Ul.1 h;obtain ⟨j,a,rfl⟩:=hY b;have:=f j (Ψ.2 a);unfold Jm at this;rw [FC Af a] at this
 split at this
 .contradiction
 .rename_i c
  exact Classical.byContradiction λh=>c h
theorem pF (g:(f.map AI.id).Nodup) (b:Nat ->Bool) (c:i<f.length):(f.getD i Af).id∈Eg f b f.length↔b i=true:=by
 unfold Eg;rw [Θ]
 constructor
 .rintro ⟨j,h,e⟩;obtain ⟨l,o⟩:=gS.1 h;have a:=Ψ.1 l;rw [FC Af c,FC Af a] at e
  have:j=i:=by
   have k:(f.map AI.id)[j]'(by simpa using a)=(f.map AI.id)[i]'(by simpa using c):=by
    grind
   exact (List.getElem_inj g).1 k
  grind
 grind
theorem ZS (a:List AI):a=(List.range a.length).map λi=>a.getD i Af:=by
 apply i7 (by simp)
 grind
structure v0 (p:fj) (ros:List Ac) (its:List AI):Prop where
 e:Az p=0
 f:Fw p
 s:rP ros its
 hr:DT p=ros
 hi:BK p.it=its
 v:∀x∈its,Ar x=0
 w:∀x∈ros,CF x.r=0
 up:ros.Pairwise λa b=>Bf a.r b.r<0
theorem qK (c:(f.map AI.id).Nodup) (b:i<f.length) (a:j<f.length) (h:(f.getD i Af).id=(f.getD j Af).id):i=j:=by
 rw [FC Af b,FC Af a] at h
 have g:(f.map AI.id)[i]'(by simpa using b)=(f.map AI.id)[j]'(by simpa using a):=by
  grind
 exact (List.getElem_inj c).1 g
def uv (p:fj) (n:Nat):Prop:=p.it.length<=n/\p.ro.length<=30/\∀i∈p.it,i.po.length<=8/\i.pa.length<=8/\i.af.length<=8
instance (p:fj) (n:Nat):Decidable (uv p n):=inferInstanceAs (Decidable (_/\_/\∀i∈p.it,_))
def da (p:fj) (l:List Int):Prop:=(∀id∈l,qk p l id=none)/\∀x∈p.ro,¬s9 p.it x l<0
noncomputable instance (p:fj) (l:List Int):Decidable (da p l):=Classical.propDecidable _
theorem eQ (n:Nat) (a:Nat ->Bool):Eo n a<=n:=by grind [Eo]
def ft (p:fj):List AT:=p.ro.map Ac.r
def dR (rs:List AT) (i:AI):List (AT×Int):=(A0 i).filter λd=>decide (d.1∈rs)
theorem eH (a:List AT) (i:AI):((dR a i).map Prod.fst).Nodup:=List.Nodup.sublist (List.Sublist.map _ iw) (DY i)
theorem ER {c:Type} [DecidableEq h] {O:List (h×c)} {x:h} {v:c} (b:x∉O.map Prod.fst):BS O x v=O++ [(x,v)]:=by
 induction O with
 | nil=>rfl
 | cons a l f=>
  grind [BS]
theorem Fl {y:Ak}:BZ (BZ M s z) s y=BZ M s y:=by grind [Fu,Hu]
theorem Lo (h:M s=some z):BZ M s z=M:=by grind [Fu,Hu]
theorem KZ (a:u.Nodup) (b:j<u.length):u[j]∉u.take j:=by grind [kH]
abbrev WF:FuncId:=119
structure HE (N:MF) (b:Nat) (l:List Int):Prop where
 ex:∃m,N b=some (.cells 137 [mD m])/\N m=some (.map none (BY AF Ah (BN l)))
abbrev PW (b:Nat):D:= .fn WF [] [pD b 0]
theorem Gd (l:List Int) (j:l.Nodup) (v:l.length<=1000000):AO prog 66 [.d (.sl none (l.map AF))] [] λr t=>∃b N,r= .d (PW b)/\t=[(41,[.multi N])]/\HE N b l:=by
 refine At func66 Z Z ntmps66 Z Z Z λF h=>(AC (AE (AB Z Z (AD ?_))));refine AC (Ht 41 Z Z Z (AE (V (PY 1 Z Z Z Z) (Ll 6 1 41 h Z Z Z Z Z Z Z Z Z Z (λ_=>rfl) λm u=>(JE 41 m Z (Fu _ _ _) Z (V (By 2 aJ Z Z Z Z) (V (B3 Z Z Z Z Z Z Z ab) (AD ?_))))))));refine AC (AC (AE (fZ Z Z (J (Ba Z ch Z) (fZ Z Z (AD (AZ (BO (α:=Nat×MF) (λq=>⟨17,[(3,(.ptr 2 0 0)),(7,(.d (.sl none (l.map AF)))),(8,(.d (AF (l.length:Int)))),(9,(.d (AF (q.1:Int))))],[(2,[.blk 137 [.d (mD m)]]),(41,[.multi q.2])]⟩) (λq=>q.1<=l.length/\q.2 m=some (.map none (BY AF Ah (BN (l.take q.1))))) (λq=>l.length - q.1) ((0,_)) (⟨ζ _,Fu _ _ _⟩) (AY h [2,41] Z Z E0) ?_))))))));rintro ⟨k,N⟩ ⟨o,g⟩;dsimp only at o g⊢;refine AC (AE (J (BB Z Z Z) (AD (AC (A9 Z (λc=>?_) (λc=>?_))))))
 .refine AX (AC (AZ (AC ?_)));have a:k<l.length:=BR c;refine AE (J (BJ (k) Z Z (Z) (A5 a) ch Z BU Z) (J (CI Z Z An Z) (AB Z Z (AD ?_))));refine AE (J (AP Z Z Z QP Z) (fZ Z Z (V (Ns (f:=41) (BN (l.take k)) l[k] true Z Z g Z Ek IF Z Z) (AD (AE (J (Al Z Z (AM (k+1) (by omega)) Z) (fZ Z Z (AD ?_))))))));exact ⟨(k+1,_),⟨a,by show BZ _ _ _ _=_;rw [Fu,ψ a,Zx (KZ j a)]⟩,by show l.length - (k+1)<l.length - k;omega,AY h [2,41] Z (Z) E0⟩
 .refine Aw (AC ?_);have i:k=l.length:=by have:=c;omega
  rw [i,gc] at g;refine fJ (ds:=[mD m]) 3 2 41 h Z Z Z Z Z Z Z Z Z Z Z (λ_=>rfl) λb s=>(AE (J (Xy (ds:=[]) (es:=[pD b 0]) Z Z Z Z Z) (AB Z Z (AD (A4 ?_)))));exact ⟨_,[41],_,A2 Z,Z,Z,b,_,Z,Z,⟨m,Fu _ _ _,by rw [Hu (λe=>by rw [e,s] at g;cases g)];exact g⟩⟩
theorem EG {N:MF} {l:List Int} (h:HE N s l) (id:Int):AO prog WF [.d (AF id),.d (pD s 0)] [(41,[.multi N])] λr g=>r= .d (Ah (decide (id∈l)))/\g=[(41,[.multi N])]:=by
 obtain ⟨m,c,a⟩:=h;refine At func119 Z Z ntmps119 Z Z Z λF i=>(AC (AE (AB Z Z ?_)));refine AD (AC (AE (J (EE (f:=41) Z Z c Z QP Z) (fZ Z Z (J (Sh (f:=41) (BN l) id false _ Z Z a Z Ek IF SX (Xw l id) Z) (AB Z Z (AD (A4 ?_))))))));exact ⟨_,[41],_,A2 Z,Z,Z,Z,Z⟩
theorem JQ (p:fj) (l:List Int) (c:E1 p) (b:l.length<=100000) (a:p.it.length<=1000):AK prog 64 [.d (Bq p),.d (.sl none (l.map AF))] (AF (CX p l)):=by
 refine At func64 Z Z ntmps64 Z Z Z λF f=>(AC (AE (V (Bo 1 Z Z Z Z Z Z Z) (AB Z Z ?_))));refine AD (AC (AE (J (Ay Z Z Bl Z Z Z) (fZ Z Z (J (As (aU p l c b a) Z Z) (fZ Z Z (J (Dc Z Z Z) (J (Dc Z Z Z) ?_))))))));refine AB Z Z (AB Z Z (AD (AC (AE (fZ Z Z (AB Z Z (AD (A4 ?_))))))));exact ⟨_,[],[],A2 Z,Z,Z,Z,Z⟩
end Go.Proofs.YteifpcnphnhaoaaGreat
