import Derived.Test.YteifpcnphnhaoaaGreatMg20
import Derived.Shelf.SlSortCmp.Whole1
open Go.Proofs.Tryz
set_option maxHeartbeats 2000000
namespace Go.Proofs.YteifpcnphnhaoaaGreat
open Go.RowKit Go.Shelf
open Go.Sort (putRow Holds PermIn SortedIn SWO mapBlock onCells putCells)
variable {P:Program}
section
variable {ρr:Ren} {τ:Type}
variable {a:Option (Nat×Bool)} {c:Array TypeId} {f:Array Edge} {g:Type} {h:g ->Value} {i:Array Obj} {j:Array g} {k:String} {o:TypeId} {w:World} {s:FuncId} {t:Nat} {u:AV} {F:Fr} {x:AS} {y:Nat}
theorem qr [Inhabited g] {c m:Nat} {a:Nat} (k:a≠y) (f:a<w.heap.size):(sortWorld h w y c m j i).heap[a]? =w.heap[a]?:=by
 unfold sortWorld;rw [Go.Sort.heap_grow_old _ _ (by rw [Go.Sort.size_putRow];exact f)];show (w.heap.modify y _)[a]? =_
 grind
theorem G6 [Inhabited g] {a m:Nat}:w.heap.size<=(sortWorld h w y a m j i).heap.size:=by simp [*,sortWorld]
theorem Zw (L:SlLaysF.n6 P ρr) {E:TypeId} {g g6:FuncId} {fn:Func} (hfn:P.funcs[g]? =some fn) (hnm:(fn.name== "runtime.NumGoroutine")=false) {c:Code} (hbody:fn.body=some c)
  {A:τ ->Nat} {px:τ ->List D} {tx:τ ->TypeId} (cf:τ ->τ ->Int) (hO:SWO (ltOf cf)) (k B:List τ) (hsz:k.length<4611686018427387904) (hc:∀x∈k,∀y∈k,AK P g [.d (.ptr (.agg (px x))),.d (.ptr (.agg (px y)))] (.raw (.int .i64 (cf x y))))
  (hu:∀ys:List τ,ys.Perm k ->ys.Pairwise (λa b=>¬cf b a<0) ->ys=B)
  {F:Fr} {s:AS} {d:Nat} {x y:Operand} {ty:TypeId} {pos:String} {aft:Array Edge} {gd:Option (Nat×Bool)} {at_:Array TypeId} {f b t n:Nat} {M:MF} {fa:AV} {row:List D} {hp':Hp}
  (hg:ρr.f 6=g6) (hM:eQ s.hp f=some [.multi M]) (hpx:∀x∈k,M (A x)=some (.cells (tx x) (px x))) (h1x:∀x∈k,∀c∈px x,c.one=true) (hx:s.ev x=some (.d (.raw (sV b n t)))) (hy:s.ev y=some fa) (hfa:∀w O V v,AR w O V fa v ->v= .func (.func g) #[] #[]) (hb:M b=some (.row E 1 t row)) (N:row=k.map λx=>pD (A x) 0) (hn:n=k.length) (hxs:k≠ []) (hh:B4 s.hp f (BJ M b (.row E 1 t (B.map λx=>pD (A x) 0)))=some hp') (hd:Nat.blt d s.n=true):
  AH P F ⟨some d,.call {callee:= .value (.func g6),args:= #[x,y],argTypes:=at_},ty,pos,aft,gd⟩ s ⟨s.n,(d,.d (.tup []))::s.env,hp'⟩ (λ_ _=>true):=by
 subst hg N hn;intro V U w hs
 obtain ⟨fn6,hf1,hf2,hf3⟩:∃fn,P.funcs[ρr.f 6]? =some fn/\(fn.name== "runtime.NumGoroutine")=false/\fn.body.isSome=true:=by
  obtain ⟨nm,hn,hf⟩:=L.f6;exact ⟨_,hf,hn,Z⟩
 unfold Oper.wp;rw [show (#[x,y]:Array Operand)=[x,y].toArray from rfl,Cj hf1 hf2 hf3,Oper.upon_enter]
 suffices R:Calls P (ρr.f 6) ([x,y].map U.eval).toArray w λe w'=>e= .returned (.tuple #[])/\SR F ⟨s.n,s.env,hp'⟩ V U w' by
  refine R.mono λe w' ⟨G,hsr⟩=>?_;subst G;exact ⟨V,hsr.put (IB hd) (.d (.tup Z λi c v hc=>by cases hc)),λ_ _ _=>rfl⟩
 have r0:=hs.raw hx;have r1:=hfa _ _ _ _ (hs.ev hy);have h3:=hs.heap
 have hO0:Am V s.hp b:=⟨f,b,_,by rw [Fq hM,hb];rfl,by rw [(hs.rowN hM hb).1];rfl⟩
 obtain ⟨hρ,us,q1,q2,q3⟩:=hs.rowN hM hb;show Calls P (ρr.f 6) #[U.eval x,U.eval y] w _;rw [r1,r0];have hn:0<k.length:=ic.2 hxs
 have hus:us=k.map λx=>pV (A x) 0:=by
  apply i8
  intro i;rw [η]
  by_cases C:i<k.length
  .rw [ω C];obtain ⟨u,h1,h2,h4⟩:=q2.2.2 i (pD (A k[i]) 0) (by rw [η,ω C];rfl) 0 (pD (A k[i]) 0) rfl;rw [hY,gg] at h1;rw [h1]
   cases h4 with
   | raw _=>rfl
  .have:us.length=k.length:=by have:=q2.1;rwa [ψ,hY] at this
   rw [iM (by omega),iM (by omega)];rfl
 obtain ⟨r,p1,p2,p3,p3',p4⟩:∃r,w.heap[b]? =some (.cells r E (0,0))/\r.size=t/\k.length<=t/\t<=maxLen/\r.toList.take k.length=us:=by
  rcases q1.2 with ⟨_,h⟩ | ⟨K,cap',r,G,_,T,e3,e4,e5,e6⟩
  .rw [ψ] at h;omega
  .rw [ψ] at G;injection G with G e7 e8
   injection G with G
   injection G with G
   subst G e8;rw [ψ] at e3 e6;exact ⟨r,T,by omega,e3,e4,by rwa [hY] at e6⟩
 rw [ψ] at*;have hlt:b<w.heap.size:=(gr.1 p1).1;have hOb:F.O V s.hp b:= .inr hO0;have hOl:∀K,F.O V s.hp K ->K<w.heap.size:=λK h=>h3.ltO h
 let x0:τ:=k[0]
 let ix:Nat ->Nat:=λi=>if i<k.length then i else 0
 let el:Nat ->τ:=λi=>(k[ix i]?).getD x0
 have Q:∀i,el i∈k:=λi=>by
  have hix:ix i<k.length:=by show (if _ then _ else _)<_;split<;>omega
  show (k[ix i]?).getD x0∈k;rw [ω hix];exact ξ hix
 have X:∀i (C:i<k.length),el i=k[i]:=λi C=>by
  show (k[ix i]?).getD x0=_;rw [show ix i=i from ϱ C,ω C];rfl
 let o:Nat ->Value:=λi=>pV (A (el i)) 0
 let cf':Nat ->Nat ->Int:=λi j=>cf (el i) (el j)
 have hO':SWO (ltOf cf'):=⟨λx=>hO.irrefl (el x),λx y z=>hO.trans (el x) (el y) (el z),λx y z=>hO.ntrans (el x) (el y) (el z)⟩
 have henc1:OneCell o:=λ_=>rfl;have hd0:∀i,i<k.length ->(Array.range k.length)[i]! =i:=λi C=>by rw [getElem!_pos _ i (by simpa using C)];simp
 have hcu:∀i (C:i<k.length),r[i]? =some (pV (A k[i]) 0):=λi C=>by
  have:us[i]? =r.toList[i]?:=by rw [<-p4,ii C]
  rw [hus,η,ω C] at this;rw [<-iE];exact this.symm
 have hH:Holds o w b 0 (Array.range k.length):=by
  intro j J;simp only [ik] at J;rw [hd0 _ J];refine ⟨?_,?_⟩
  .simp only [World.cell?,p1,gf];rw [hcu j J];show _=some (pV (A (el j)) 0);rw [X j J];rfl
  .simp only [World.frozen?,p1]
   simp
 have hcmp:CmpLays1 P g #[] o cf' b 0 (Array.range k.length).size w:=by
  intro m os dk _ x y;have hWs:w.heap.size<=(sortWorld o w b 0 m dk os).heap.size:=G6
  let O':Nat ->Prop:=λK=>F.O V s.hp K/\K≠A (el x)/\K≠A (el y)
  have hne:∀i,A (el i)≠b:=λi e=>by
   have:=hpx _ (Q i);rw [e,hb] at this;cases this
  have W:∀i,i=x\/i=y ->AN (sortWorld o w b 0 m dk os) O' (.ptr (.agg (px (el i)))) (pV (A (el i)) 0):=λi C=>by
   obtain ⟨_,vs,c1,c2,c3,c4⟩:=hs.cellsN hM (hpx _ (Q i));have hl:A (el i)<w.heap.size:=(gr.1 c1).1
   have hOn:¬O' (A (el i)):=λh=>by
    rcases C with e | e
    .exact h.2.1 (by rw [e])
    .exact h.2.2 (by rw [e])
   show AN _ _ (.ptr (.agg (px (el i)))) (.pointer (some ⟨A (el i),0,none⟩));refine AN.ptr (x:= .agg (px (el i))) (λj=>vs.getD j undef) (hU hl hWs) hOn (h1x _ (Q i)) (λj c J=>?_) λj c J=>?_
   .have hj':j<vs.length:=by rw [c2];exact (φ.1 J).1
    simp only [World.cell?,qr (hne i) hl,c1,gf]
    simp [hj']
   .have hj':j<vs.length:=by rw [c2];exact (φ.1 J).1
    have I:vs[j]? =some vs[j]:=ω hj';have:vs.getD j undef=vs[j]:=by rw [Ψ,I];rfl
    rw [this];exact (c3 j c _ J I).mono hWs (λK hl hno=>qr (λe=>hno (e▸hOb)) hl) (λ_ _ h=>h.1)
  refine (QZ (hc (el x) (Q x) (el y) (Q y)) (w:=sortWorld o w b 0 m dk os) (O:=O') (λK h=>hU (hOl K h.1) hWs) (vs:=[pV (A (el x)) 0,pV (A (el y)) 0]) Z (λi a v S I=>?_)).mono λe w' ⟨v,G,T,e3,e4,e5⟩=>⟨?_,Nl e3 e4 e5⟩
  .match i,S,I with
   | 0,S,I=>injection S with S;injection I with I;subst S I;exact .d (W x (.inl Z))
   | 1,S,I=>injection S with S;injection I with I;subst S I;exact .d (W y (.inr Z))
  .cases T with
   | raw _=>exact G
 have eg:∀args w,(callFunc g args).run P w= .ok (.enter g args) w:=enters_of hfn hnm hbody;have R:=Any.slices_SortFunc L o henc1 cf' hO' g #[] b 0 t (Array.range k.length) w eg hcmp hH hlt (by simpa using hsz);rw [ik] at R;refine R.mono λe w' ⟨G,Y,n,os,hp,hsort,hw⟩=>?_;subst G hw;obtain ⟨s1,_,s3⟩:=hp;rw [ik] at s1
 have hperm:Y.toList.Perm (List.range k.length):=by
  have G:Y.extract 0 k.length=Y:=by rw [<-s1];exact Array.extract_size
  have T:(Array.range k.length).extract 0 k.length=Array.range k.length:=by
   conv=>lhs;arg 3;rw [<-ik (n:=k.length)]
   exact Array.extract_size
  rw [G,T] at s3
  simpa using s3
 refine ⟨Z,?_⟩
 have hys:Y.toList.map el=B:=by
  apply hu
  .refine (hperm.map el).trans (List.Perm.of_eq ?_)
   apply gu (by simp)
   intro i h5 h6;simp only [ft,List.getElem_range];exact X i h6
  .rw [gc];intro i j C J hij;simp only [ψ,ib] at C J;have:=hsort i j (υ _) hij (by omega);rw [getElem!_pos _ j J,getElem!_pos _ i C] at this;simp only [ltOf,decide_eq_false_iff_not] at this
   simpa using this
 have hlen':B.length=k.length:=by rw [<-hys];simp [s1]
 -- the world: first what lies in the row, then the new blocks
 have hheap:(sortWorld o w b 0 n Y os).heap[b]? =some (.cells (putCells o 0 Y r) E (0,0)):=by
  unfold sortWorld;rw [Go.Sort.heap_grow_old _ _ (by rw [Go.Sort.size_putRow];exact hlt)];show (w.heap.modify b _)[b]? =_;rw [iq,ϱ Z,p1];rfl
 refine hs.writeG f b (.nr b E 1 t (k.map λx=>pD (A x) 0)) (.nr b E 1 t (B.map λx=>pD (A x) 0)) (by rw [Fq hM,hb];rfl) (λg i=>?_) Z Z Z G6 (Nat.le_add_right _ _) (λK hl hno=>qr (λe=>hno (by rw [e,hρ];rfl)) hl) (λ_ _ e=>by cases e) λhrep=>?_
 .rw [Cx hh]
  by_cases e:g=f
  .subst e;rw [ϱ Z,Fq hM]
   by_cases T:i=b
   .subst T;rw [ϱ ⟨Z,Z⟩,EB];rfl
   .rw [θ (λh=>T h.2),Ft T]
  .rw [θ e,θ (λh=>e h.1)]
 have hcs:(putCells o 0 Y r).size=t:=by simp only [putCells,Array.size_mapIdx];omega
 have N:(putCells o 0 Y r).toList.take B.length=B.map λx=>pV (A x) 0:=by
  apply i8
  intro i
  by_cases C:i<k.length
  .rw [ii (by omega),η,<-hys,η,iE,iE,gS (by omega),gS (by omega)];simp only [putCells,Array.getElem_mapIdx,gs];rw [ϱ ⟨υ _,by omega⟩];simp only [Nat.sub_zero];rw [getElem!_pos _ i (by omega)]
  .rw [iM (by rw [Ξ];omega),iM (by rw [ψ];omega)]
 refine ⟨hρ,B.map λx=>pV (A x) 0,⟨by simp,.inr ⟨b,t,_,by simp only [ψ],υ _,hheap,by rw [ψ,hlen'];exact p3,p3',by rw [hcs];omega,by rw [ψ,hY,N]⟩⟩,⟨by simp,λx l=>?_,λi x l j c H=>?_⟩,λx l c H=>?_⟩
 .obtain ⟨y,_,rfl⟩:=κ.1 l;rfl
 .rw [η] at l
  cases fW:B[i]? with
  | none=>rw [fW] at l;cases l
  | some q=>
   rw [fW] at l;injection l with l;subst l
   match j,H with
   | 0,H=>
    injection H with H;subst H
    exact ⟨pV (A q) 0,by rw [hY,gg,η,fW];rfl,Z,.raw Z⟩
 .obtain ⟨y,_,rfl⟩:=κ.1 l
  cases H with
  | head=>rfl
  | tail _ h=>cases h
theorem Xl (L:SlLaysF.n6 P ρr) {b y:Operand}
  (G:ρr.f 6=s) (D:x.ev b=some (.d (.raw (.slice none 0 0)))) (R:x.ev y=some u) (I:Nat.blt t x.n=true):
  AH P F ⟨some t,.call {callee:= .value (.func s),args:= #[b,y],argTypes:=c},o,k,f,a⟩ x ⟨x.n,(t,.d (.tup []))::x.env,x.hp⟩ (λ_ _=>true):=by
 subst G;intro B h w A
 obtain ⟨K,r,l,j⟩:∃z,P.funcs[ρr.f 6]? =some z/\(z.name== "runtime.NumGoroutine")=false/\z.body.isSome=true:=by
  obtain ⟨Q,E,H⟩:=L.f6;exact ⟨_,H,E,Z⟩
 unfold Oper.wp;rw [show (#[b,y]:Array Operand)=[b,y].toArray from rfl,Cj r l j,Oper.upon_enter];have C:=A.raw D;show Calls P (ρr.f 6) #[h.eval b,h.eval y] w _;rw [C];refine (AnyF.slices_SortFunc_none {L with} none 0 _ w).mono λe O ⟨N,M⟩=>?_;subst N M;exact ⟨B,A.put (IB I) (.d (.tup Z λi g v J=>by cases J)),λ_ _ _=>rfl⟩
end
end Go.Proofs.YteifpcnphnhaoaaGreat
namespace Go.Proofs.YteifpcnphnhaoaaGreat
open Go.RowKit Go.Shelf
variable {M:MF} {f a c:Nat ->Nat} {N:fC} {g:Nat} {h:Type} {i j k o:Nat} {t:TypeId} {s:Nat} {u:A7}
set_option maxRecDepth 100000 in
theorem l5 (x y:Po):AK prog 142 [.d (.ptr (.agg (kA x))),.d (.ptr (.agg (kA y)))] (AF (Bc x.r y.r)):=by
 refine As func142 Z Z ntmps142 Z Z Z λF a=>(AC ?_);refine AE (AB Z Z (AD (AC (DB [[],[0],[0,1],[0,1,2],[],[4],[4,5],[4,5,6],rg 8,rg 9] mixed Z (DP (Av 0 Z Z (AQ [5] Z (JS Z Z) (AQ [6] Z (De Z MN Z Z Z) ?_))))))));refine AQ [7] Z (GW Z Z CQ Z) (Av 1 Z Z (AQ [9] Z (JS Z Z) (AQ [10] Z (De Z MN Z Z Z) (AQ [11] Z (GW Z Z CQ Z) (Cg 8 Z Z Z (Ag 9 Z Z (J (BT (LL x.r y.r) Z Z) (AD ⟨Z,?_⟩))))))));refine Ag 10 Z Z (AB Z Z (AD ⟨Z,?_⟩));refine Cr (A4 ?_);exact ⟨_,[],[],A3 Z,Z,Z,Z,Z⟩
theorem GJ {m:A7} (a:M i=none) (h:M s=some m):BJ M i u s=some m:=by grind [Ft]
theorem LX (f:M i=none) {h:Hd} {b:List D} (a:BD M h t o b):BD (BJ M i u) h t o b:=by
 match h,a with
 | none,a=>exact a
 | some (g,c),a=>exact ⟨a.1,GJ f a.2⟩
theorem Bx.fresh (h:Bx j k c a N M) {m:A7} (g:M i=none):Bx j k c a N (BJ M i m):=
 ⟨λf x o=>GJ g (h.n f x o),λb y l=>GJ g (h.p b y l),⟨λr=>LX g (h.rs.1 r),h.rs.2⟩,GJ g h.w,h.ni,h.pi,h.e,h.q⟩
def MP (f:Nat ->Nat) (k b:Nat):Nat ->Nat:=λj=>if j=k then b else f j
theorem Cz {j:Nat} (h:j<o):MP f o g j=f j:=θ (by omega)
theorem Fo:MP f o g o=g:=ϱ rfl
theorem PW:(List.range (o+1)).map (λj=>BH (MP f o g j))=(List.range o).map (λj=>BH (f j))++ [BH g]:=by grind [gT,Fo,fi,Cz]
abbrev YR (nh:Hd) (a:Nat) (mh:Hd) (c mv:Nat):A7:= .cells 180 [fE nh a,fE mh c,Kg (.map (some mv))]
theorem Bx.keepM (h:Bx j k c a N M) (u:BZ M N.mh g=none) {v:A7} {l:List D} (i:M s=some (.cells t l)):BJ (BZ M N.mh) g v s=some (.cells t l):=
 Go.Proofs.YteifpcnphnhaoaaGreat.gp u i λf o=>by have:=h.rs.blk (r:= .m) o;rw [i] at this;cases this
theorem LA (l:List h) (y d:h) (j:Nat):(l++ [y]).getD j d=if j=l.length then y else l.getD j d:=by grind
theorem fy {l:List h} {d:h} (i:Nat):l.getD i d∈l\/l.getD i d=d:=by grind
theorem iF {l:List h} {y z:h} {i:Nat} (a:(l++ [y])[i]? =some z):(i<l.length/\l[i]? =some z)\/(i=l.length/\z=y):=by grind
theorem Bx.addM (h:Bx j k c a N M) {y:Po} (R:y.q=[]) (E:y.qh=none) {bn:Nat} (Y:M bn=some (UU y)) (C:∀o,o<N.po.length ->a o≠bn) {cap:Nat} (J:BZ M N.mh g=none) (U:N.po.length+1<=cap):
  Bx j k c (MP a N.po.length bn) {N with po:=N.po++ [y],mh:=some (g,cap)} (BJ (BJ (BZ M N.mh) g (.row WQ 1 cap ((List.range N.po.length).map (λo=>BH (a o))++ [BH bn]))) j (YR N.nh N.nd.length (some (g,cap)) (N.po.length+1) k)):=by
 have I:∀i,((N.nd.getD i Bo).ef.map (dC (MP a N.po.length bn)))=(N.nd.getD i Bo).ef.map (dC a):=λi=>fi λe u=>by
  rcases fy (l:=N.nd) (d:=Bo) i with s | s
  .show D.agg [pD (MP a N.po.length bn e.1) 0,_]=_;rw [Cz ((h.e _ s).1 e u)]
  .rw [s] at u;cases u
 have G:∀i,((N.nd.getD i Bo).pl.map (jJ (MP a N.po.length bn)))=(N.nd.getD i Bo).pl.map (jJ a):=λi=>fi λe u=>by
  rcases fy (l:=N.nd) (d:=Bo) i with s | s
  .show D.agg [pD (MP a N.po.length bn e.1) 0,_]=_;rw [Cz ((h.e _ s).2 e u)]
  .rw [s] at u;cases u
 have X:∀r,r≠RI.m ->CO c (MP a N.po.length bn) {N with po:=N.po++ [y],mh:=some (g,cap)} r=CO c a N r:=λr T=>by
  cases r with
  | e i=>show (⟨_,_,_,(N.nd.getD i Bo).ef.map _⟩:fG)=_;rw [I];rfl
  | p i=>show (⟨_,_,_,(N.nd.getD i Bo).pl.map _⟩:fG)=_;rw [G];rfl
  | n=>rfl
  | m=>exact absurd Z T
  | q o=>
   show (⟨((N.po++ [y]).getD o CI).qh,_,_,((N.po++ [y]).getD o CI).q.map _⟩:fG)=⟨(N.po.getD o CI).qh,_,_,(N.po.getD o CI).q.map _⟩
   rw [LA]
   split
   .rename_i e
    rw [R,E,Ψ,iM (by omega)];rfl
   .rfl
 have w:=h.rs.upd (R':=CO c (MP a N.po.length bn) {N with po:=N.po++ [y],mh:=some (g,cap)}) .m X (b:=g) (cap:=cap) J Z (by
  show ((List.range (N.po++ [y]).length).map _).length<=cap
  simp;exact U)
 have A:(CO c (MP a N.po.length bn) {N with po:=N.po++ [y],mh:=some (g,cap)} .m).xs=(List.range N.po.length).map (λo=>BH (a o))++ [BH bn]:=by
  show (List.range (N.po++ [y]).length).map _=_;rw [Δ,Φ,PW]
 rw [A] at w
 have B:∀(Q:Nat) (t:TypeId) (O:List D),t≠180 ->M Q=some (.cells t O) ->BJ (BJ (BZ M N.mh) g (.row WQ 1 cap ((List.range N.po.length).map (λo=>BH (a o))++ [BH bn]))) j (YR N.nh N.nd.length (some (g,cap)) (N.po.length+1) k) Q=some (.cells t O):=λQ t O S s=>by
  rw [Ft]
  .exact h.keepM J s
  .rintro rfl;rw [h.w] at s;injection s with s;injection s with s;exact S s.symm
 refine ⟨λi x F=>B _ _ _ (by decide) (h.n i x F),λi z v=>?_,w.cells (h.keepM J h.w),?_,h.ni,λi f H B e=>?_,λx F=>?_,λz v=>?_⟩
 .rcases iF v with ⟨L,K⟩ | ⟨L,K⟩
  .rw [Cz L];exact B _ _ _ (by decide) (h.p i z K)
  .subst L K;rw [Fo];exact B _ _ _ (by decide) Y
 .rw [EB];show _=some (A7.cells _ [_,fE _ (N.po++ [y]).length,_]);rw [Δ];rfl
 .have W:i<N.po.length+1:=by simpa using H
  have V:f<N.po.length+1:=by simpa using B
  by_cases e1:i=N.po.length<;>by_cases e2:f=N.po.length
  .omega
  .subst e1;rw [Fo,Cz (by omega)] at e;exact absurd e.symm (C f (by omega))
  .subst e2;rw [Fo,Cz (by omega)] at e;exact absurd e (C i (by omega))
  .rw [Cz (by omega),Cz (by omega)] at e;exact h.pi i f (by omega) (by omega) e
 .have:=h.e x F;refine ⟨λe u=>?_,λe u=>?_⟩
  .have:=this.1 e u;simp;omega
  .have:=this.2 e u;simp;omega
 .rcases ν.1 v with v | v
  .exact h.q z v
  .rw [ζ.1 v,R];intro i H;cases H
theorem Bx.perm (h:Bx j k c a N M) (U:N.nd=[]) (hqn:∀y∈N.po,y.q=[]/\y.qh=none) {u:List Nat} (X:u.Perm (List.range N.po.length)) {v:Nat} (V:N.mh=some (g,v)):
  Bx j k c (λf=>a (u.getD f 0)) {N with po:=u.map λi=>N.po.getD i CI} (BJ M g (.row WQ 1 v (u.map λo=>BH (a o)))):=by
 have I:u.length=N.po.length:=by rw [X.length_eq,gI]
 have E:∀f,f<u.length ->u.getD f 0<N.po.length:=λf Q=>by
  rw [EQ 0 Q];exact Θ.1 (X.mem_iff.1 (ξ Q))
 have hrow:=h.rs.blk (r:= .m) V
 have J:=(h.rs.1 .m)
 rw [show (CO c a N .m).h=some (g,v) from V] at J
 have L:N.po.length<=v:=by
  have:=J.1;have e:((List.range N.po.length).map λo=>BH (a o)).length=N.po.length:=by simp
  exact e▸this
 have Q:∀(H:Nat) (t:TypeId) (cs:List D),M H=some (.cells t cs) ->BJ M g (.row WQ 1 v (u.map λo=>BH (a o))) H=some (.cells t cs):=λH t cs hm'=>by
  grind [Ft]
 have K:∀(l:List Po),(∀y∈l,y.q=[]/\y.qh=none) ->∀o,(l.getD o CI).q=[]/\(l.getD o CI).qh=none:=λl hl o=>by
  grind [CI]
 have z:∀y∈u.map λi=>N.po.getD i CI,y.q=[]/\y.qh=none:=λy T=>by
  grind
 refine ⟨λi x hx=>?_,λo y T=>?_,⟨λr=>?_,λr r' G s W C h2=>?_⟩,?_,h.ni,λi f B Z e=>?_,λx hx=>?_,λy T=>?_⟩
 .grind
 .have w:(u.map λi=>N.po.getD i CI)[o]? =some y:=T;rw [η] at w
  cases hj:u[o]? with
  | none=>rw [hj] at w;cases w
  | some i=>
   rw [hj] at w;have e:y=N.po.getD i CI:=(Option.some.inj w).symm;have hjl:=(φ.1 hj).1;have B:=E o hjl;rw [Gp hj] at B;show BJ M g _ (a (u.getD o 0))=_;rw [Gp hj,e,EQ CI B];exact Q _ _ _ (h.p i _ (ω B))
 .cases r with
  | e i=> 
   have:N.nd.getD i Bo=Bo:=by rw [U];rfl
   show BD _ (N.nd.getD i Bo).eh _ _ ((N.nd.getD i Bo).ef.map _);rw [this];rfl
  | p i=> 
   have:N.nd.getD i Bo=Bo:=by rw [U];rfl
   show BD _ (N.nd.getD i Bo).ph _ _ ((N.nd.getD i Bo).pl.map _);rw [this];rfl
  | q o=>
   show BD _ ((u.map λi=>N.po.getD i CI).getD o CI).qh _ _ (((u.map λi=>N.po.getD i CI).getD o CI).q.map _);obtain ⟨e1,e2⟩:=K _ z o;rw [e1,e2];rfl
  | n=>
   have F:=h.rs.1 .n;show BD _ N.nh _ _ ((List.range N.nd.length).map _)
   cases hh:N.nh with
   | none=>show _=[];rw [U];rfl
   | some p=>
    obtain ⟨H,W⟩:=p;rw [show (CO c a N .n).h=some (H,W) from hh] at F;refine ⟨by have:=F.1;exact this,?_⟩;rw [Ft]
    .exact F.2
    .rintro rfl;exact absurd (h.rs.2 .n .m H W v hh V) (by intro e;cases e)
  | m=>
   show BD _ N.mh _ _ ((List.range (u.map λi=>N.po.getD i CI).length).map λf=>BH (a (u.getD f 0)))
   have e:((List.range (u.map λi=>N.po.getD i CI).length).map λf=>BH (a (u.getD f 0)))=u.map λo=>BH (a o):=by
    apply gu (by simp)
    intro f C h2;simp only [ft,List.getElem_range];rw [EQ 0 (by simpa using h2)]
   rw [e,V];exact ⟨by rw [ψ,I];exact L,EB _ _ _⟩
 .have A:∀r G s,(CO c (λf=>a (u.getD f 0)) {N with po:=u.map λi=>N.po.getD i CI} r).h=some (G,s) ->(CO c a N r).h=some (G,s):=λr G s C=>by
   cases r with
   | e i=>exact C
   | p i=>exact C
   | n=>exact C
   | m=>exact C
   | q o=>
    have S:((u.map λi=>N.po.getD i CI).getD o CI).qh=some (G,s):=C;rw [(K _ z o).2] at S;cases S
  exact h.rs.2 r r' G s W (A _ _ _ C) (A _ _ _ h2)
 .have:=Q _ _ _ h.w;show _=some (A7.cells _ [_,fE N.mh (u.map λi=>N.po.getD i CI).length,_]);rw [ψ,I];exact this
 .have R:i<u.length:=by simpa using B
  have O:f<u.length:=by simpa using Z
  have:=h.pi _ _ (E i R) (E f O) e;rw [EQ 0 R,EQ 0 O] at this;have Y:u.Nodup:=X.nodup_iff.2 List.nodup_range;exact (List.getElem_inj Y).1 this
 .have:x∈N.nd:=hx;rw [U] at this;cases this
 .intro i B;rw [(z y T).1] at B;cases B
end Go.Proofs.YteifpcnphnhaoaaGreat
namespace Go.Proofs.YteifpcnphnhaoaaGreat
open Go.RowKit
variable {T:List (AM×Int)} {a c:Type} {f:List (a×c)} {g:List AM} {h:List eR} {i:List eY} {j:List (List (AM×Int))} {k:a} {o:AM×Int} {s:List a} {t:Nat ->Nat} {u:Nat} {z:Value} {w x:c} {y:a}
theorem bu [DecidableEq a] (h:k∉f.map Prod.fst):BA f k w=f++ [(k,w)]:=by
 induction f with
 | nil=>rfl
 | cons p r g=>
  grind [BA]
theorem EM [DecidableEq a] (h:k∉f.map Prod.fst):A1 f k x=x:=by
 induction f with
 | nil=>rfl
 | cons p r b=>
  grind [A1]
theorem DG [DecidableEq a] {g:a} (h:k≠g):A1 (f++ [(g,w)]) k x=A1 f k x:=by
 induction f with
 | nil=>simp only [List.nil_append,A1];rw [θ h]
 | cons p r i=>
  grind [A1]
theorem D0 [DecidableEq a] (h:k∉f.map Prod.fst):A1 (f++ [(k,w)]) k x=w:=by
 induction f with
 | nil=>simp [A1]
 | cons p r g=>
  grind [A1]
def Ua {α:Type} (d:α) (f:Nat ->Nat) (l:List α):List (α×Value):=(List.range l.length).map λi=>(l.getD i d,pV (f i) 0)
theorem Mc (d:a) (f:Nat ->Nat) (l:List a):(Ua d f l).map Prod.fst=l:=by
 unfold Ua;rw [fS];refine gu (by simp) λj c b=>?_
 grind
theorem Vw [DecidableEq a] {d:a} {f:Nat ->Nat} {b:Nat} (h:k∉s):BA (Ua d f s) k (pV b 0)=Ua d (MP f s.length b) (s++ [k]):=by
 rw [bu (by rw [Mc];exact h)];unfold Ua;rw [Δ,Φ,gT,fU,List.map_singleton,Fo]
 grind [fi,Cz]
theorem Vx [DecidableEq a] [BEq a] [LawfulBEq a] (c:s.Nodup) {i:Nat} (b:i<s.length) (e:s[i]=k):A1 (Ua y t s) k z=pV (t i) 0:=by
 refine mQ (by rw [Mc];exact c) ?_;exact κ.2 ⟨i,Θ.2 b,by rw [EQ y b,e]⟩
theorem np [DecidableEq a] (h:k∉s):A1 (Ua y t s) k z=z:=EM (by rw [Mc];exact h)
def MT (rs:List AM) (i j:Nat):Int:=Bc (rs.getD i Ey) (rs.getD j Ey)
theorem QC (a:List AM):PC (MT a):=MV.comap λi=>a.getD i Ey
def HH (rs:List AM):List Nat:=(List.range rs.length).mergeSort λi j=>decide (MT rs i j<=0)
theorem eG (a:List AM):(HH a).Perm (List.range a.length):=List.mergeSort_perm _ _
theorem Xq (E:g.Nodup) {l:List Nat} (v:l.Perm (List.range g.length)) (r:l.Pairwise λa b=>¬MT g b a<0):l=HH g:=by
 have k:∀f:List Nat,f.Perm (List.range g.length) ->(f.Pairwise λa b=>¬MT g b a<0) ->f.Pairwise λa b=>MT g a b<0:=λf u r=>by
  have s:f.Pairwise λa b=>a≠b:=u.nodup_iff.2 List.nodup_range;have F:∀x∈f,x<g.length:=λx w=>Θ.1 (u.mem_iff.1 w);refine iv (λ{a b} H G h=>?_) (r.and s);have o:=(QC g).anti a b
  by_cases C:MT g a b=0
  .exfalso
   have I:=DK.1 C
   grind [List.getElem_inj]
  omega
 refine mP (R:=λa b=>MT g a b<0) (λx=>by rw [(QC g).refl];omega) (λx y z=>(QC g).trans x y z) (k l v r) (k _ (eG g) ?_) λx=>v.mem_iff.trans (eG g).mem_iff.symm;have:=List.pairwise_mergeSort (le:=λi j=>decide (MT g i j<=0)) (λa b c o A=>?_) (λa b=>?_) (List.range g.length)
 .refine List.Pairwise.imp (λ{a b} h=>?_) this;have o:=(QC g).anti a b
  grind
 .have B:MT g a b<=0:=by simpa using o
  have t:MT g b c<=0:=by simpa using A
  have:MT g a c<=0:=by
   by_cases D:MT g a b=0
   .rw [(QC g).eqv a b c D];exact t
   .by_cases K:MT g b c=0
    .have N:=(QC g).anti b c;have J:=(QC g).eqv c b a (by omega);have M:=(QC g).anti a c;have L:=(QC g).anti a b;omega
    .have:=(QC g).trans a b c (by omega) (by omega);omega
  grind
 .have o:=(QC g).anti a b
  grind
abbrev ER (D:List (AM×Int)) (r:AM):Int:=A1 D r 0
def et (ds:List (List (AM×Int))) (r:AM):List Nat:=(List.range ds.length).filter λi=>decide (ER (ds.getD i []) r<0)
def Io (x:eY):Po:=⟨x.r,x.n,0,none,[],0⟩
def YH (ds:List (List (AM×Int))) (x:eY):Po:=⟨x.r,x.n,(ds.map λD=>ER D x.r).sum,none,et ds x.r,0⟩
def V5 (rs:List AM) (D:List (AM×Int)):List (Nat×Int):=(D.filter λd=>decide (d.1∈rs)).map λd=>(rs.idxOf d.1,d.2)
def gn (rs:List AM) (ds:List (List (AM×Int))) (D:List (AM×Int)):List (Nat×Nat):=(D.filter λd=>decide (d.1∈rs) && decide (d.2<0)).map λd=>(rs.idxOf d.1,(et ds d.1).length)
def nG (rs:List AM) (ds:List (List (AM×Int))) (x:eR) (D:List (AM×Int)):Nd:=⟨x,none,V5 rs D,none,gn rs ds D,true⟩
def Jb (rs:List AM) (its:List eR) (k:Nat):List Nd:=(List.range k).map λi=>nG rs ((its.map eS).take i) (its.getD i eT) (eS (its.getD i eT))
def Ea (ro:List eY) (its:List eR) (k:Nat):fC:=⟨Jb (ro.map eY.r) its k,ro.map (YH ((its.map eS).take k)),none,none⟩
def D5 (ro:List eY) (its:List eR) (k t:Nat):fC:=⟨Jb (ro.map eY.r) its k++ [nG (ro.map eY.r) ((its.map eS).take k) (its.getD k eT) ((eS (its.getD k eT)).take t)],ro.map (YH ((its.map eS).take k++ [(eS (its.getD k eT)).take t])),none,none⟩
theorem V4 (h:o.1∈g):V5 g (T++ [o])=V5 g T++ [(g.idxOf o.1,o.2)]:=by grind [V5]
theorem RC (h:o.1∉g):V5 g (T++ [o])=V5 g T:=by grind [V5]
theorem bG (h:o.1∈g) (a:o.2<0):gn g j (T++ [o])=gn g j T++ [(g.idxOf o.1,(et j o.1).length)]:=by grind [gn]
theorem Q0 (h:¬(o.1∈g/\o.2<0)):gn g j (T++ [o])=gn g j T:=by grind [gn]
theorem YY (a:List (List (AM×Int))) (D:List (AM×Int)) (r:AM):et (a++ [D]) r=et a r++if ER D r<0 then [a.length] else []:=by
 unfold et;rw [Δ,Φ,gT,iJ]
 grind [iD]
theorem FC (a:List (List (AM×Int))) (D:List (AM×Int)) (x:eY):YH (a++ [D]) x=⟨x.r,x.n,(YH a x).sum+ER D x.r,none,(YH a x).q++(if ER D x.r<0 then [a.length] else []),0⟩:=by
 unfold YH;rw [YY,fU,i6]
 simp
theorem YU:D5 i h u 0=⟨(Ea i h u).nd++ [⟨h.getD u eT,none,[],none,[],true⟩],(Ea i h u).po,none,none⟩:=by
 unfold D5 Ea
 congr 1
 grind [fi,FC,YH,A1]
theorem YW (a:u<h.length):D5 i h u (eS (h.getD u eT)).length=Ea i h (u+1):=by grind [D5,Ea,Jb,gT,χ]
theorem YV {t:Nat} (a:t<(eS (h.getD u eT)).length) (b:((eS (h.getD u eT))[t]).1∉i.map eY.r):D5 i h u (t+1)=D5 i h u t:=by grind [D5,χ,nG,RC,Q0,fi,FC,DG]
theorem jP (x:eR):((eS x).map Prod.fst).Nodup:=by
 unfold eS
 split
 .have:=KM (fX x);show ((LI (fX x)).map Prod.fst).Pairwise _;rw [fz];refine this.imp λ{a b} h e=>?_;rw [e,MV.refl] at h;omega
 .exact List.nodup_nil
theorem YX (E:(i.map eY.r).Nodup) {t j:Nat} (O:u<=h.length) (J:t<(eS (h.getD u eT)).length) (C:j<i.length) (A:(i.map eY.r).idxOf ((eS (h.getD u eT))[t]).1=j) (B:((eS (h.getD u eT))[t]).1∈i.map eY.r) {x:Nd} {y:Po} (N:(D5 i h u t).nd[u]? =some x) (I:(D5 i h u t).po[j]? =some y):
  D5 i h u (t+1)=⟨(D5 i h u t).nd.set u (pB x j y.q.length ((eS (h.getD u eT))[t]).2),(D5 i h u t).po.set j (pA y u ((eS (h.getD u eT))[t]).2),none,none⟩:=by
 obtain ⟨d,G⟩:∃d,(eS (h.getD u eT))[t]=d:=⟨_,Z⟩
 rw [G] at A B⊢
 have v:d.1∉((eS (h.getD u eT)).take t).map Prod.fst:=λb=>by
  grind [jP,jH]
 have K:(Jb (i.map eY.r) h u).length=u:=by unfold Jb;simp
 have s:((h.map eS).take u).length=u:=by simp;omega
 have L:x=nG (i.map eY.r) ((h.map eS).take u) (h.getD u eT) ((eS (h.getD u eT)).take t):=by
  grind [D5]
 have l:(i.map (YH ((h.map eS).take u++ [(eS (h.getD u eT)).take t])))[j]? =some y:=I;rw [η,ω C] at l;have H:y=YH ((h.map eS).take u++ [(eS (h.getD u eT)).take t]) i[j]:=(Option.some.inj l).symm
 have c:i[j].r=d.1:=by
  have g:=List.getElem_idxOf (jG B);simp only [A,ft] at g;exact g
 have w:ER ((eS (h.getD u eT)).take t) d.1=0:=EM v
 have D:y.q.length=(et ((h.map eS).take u) d.1).length:=by
  rw [H,FC,c,w];show (et _ _++_).length=_;rw [c];simp
 unfold D5;rw [χ J,G]
 congr 1
 .rw [List.set_append_right _ _ (by omega),K,Nat.sub_self,List.set_cons_zero]
  congr 2
  rw [L];unfold nG pB;rw [V4 B,A,D]
  by_cases f:d.2<0
  .rw [bG B f,A,ϱ f]
  .rw [Q0 (λb=>f b.2),θ f]
 .refine i8 λa=>?_;rw [jB]
  by_cases e:j=a
  .subst e;rw [ϱ Z,ϱ (by simpa using C),η,ω C];show some _=some _
   congr 1
   rw [H];unfold pA;rw [FC,FC,c];have g:ER ((eS (h.getD u eT)).take t++ [d]) d.1=d.2:=D0 v;rw [g,w,s,c.symm];simp only [Int.add_zero,Po.mk.injEq,true_and,and_true]
   by_cases f:d.2<0
   .simp [f]
   .simp [f]
  .rw [θ e,η,η]
   cases hi:i[a]? with
   | none=>rfl
   | some z=>
    show some _=some _
    congr 1
    have o:=(φ.1 hi)
    have F:z.r≠d.1:=λM=>e (by
     have g:(i.map eY.r)[j]'(by simpa using C)=(i.map eY.r)[a]'(by simpa using o.1):=by
      rw [ft,ft,o.2,c,M]
     exact (List.getElem_inj E).1 g)
    rw [FC,FC];have:ER ((eS (h.getD u eT)).take t++ [d]) z.r=ER ((eS (h.getD u eT)).take t) z.r:=DG F;rw [this]
end Go.Proofs.YteifpcnphnhaoaaGreat
namespace Go.Proofs.YteifpcnphnhaoaaGreat
open Go.RowKit Go.Shelf
variable {a:Nat ->Prop} {w:World} {c:Value} {x:D}
set_option maxRecDepth 100000
def jC:D ->D
 | .sl (some true) []=> .raw (.slice none 0 0)
 | x=>x
def u1:D ->D
 | .agg cs=> .agg (cs.map jC)
 | x=>jC x
theorem bc (x:D):(jC x).one=x.one:=by
 unfold jC
 split<;>rfl
theorem AN.nrm1 (h:AN w a x c):AN w a (jC x) c:=by
 unfold Go.Proofs.YteifpcnphnhaoaaGreat.jC
 split
 .cases h with
  | sl k i g f z u y A t=>
   rename_i b n s
   have r:=i true rfl
   have o:b=none:=by cases b with
    | none=>rfl
    | some _=>cases r
   subst o;have l:=g rfl;have j:n=0:=f.symm;subst l j;exact .raw rfl
 .exact h
theorem AN.nrm (h:AN w a x c):AN w a (u1 x) c:=by
 unfold Go.Proofs.YteifpcnphnhaoaaGreat.u1
 split
 .rename_i l
  cases h with
  | agg k o j=>
   refine .agg (by rw [k,ψ]) (λb f=>?_) λi b c f g=>?_
   .grind [bc]
   .rw [η] at f
    cases hd:l[i]? with
    | none=>rw [hd] at f;cases f
    | some d=>
     rw [hd] at f;injection f with f;subst f
     exact (j i d c hd g).nrm1
 .exact h.nrm1
section
variable {P:Program} {F:Fr} {Q:Exit ->AS ->Prop} {ops:Array Oper} {l:List Oper} {n:Nat} {env:List (Nat×AV)} {hp:Hp}
theorem bZ (t:Nat) {x:D} (k:get env t=some (.d x)) (h:A8 P F ops l Q ⟨n,(t,.d (u1 x))::env,hp⟩):A8 P F ops l Q ⟨n,env,hp⟩:=λi c w b=>h i c w ⟨b.size,b.defs,λj a f=>by
 rcases LR f with ⟨rfl,rfl⟩ | ⟨_,f⟩
 .have g:=b.env t _ k
  generalize c.tmps.getD t undef=v at g⊢
  cases g with
  | d h=>exact .d h.nrm
 .exact b.env j a f,b.heap⟩
end
variable {N:fC} {M:MF} {a:List eR} {c:List eY} {y:Po} {x:Nd} {i f:Nat}
def aK (M:MF) (h:Hd) (E:TypeId) (ys:List D):MF:=match h with
 | none=>M
 | some (b,c)=>BJ M b (.row E 1 c ys)
theorem Yj {f:Nat}:∀(H a:Hp),eQ H f=some [.multi M] ->B4 H f M=some a ->a=H:=by
 intro H
 induction H with
 | nil=>intro a h;cases h
 | cons p r b=>
  grind [eQ,B4]
theorem Zx {P:Program} {r:Ren} {j:Type} (L:SlLaysF.n6 P r) {E:TypeId} {g g6:FuncId} {T:Func} (Q:P.funcs[g]? =some T) (N:(T.name== "runtime.NumGoroutine")=false) {c:Code} (o:T.body=some c)
  {bl:j ->Nat} {px:j ->List D} {tx:j ->TypeId} (G:j ->j ->Int) (hO:Go.Sort.SWO (ltOf G)) (i k:List j) (J:i.length<4611686018427387904) (hc:∀x∈i,∀y∈i,AK P g [.d (.ptr (.agg (px x))),.d (.ptr (.agg (px y)))] (.raw (.int .i64 (G x y))))
  (hu:∀H:List j,H.Perm i ->H.Pairwise (λa b=>¬G b a<0) ->H=k)
  {F:Fr} {s:AS} {d:Nat} {x y:Operand} {ty:TypeId} {I:String} {V:Array Edge} {gd:Option (Nat×Bool)} {U:Array TypeId} {f n:Nat} {h:Hd} {fa:AV} {t:List D} {A:Hp}
  (X:r.f 6=g6) (Z:eQ s.hp f=some [.multi M]) (K:∀x∈i,M (bl x)=some (.cells (tx x) (px x))) (S:∀x∈i,∀c∈px x,c.one=true) (u:s.ev x=some (.d (fE h n))) (W:s.ev y=some fa) (R:∀w O ρ v,AR w O ρ fa v ->v= .func (.func g) #[] #[]) (C:BD M h E 1 t) (z:t=i.map λx=>pD (bl x) 0) (hn:n=i.length) (l:h≠none ->i≠ []) (B:B4 s.hp f (aK M h E (k.map λx=>pD (bl x) 0))=some A) (Y:Nat.blt d s.n=true):
  AH P F ⟨some d,.call {callee:= .value (.func g6),args:= #[x,y],argTypes:=U},ty,I,V,gd⟩ s ⟨s.n,(d,.d (.tup []))::s.env,A⟩ (λ_ _=>true):=by
 match h,u,C,B,l with
 | none,u,C,B,_=>
  rw [Yj _ _ Z B];exact Xl L X u W Y
 | some (b,cap),u,C,B,l=>exact Zw L Q N o G hO i k J hc hu X Z K S u W R C.2 z hn (l (by simp)) B Y
theorem tf (h k:Nat) (o l:Nat ->Nat) (s:M h=some (YR none 0 none 0 k)):Bx h k o l ⟨[],[],none,none⟩ M:=by
 refine ⟨λi x f=>by simp at f,λj y a=>by simp at a,⟨λr=>?_,λr u b c w t v=>?_⟩,s,λi j g _=>by simp at g,λi j g _=>by simp at g,λx f=>(by cases f),λy a=>(by cases a)⟩
 .cases r<;>rfl
 .cases r<;>cases t
structure CG (p:ee):Prop where
 i:p.it.length<=30
 r:p.ro.length<=100
 x:∀x∈p.it,x.po.length<=12/\x.pa.length<=12/\x.af.length<=12
def eP (x:eR):Prop:=x.po.length<=12/\x.pa.length<=12/\x.af.length<=12
theorem CG.b {p:ee} (h:CG p):EY p:=⟨by have:=h.r;omega,by have:=h.i;omega,λi a=>by have:=h.x i a;omega⟩
theorem Q6 {g f:Type} {l:List (g×f)} (h:(l.map Prod.fst).Nodup):l.Nodup:=by
 have c:(l.map Prod.fst).Pairwise (λa b=>a≠b):=h;rw [fz] at c;exact c.imp λ{a b} h e=>h (by rw [e])
theorem MR {x:eR} (h:eP x):(eS x).length<=60:=by
 unfold eS
 split
 .have g:(dO x).length<=(fX x).length:=by
   have f:(LI (fX x)).length<=(ew (fX x)).length:=by
    have c:(LI (fX x)).Perm ((ew (fX x)).filter λd=>decide (d.2≠0)):=by
     refine (jT ?_ ?_).2 λd=>?_
     .have:=KM (fX x);refine this.imp λ{a b} h e=>?_;rw [e,MV.refl] at h;omega
     all_goals (grind [Q6,Et,GR])
    rw [c.length_eq]
    grind
   exact fO f (H6 _)
  have:=JG x;have:=h.1;have:=h.2.1;omega
 simp
theorem KL (x:eR):O7 (eS x):=by
 unfold eS
 split
 .rename_i b
  intro d a;exact nR b d ((GR _ _).1 a).1
 .intro d a;cases a
theorem XL {D:List (AM×Int)} (h:O7 D) (r:AM): -1000000000000000<=ER D r/\ER D r<=1000000000000000:=by
 unfold ER
 induction D with
 | nil=>simp [A1]
 | cons d D a=>
  grind [A1,O7]
theorem WD:∀{ds:List (List (AM×Int))} (_:∀D∈ds,O7 D) (r:AM),-(ds.length*1000000000000000)<=(ds.map λD=>ER D r).sum/\(ds.map λD=>ER D r).sum<=ds.length*1000000000000000
 | [],_,r=>by simp
 | D::ds,h,r=>by
  have c:=XL (h D (fu ..)) r;have b:=WD (ds:=ds) (λD a=>h D (gG _ a)) r;simp only [gA,hZ,i3];omega
theorem Ja (a:List (List (AM×Int))) (r:AM):(et a r).length<=a.length:=by
 unfold et
 grind
theorem Wx (a:List AM) (D:List (AM×Int)):(V5 a D).length<=D.length:=by
 unfold V5;rw [ψ];exact gM _ _
theorem WT (a:List AM) (b:List (List (AM×Int))) (D:List (AM×Int)):(gn a b D).length<=D.length:=by
 unfold gn;rw [ψ];exact gM _ _
theorem cy (h:N.nd[i]? =some x):(Ao N).nd[i]? =some (EW x):=by
 show (N.nd.map EW)[i]? =_
 grind
theorem cx (h:N.po[i]? =some y):(Ao N).po[i]? =some (CR y):=by
 show (N.po.map CR)[i]? =_
 grind
theorem eH (M:a.length<=30) (r:∀x∈a,eP x) {k t j:Nat} (i:k<a.length) (h:Ao N=D5 c a k t) (E:N.nd[k]? =some x) (C:N.po[j]? =some y):
  (-1000000000000000000<=y.sum/\y.sum<=1000000000000000000)/\x.ef.length<=100000/\x.pl.length<=100000/\y.q.length<=100000:=by
 have o:=cy E;have l:=cx C;rw [h] at o l;have u:(Jb (c.map eY.r) a k).length=k:=by unfold Jb;simp
 have A:(eS (a.getD k eT)).length<=60:=MR (r _ (by rw [EQ eT i];exact ξ i));have g:(Jb (c.map eY.r) a k++ [nG (c.map eY.r) ((a.map eS).take k) (a.getD k eT) ((eS (a.getD k eT)).take t)])[k]? =some (EW x):=o;rw [m6 (by omega),u,Nat.sub_self] at g;have G:EW x=_:=(Option.some.inj g).symm;have K:x.ef=(EW x).ef:=rfl;have J:x.pl=(EW x).pl:=rfl;have b:(c.map (YH ((a.map eS).take k++ [(eS (a.getD k eT)).take t])))[j]? =some (CR y):=l;rw [η] at b
 cases hj:c[j]? with
 | none=>rw [hj] at b;cases b
 | some z=>
  rw [hj] at b;have F:CR y=YH ((a.map eS).take k++ [(eS (a.getD k eT)).take t]) z:=(Option.some.inj b).symm;have I:y.sum=(CR y).sum:=rfl;have H:y.q=(CR y).q:=rfl;have w:((a.map eS).take k++ [(eS (a.getD k eT)).take t]).length<=31:=by simp;omega
  have B:=WD (ds:=(a.map eS).take k++ [(eS (a.getD k eT)).take t]) (λD f=>by
   rcases ν.1 f with f | f
   .obtain ⟨x,_,rfl⟩:=κ.1 (gk f);exact KL x
   .rw [ζ.1 f];exact (KL _).take t) z.r
  have L:=Ja ((a.map eS).take k++ [(eS (a.getD k eT)).take t]) z.r;have v:=Wx (c.map eY.r) ((eS (a.getD k eT)).take t);have s:=WT (c.map eY.r) ((a.map eS).take k) ((eS (a.getD k eT)).take t);rw [Ξ] at v s;rw [K,J,I,H,G,F];unfold YH nG;dsimp only
  generalize (List.map (λD=>ER D z.r) (List.take k (List.map eS a)++ [List.take t (eS (a.getD k eT))])).sum=S at B⊢
  generalize (List.take k (List.map eS a)++ [List.take t (eS (a.getD k eT))]).length=m at*
  omega
theorem q5 (b:(c.map eY.r).Nodup) {k t j:Nat} (v:k<a.length) (s:t<(eS (a.getD k eT)).length) {f:fC} (h:Ao N=D5 c a k t) (u:(c.map eY.r).idxOf ((eS (a.getD k eT))[t]).1=j) (l:((eS (a.getD k eT))[t]).1∈c.map eY.r) {i:Nd} {g:Po} (A:N.nd[k]? =some x) (z:N.po[j]? =some y)
  (E:f.nd=N.nd.set k i) (C:EW i=EW (pB x j y.q.length ((eS (a.getD k eT))[t]).2)) (D:f.po=N.po.set j g) (B:CR g=CR (pA y k ((eS (a.getD k eT))[t]).2)):Ao f=D5 c a k (t+1):=by
 have r:=cy A;have o:=cx z
 have w:j<c.length:=by
  have:=jG l
  grind
 rw [h] at r o;rw [YX b (Nat.le_of_lt v) s w u l r o,<-h];unfold Ao;dsimp only;rw [E,D,List.map_set,List.map_set,C,B]
 rfl
theorem E3.del {R:RI ->fG} (h:E3 M R) {t:TypeId} {g:List D} (i:M f=some (.cells t g)):E3 (E2 M f) R:=by
 refine ⟨λr=>?_,h.2⟩;have a:=h.1 r
 cases hh:(R r).h with
 | none=>rw [hh] at a;exact a
 | some p=>
  obtain ⟨j,c⟩:=p;rw [hh] at a;refine ⟨a.1,?_⟩;rw [Gd]
  .exact a.2
  .rintro rfl;have:=a.2
   grind
theorem Bx.addN2 {v I:Nat} {a w:Nat ->Nat} (h:Bx v I a w N M) {x:Nd} (C:x.ef=[]) (Q:x.eh=none) (B:x.pl=[]) (O:x.ph=none) {bn:Nat} (hM:M bn=some (UV x)) (H:∀j,j<N.nd.length ->a j≠bn) {cap:Nat} (U:BZ (E2 M v) N.nh f=none) (Y:N.nd.length+1<=cap) {wb':Nat} (E:BJ (BZ (E2 M v) N.nh) f (.row bC 1 cap ((List.range N.nd.length).map (λj=>BH (a j))++ [BH bn])) wb'=none):
  Bx wb' I (MP a N.nd.length bn) w {N with nd:=N.nd++ [x],nh:=some (f,cap)} (BJ (BJ (BZ (E2 M v) N.nh) f (.row bC 1 cap ((List.range N.nd.length).map (λj=>BH (a j))++ [BH bn]))) wb' (YR (some (f,cap)) (N.nd.length+1) N.mh N.po.length I)):=by
 have X:∀j,((N.po.getD j CI).q.map λi=>BH (MP a N.nd.length bn i))=(N.po.getD j CI).q.map λi=>BH (a i):=λj=>fi λe o=>by
  rcases fy (l:=N.po) (d:=CI) j with g | g
  .rw [Cz (h.q _ g e o)]
  .rw [g] at o;cases o
 have hR:∀r,r≠RI.n ->CO (MP a N.nd.length bn) w {N with nd:=N.nd++ [x],nh:=some (f,cap)} r=CO a w N r:=λr W=>by
  cases r with
  | q j=>show (⟨_,_,_,(N.po.getD j CI).q.map _⟩:fG)=_;rw [X];rfl
  | m=>rfl
  | n=>exact absurd Z W
  | e i=>
   show (⟨((N.nd++ [x]).getD i Bo).eh,_,_,((N.nd++ [x]).getD i Bo).ef.map _⟩:fG)=⟨(N.nd.getD i Bo).eh,_,_,(N.nd.getD i Bo).ef.map _⟩
   rw [LA]
   split
   .rename_i e
    rw [C,Q,Ψ,iM (by omega)];rfl
   .rfl
  | p i=>
   show (⟨((N.nd++ [x]).getD i Bo).ph,_,_,((N.nd++ [x]).getD i Bo).pl.map _⟩:fG)=⟨(N.nd.getD i Bo).ph,_,_,(N.nd.getD i Bo).pl.map _⟩
   rw [LA]
   split
   .rename_i e
    rw [B,O,Ψ,iM (by omega)];rfl
   .rfl
 have T:=h.rs.del h.w
 have u:=T.upd (R':=CO (MP a N.nd.length bn) w {N with nd:=N.nd++ [x],nh:=some (f,cap)}) .n hR (b:=f) (cap:=cap) U Z (by
  show ((List.range (N.nd++ [x]).length).map _).length<=cap
  simp;exact Y)
 have F:(CO (MP a N.nd.length bn) w {N with nd:=N.nd++ [x],nh:=some (f,cap)} .n).xs=(List.range N.nd.length).map (λj=>BH (a j))++ [BH bn]:=by
  show (List.range (N.nd++ [x]).length).map _=_;rw [Δ,Φ,PW]
 rw [F] at u
 have G:∀(K:Nat) (t:TypeId) (J:List D),t≠180 ->M K=some (.cells t J) ->BJ (BJ (BZ (E2 M v) N.nh) f (.row bC 1 cap ((List.range N.nd.length).map (λj=>BH (a j))++ [BH bn]))) wb' (YR (some (f,cap)) (N.nd.length+1) N.mh N.po.length I) K=some (.cells t J):=λK t J V g=>by
  refine GJ E ?_
  have A:E2 M v K=some (.cells t J):=by
   rw [Gd]
   .exact g
   .rintro rfl;rw [h.w] at g;injection g with g;injection g with g;exact V g.symm
  exact Go.Proofs.YteifpcnphnhaoaaGreat.gp U A λc hc=>by have:=T.blk (r:= .n) hc;rw [A] at this;cases this
 refine ⟨λi z s=>?_,λj y L=>G _ _ _ (by decide) (h.p j y L),⟨λr=>LX E (u.1 r),u.2⟩,?_,λi k R G e=>?_,h.pi,λz s=>?_,λy L=>?_⟩
 .rcases iF s with ⟨A,S⟩ | ⟨A,S⟩
  .rw [Cz A];exact G _ _ _ (by decide) (h.n i z S)
  .subst A S;rw [Fo];exact G _ _ _ (by decide) hM
 .rw [EB];show _=some (A7.cells _ [fE _ (N.nd++ [x]).length,_,_]);rw [Δ];rfl
 .have hi':i<N.nd.length+1:=by simpa using R
  have hk':k<N.nd.length+1:=by simpa using G
  by_cases e1:i=N.nd.length<;>by_cases e2:k=N.nd.length
  .omega
  .subst e1;rw [Fo,Cz (by omega)] at e;exact absurd e.symm (H k (by omega))
  .subst e2;rw [Fo,Cz (by omega)] at e;exact absurd e (H i (by omega))
  .rw [Cz (by omega),Cz (by omega)] at e;exact h.ni i k (by omega) (by omega) e
 .rcases ν.1 s with s | s
  .exact h.e z s
  .have e:=ζ.1 s;subst e;refine ⟨λe o=>?_,λe o=>?_⟩
   .rw [C] at o;cases o
   .rw [B] at o;cases o
 .intro i R;have:=h.q y L i R
  simp;omega
section
variable {P:Program} {F:Fr} {s:AS} {d:Nat} {ty T T' E:TypeId} {pos:String} {aft:Array Edge} {g:Option (Nat×Bool)} {x:Operand}
theorem Ry {p:Option Addr} (b:P.underlying T=some (.pointer E)) (c:s.ev x=some (.d (.raw (.pointer p)))) (j:Nat.blt d s.n=true):AA P F ⟨some d,.binOp .neq T x (.const (.pointer none)) T',ty,pos,aft,g⟩ s d (.d (.raw (.bool (!p.isNone)))):=
 Cd _ j λl a w h=>by
  have f:=h.raw c;have i:P.pointee T=E:=by unfold Program.pointee;rw [b]
  have k:a.eval (.const (.pointer none))= .pointer none:=rfl;exact ⟨.bool (!p.isNone),by simp [execOp,f,k,TU,binOp,run_equal_pointer_nil w T p (by rw [i];exact b)],.d (.raw Z)⟩
end
section
variable {P:Program} {F:Fr} {s:AS} {d:Nat} {ty T:TypeId} {pos:String} {aft:Array Edge} {g:Option (Nat×Bool)} {x:Operand}
theorem Xm (r k:Nat) {f j b f2 l m:Nat} {t:TypeId} {u:List AV} (z:s.ev x=some (.ptr f j b)) (B:dr s.hp f j=some (.blk t u)) (E:u[b]? =some (.d (.raw (.map (some m))))) (C:dr s.hp r k=some (.addr f2 l (.map (some m)))) (G:Ay P T=true) (D:Nat.blt d s.n=true):
  AA P F ⟨some d,.load T x,ty,pos,aft,g⟩ s d (.map f2 l):=by
 have h:=A2 (F:=F) (ty:=ty) (pos:=pos) (aft:=aft) (g:=g) z B E G D;refine ⟨h.1,h.2.1,λy i w o=>?_⟩;refine mK (λa J ⟨v,I,c,H⟩=>⟨v,I,?_,H⟩) (h.2.2 y i w o)
 cases c with
 | d c=>cases c with
  | raw _=>
   obtain ⟨_,A⟩:=o.heap.sim r k _ C;exact .map A
end
variable {a:List eR} {c:List eY} {k:Nat} {N:fC} {f:ee} {g:Nat ->Nat} {h:List Nat} {i:List AM} {j:List eY} {o:Hd} {X:eR} {t:Nat} {M:MF} {s:Nat} {y:Po} {u w:Nat}
def CD (p:ee):List eY:=(HH (p.ro.map eY.r)).map λi=>p.ro.getD i Ha
def Nq (y:Po):Po:={y with mi:=y.q.length}
def bm (p:ee):fC:=⟨(Ea (CD p) (ea p) (ea p).length).nd,(Ea (CD p) (ea p) (ea p).length).po.map Nq,none,none⟩
theorem bf {a:Type} {f:eY ->a} (h:(j.map f).Nodup) (k:Nat):((j.take k).map f).Nodup:=by grind
theorem bh {f:eY ->AM} (h:(j.map f).Nodup) (c:k<j.length):f j[k]∉(j.take k).map f:=λb=>by
 have a:=bf h (k+1);rw [Db c,ip] at a;exact a.2.2 _ b _ (List.mem_singleton_self _) rfl
abbrev tz:D:= .raw (.pointer none)
theorem G9 (c:A6 f=0):(f.ro.map eY.r).Nodup:=by
 have g:=RT.1 (HX c).1;rw [List.Nodup,fz,gc];intro i j h a b e;have:=g j (Θ.2 a)
 grind [Ms,NS]
theorem rr (l:i.Nodup) (k:h.Perm (List.range i.length)) {f:Nat ->Nat} {r:AM} {z:Value} (o:r∈h.map λa=>i.getD a Ey):A1 (Ua Ey f i) r z=pV (f (h.getD ((h.map λa=>i.getD a Ey).idxOf r) 0)) 0:=by
 have b:=jG o;have c:=List.getElem_idxOf b
 generalize (h.map λa=>i.getD a Ey).idxOf r=j at b c⊢
 rw [ψ] at b;rw [ft] at c;have g:h[j]<i.length:=Θ.1 (k.mem_iff.1 (ξ b));rw [EQ Ey g] at c;rw [EQ 0 b];exact Vx l g c
theorem oO (g:h.Perm (List.range i.length)) {f:Nat ->Nat} {r:AM} {z:Value} (j:r∉h.map λa=>i.getD a Ey):A1 (Ua Ey f i) r z=z:=by
 refine np λb=>j ?_;obtain ⟨a,c,e⟩:=gF b;exact κ.2 ⟨a,g.mem_iff.2 (Θ.2 c),by rw [EQ Ey c,e]⟩
theorem Un (p:ee):(CD p).map eY.r=(HH (p.ro.map eY.r)).map λi=>(p.ro.map eY.r).getD i Ey:=by grind [CD,fi,Ha,Ey]
theorem ZE (p:ee) (b:CG p) (c:A6 p≠0):AJ prog 96 [.d (Bf p)] [] λr f=>r= .d (.tup [tz,AF (A6 p)])/\f=[]:=by
 have a:=FD p b.b;refine As func96 Z Z ntmps96 Z Z Z λF g=>(AC (AE (V (Bz 1 Z Z Z Z Z Z Z) (AB Z Z (AB Z Z (AD (AC (AC ?_))))))));refine AE (J (BE Z Z BM Z Z Z) (J (BT (a) Z Z) (AB Z Z (AD (AC (AE (dd Z Z (J (D7 Z Z Z) ?_))))))));refine AD (DO Z ((by simpa using c)) (AC (AE (dd Z Z (AB Z Z (AB Z Z (AD (A4 ?_))))))));exact ⟨_,[],[],A3 Z,Z,Z,Z,Z⟩
theorem jz (y:Po):∀c∈kA y,c.one=true:=by
 intro c a;simp only [fP,List.not_mem_nil,or_false] at a;rcases a with rfl | rfl | rfl | rfl | rfl | rfl | rfl | rfl | rfl | rfl<;>rfl
theorem aJ (p:ee):∀i∈List.range p.ro.length,∀j∈List.range p.ro.length,AK prog 142 [.d (.ptr (.agg (kA (Io (p.ro.getD i Ha))))),.d (.ptr (.agg (kA (Io (p.ro.getD j Ha)))))] (.raw (.int .i64 (MT (p.ro.map eY.r) i j))):=by grind [l5,Io,MT]
theorem jl (c:Bx u w (λ_=>0) g ⟨[],f.ro.map Io,none,o⟩ M):∀i∈List.range f.ro.length,M (g i)=some (.cells 190 (kA (Io (f.ro.getD i Ha)))):=λi b=>by
 have a:=Θ.1 b;refine c.p i (Io (f.ro.getD i Ha)) ?_;show (f.ro.map Io)[i]? =_;rw [η,ω a,EQ Ha a];rfl
theorem aI (a:Bx u w (λ_=>0) g ⟨[],f.ro.map Io,none,o⟩ M):
  Bx u w (λ_=>0) (λk=>g ((HH (f.ro.map eY.r)).getD k 0)) ⟨[],(CD f).map Io,none,o⟩ (aK M o WQ ((HH (f.ro.map eY.r)).map λx=>pD (g x) 0)):=by
 have v:(HH (f.ro.map eY.r)).Perm (List.range (f.ro.map Io).length):=by
  grind [eG]
 have s:(HH (f.ro.map eY.r)).map (λi=>(f.ro.map Io).getD i CI)=(CD f).map Io:=by
  grind [CD,fi]
 cases hmh:o with
 | some q=>
  obtain ⟨b,c⟩:=q;subst hmh;have h:=a.perm Z (λy l=>by obtain ⟨x,_,rfl⟩:=κ.1 l;exact ⟨Z,Z⟩) v rfl;dsimp only at h;rw [s] at h;exact h
 | none=>
  subst hmh;have C:BD M none WQ 1 ((List.range (f.ro.map Io).length).map λj=>BH (g j)):=a.rs.1 .m;have t:=UP C rfl;rw [gI,ψ] at t;have B:f.ro=[]:=ij t
  have A:(CD f).map Io=f.ro.map Io:=by
   simp_all
  rw [A];rw [B] at a⊢;exact ⟨a.n,λj y l=>by simp at l,⟨λr=>by cases r<;>rfl,λr E b c G D F=>by cases r<;>cases D⟩,a.w,a.ni,λi j z _ _=>by simp at z,a.e,a.q⟩
theorem YT (a:List eY) (b:List eR):Ao ⟨[],a.map Io,none,o⟩=Ea a b 0:=by
 unfold Ao Ea Jb;dsimp only;rw [fS]
 rfl
theorem DW (a:A6 f=0):((ea f).map eR.id).Nodup:=by
 have b:ea f=eX f.it:=ϱ a;rw [b];exact ((I9 f.it).map eR.id).nodup_iff.2 (XT (HX a).2.1)
theorem Mo (a:A6 f=0):((CD f).map eY.r).Nodup:=by grind [CD,eG,ψ,gu,EQ,G9]
theorem P6 {l:List eR} (h:(l.map eR.id).Nodup) (c:k<l.length):l[k].id∉(l.take k).map eR.id:=λb=>by
 have a:((l.take (k+1)).map eR.id).Nodup:=h.sublist ((List.take_sublist (k+1) l).map eR.id);rw [Db c,ip] at a;exact a.2.2 _ b _ (List.mem_singleton_self _) rfl
theorem oa (h:Ao N=Ea c a k):N.nd.length=k:=by grind [Jb,ψ,Ao,Ea]
theorem oN (h:Ao N=Ea c a k):N.po.length=c.length:=by grind [ψ,Ao,Ea]
theorem mR {x:eR} {nh:Hd} (b:a.getD k eT=x) (h:Ao N=Ea c a k):Ao {N with nd:=N.nd++ [⟨x,none,[],none,[],true⟩],nh:=nh}=D5 c a k 0:=by
 subst b;rw [YU,<-h];unfold Ao;dsimp only;rw [fU];rfl
theorem mT (g:a.getD k eT=X) (b:t<(eS X).length) (f:((eS X)[t]).1∉c.map eY.r):D5 c a k (t+1)=D5 c a k t:=by
 subst g;exact YV b f
theorem mS {b:List eY} (v:a.getD k eT=X) (i:(b.map eY.r).Nodup) (u:k<a.length) (l:t<(eS X).length) {c:fC} (h:Ao N=D5 b a k t) (o:(b.map eY.r).idxOf ((eS X)[t]).1=s) (r:((eS X)[t]).1∈b.map eY.r) {x g:Nd} {f:Po} (z:N.nd[k]? =some x) (w:N.po[s]? =some y)
  (D:c.nd=N.nd.set k g) (B:EW g=EW (pB x s y.q.length ((eS X)[t]).2)) (C:c.po=N.po.set s f) (A:CR f=CR (pA y k ((eS X)[t]).2)):Ao c=D5 b a k (t+1):=by grind [q5]
theorem uT (h:Ao N=D5 c a k t):N.nd.length=k+1:=by grind [Jb,Δ,Ao,D5]
theorem uS (h:Ao N=D5 c a k t):N.po.length=c.length:=by
 have b:=fL (λN=>N.po.length) h;have f:(N.po.map CR).length=(c.map _).length:=b
 grind
theorem mU (f:a.getD k eT=X) (b:k<a.length):D5 c a k (eS X).length=Ea c a (k+1):=by
 subst f;exact YW b
theorem pN (h:Ao N=Ea c a a.length):BO N=a.map eR.id:=by
 have j:N.nd.map EW=Jb (c.map eY.r) a a.length:=fL (λN=>N.nd) h;have g:BO N=(N.nd.map EW).map λx=>x.it.id:=by unfold BO;rw [fS];rfl
 rw [g,j];unfold Jb;rw [fS]
 apply gu (by simp)
 intro i f b;simp only [ft,List.getElem_range,Function.comp];show (a.getD i eT).id=_
 grind
theorem cq {b a:List Po} (f:s<b.length) (h:a=(b.take s).map Nq++b.drop s) (c:a[s]? =some y):a.set s (Nq y)=(b.take (s+1)).map Nq++b.drop (s+1):=by grind [ψ,m0]
theorem kX (g:ea f=a) (b:CD f=c):bm f=⟨(Ea c a a.length).nd,(Ea c a a.length).po.map Nq,none,none⟩:=by
 unfold bm;rw [g,b]
theorem bi {b:fC} (f:Ao N=Ea c a a.length) (h:b.nd=N.nd) (g:b.po=N.po.map Nq):Ao b=⟨(Ea c a a.length).nd,(Ea c a a.length).po.map Nq,none,none⟩:=by
 rw [<-f];unfold Ao;dsimp only;rw [h,g,fS,fS]
 rfl
theorem Tt (p:ee) (hf:CG p) (hE:A6 p=0):AJ prog 96 [.d (Bf p)] [] λr H'=>∃B u l o N M bs,r= .d (.tup [pD B 0,AF 0])/\H'=HW u bs (Fb l (BO N)) M/\Bx B u l o N M/\Ao N=bm p:=by
 have hck:=FD p hf.b;rw [hE] at hck;have hrn:=G9 hE;have hrl:=hf.r;refine As func96 Z Z ntmps96 Z Z Z λF H=>(AC (AE ?_));refine V (Bz 1 Z Z Z Z Z Z Z) (AB Z Z (AB Z Z (AD (AC (AC (AE (J (BE Z Z BM Z Z Z) (J (BT (hck) Z Z) ?_))))))));refine AB Z Z (AD (AC (AE (dd Z Z (J (D7 Z Z Z) (AD (D3 Z (Z) (AZ ?_))))))));refine AC (AE (V (O4 50 Z Z Z Z) (b6 51 50 0 Z Z Z Z Z λu=>(kU 26 51 0 (.inl Z) Z (J (Fe rA sE Z Z Z) (bZ 27 Z (V (Bz 2 Z Z Z Z Z Z Z) (AB Z Z ?_))))))));refine AD (AC (Fc 40 Z Z Z (XX 5 2 40 (ds:=[fE none 0,fE none 0,Kg (.map (some u))]) H Z Z Z Z Z Z Z Z Z Z Z (λ_=>rfl) λB hwb=>(AE (V (O4 3 Z Z Z Z) (AB Z Z (AD (AC ?_))))))));refine AC (AE (J (AU Z Dp Z Z Z) (J (A2 Z Z Z Ob Z) (J (CB Z S1 Z) (dd Z Z (AD (A0 (BX (α:=Nat×(Nat ->Nat)×Hd×MF) (λq=>⟨142,[(1,(.ptr 1 0 0)),(5,(.d (pD B 0))),(6,(.map 3 0)),(31,(.d (.sl none (p.ro.map Bt)))),(32,(.d (AF (p.ro.length:Int)))),(33,(.d (AF (q.1:Int))))],[(1,[.blk 39 [.d (.sl none (p.ro.map Bt)),.d (.sl none (p.it.map Af))]]),(3,[BB CC Kg (Ua Ey q.2.1 ((p.ro.take q.1).map eY.r))]),(40,[.multi q.2.2.2]),(50,[BB AF Kg (Fb (λ_=>0) [])]),(51,[.addr 50 0 (.map (some u))])]⟩) (λq=>q.1<=p.ro.length/\Bx B u (λ_=>0) q.2.1 ⟨[],(p.ro.take q.1).map Io,none,q.2.2.1⟩ q.2.2.2/\(q.2.2.1≠none ->0<q.1)) (λq=>p.ro.length - q.1) ((0,(λ_=>0),none,BJ (λ_=>none) B (YR none 0 none 0 u))) (⟨υ _,tf _ _ _ _ (show BJ (λ_=>none) B (YR none 0 none 0 u) B=_ from EB _ _ _),λh=>absurd Z h⟩) (AY H [1,3,40,50,51] Z Z ⟨Z,Z,Z,Z,Z,Z,trivial⟩) ?_))))))));rintro ⟨k,o,mh,M⟩ ⟨hk0,G,hmh⟩;dsimp only at hk0 G hmh⊢;refine AC (AE (J (BN Z Z Z) (AD (AC (Ac Z (λh34=>?_) (λh34=>?_))))))
 .have g:k<p.ro.length:=Ba h34;refine AZ (AC (A0 (AC ?_)));have hpl:((p.ro.take k).map Io).length=k:=by rw [ψ,Ξ];omega
  have hpr:((p.ro.take k).map eY.r).length=k:=by rw [ψ,Ξ];omega
  refine AE (J (Bh (k) Z Z (Z) (Ab g) S1 Z Ln Z) (J (GW Z Z Ui Z) ?_));refine V (Bn 4 QI Z Z Z Z) (V (B1 Z Z Z Z Z Z Z Ln) (AD (AC (AE (dd Z Z (J (AU Z EU Z Z Z) (J (BE Z Z CQ Z Z Z) (J (AU Z EU Z Z Z) ?_))))))));refine J (BE Z Z CQ Z Z Z) (J (AU Z Qp Z Z Z) (J (A2 Z Z Z Km Z) (J (Fe qx sB Z Z Z) (bZ 44 Z (V (Bz 5 Z Z Z Z Z Z Z) (ba 45 5 40 (ds:=kA (Io p.ro[k])) H Z Z Z Z Z Z Z Z Z Z Z (λ_=>rfl) λbn U=>(V (UO (Ua Ey o ((p.ro.take k).map eY.r)) (p.ro[k].r) (pV bn 0) Z Z Z Wb By Z Z) (AD ?_))))))));have hrnk:p.ro[k].r∉(p.ro.take k).map eY.r:=bh hrn g;rw [Vw hrnk,hpr,<-Db g];have dr:A1 (Ua Ey (MP o k bn) ((p.ro.take (k+1)).map eY.r)) p.ro[k].r (.pointer none)=pV bn 0:=by rw [Vx (i:=k) (bf hrn (k+1)) (by rw [ψ,Ξ];omega) (by rw [ft,List.getElem_take]),Fo]
  have A:=G.fresh (m:=UU (Io p.ro[k])) U;have hpb:((List.range k).map o).length=k:=by simp
  have I:BJ M bn (UU (Io p.ro[k])) B=some (YR none 0 mh ((List.range k).map o).length u):=by rw [hpb];have h:_=some (YR none 0 mh ((p.ro.take k).map Io).length u):=A.w;rw [hpl] at h;exact h
  have hmr:BD (BJ M bn (UU (Io p.ro[k]))) mh WQ 1 (((List.range k).map o).map BH):=by have h:BD _ mh WQ 1 ((List.range ((p.ro.take k).map Io).length).map λj=>BH (o j)):=A.rs.1 .m;rw [hpl] at h;rw [fS];exact h
  refine DB [[],[],[1],[1,2],[1,2,3],[],[],[6],[5,6,7],[5,6,7,8],[1,2,3,4,5,6,7,8,9],rg 11,rg 12,rg 13] mixed Z (DP (Av 5 Z Z (Av 5 Z Z (AQ [47] Z (DN Z Z) (AQ [48] Z (CM Z KB Z Z Z) (CK [49] [40] Z Z (λ_=>A5 (D4 (f:=40) Z Z (I) Z W1 Z)) (Av 6 Z Z (AQ [8] Z (AU Z EU Z Z Z) ?_))))))));refine CK [52] [4] Z Z (λ_=>A5 (BE Z Z CQ Z Z Z)) (CK [51,53] [3] Z Z (λ_=>A5 (HY (Ua Ey (MP o k bn) ((p.ro.take (k+1)).map eY.r)) p.ro[k].r (.pointer none) (pV bn 0) Z Z Z Wb By Z4 dr Z)) (Fp [54] [6] [(55,_)] Z Z (λ_=>Fs (D6 6 mq Z Z Z Z Z Z Z Z)) (.inr ⟨55,_,Z,Z,Z,Z,Z⟩) Z Z Z Z Z (Fp [50,55] [61,40,6] [(56,_)] Z Z (λ_=>Fs (G5 50 61 40 hmr Z Z (by simp) Z Z Z Z Z (H1 (emb:=BH) ((List.range k).map o) [bn] Z Z Z Z Z Z Z Z mq (by simp;omega) Z Z Z Z))) (.inr ⟨56,_,Z,Z,Z,Z,Z⟩) Z Z Z Z Z (Cg 11 Z Z Z (Ag 12 Z Z (Ei 56 61 40 H Z Z Z (by simp) (by simp) Z Z Z Z Z Z Z (λ_ _=>rfl) λb1 c1 hb1 hc1=>(J (DN Z Z) (AD ⟨Z,?_⟩))))))));refine Ag 13 Z Z (J (CM Z KB Z Z Z) (AD ⟨Z,?_⟩));refine Ag 14 Z Z (V (Or (f:=40) Z Z Z Z (A.keepM hb1 I) ((by show _<3;omega)) Z rP) (AD ⟨Z,?_⟩));refine Cr ?_;have e1:((List.range ((p.ro.take k).map Io).length).map (λj=>BH (o j))++ [BH bn])=((List.range k).map o++ [bn]).map BH:=by rw [hpl,fU,fS];rfl
  have e2:((List.range k).map o++ [bn]).length=((p.ro.take k).map Io).length+1:=by simp;omega
  have O:=A.addM (y:=Io p.ro[k]) (bn:=bn) Z Z (EB _ _ _) (λj hj e=>by have h1:=G.p j _ (ω hj);rw [e,U] at h1;cases h1) hb1 (cap:=c1) (by have h:=hc1;simp at h⊢;omega);dsimp only at O;rw [e1,<-e2,<-Db g,hpl] at O;refine AE (J (Ar Z Z (Ω _ (by omega)) Z) (dd Z Z (AD ?_)));exact ⟨(k+1,MP o k bn,some (b1,c1),_),⟨by show k+1<=_;omega,O,λ_=>Nat.succ_pos _⟩,by show p.ro.length - (k+1)<p.ro.length - k;omega,AY H [1,3,40,50,51] Z (Z) ⟨Z,Z,Z,Z,Z,Z,trivial⟩⟩
 .refine BC (AC ?_);have hkk:k=p.ro.length:=by have h:=h34;omega
  subst hkk;rw [fw] at G⊢;have Q:M B=some (YR none 0 mh p.ro.length u):=by have h:_=some (YR none 0 mh (p.ro.map Io).length u):=G.w;rw [ψ] at h;exact h
  have hR3:=aI G;have hmr:BD M mh WQ 1 ((List.range p.ro.length).map λj=>BH (o j)):=by have h:BD _ mh WQ 1 ((List.range (p.ro.map Io).length).map λj=>BH (o j)):=G.rs.1 .m;rw [ψ] at h;exact h
  refine AE (dd Z Z (J (DN Z Z) (J (CM Z KB Z Z Z) (J (D4 (f:=40) Z Z (Q) Z W1 Z) (V (Zx oh func142 Z Z (f:=40) (bl:=o) (px:=λj=>kA (Io (p.ro.getD j Ha))) (tx:=λ_=>190) (MT (p.ro.map eY.r)) (QC _).swo (List.range p.ro.length) (HH (p.ro.map eY.r)) (by simp;omega) (aJ p) (λys h1 h2=>Xq hrn (by rw [ψ];exact h1) h2) Z Z (jl G) (λ_ _=>jz _) Z Z LF hmr Z (by simp) (λh=>by have h1:=hmh h;intro h2;have h3:=fL List.length h2;rw [gI,List.length_nil] at h3;omega) Z Z) (AD (AC (AC ?_))))))))
  obtain ⟨a,v⟩:∃a,ea p=a:=⟨_,Z⟩
  have hoi:=F1 p hf.b;rw [v] at hoi
  obtain ⟨c,s⟩:∃c,CD p=c:=⟨_,Z⟩
  have hitl:a.length<=30:=by rw [<-v];exact fO (DX p) hf.i
  have hrol:c.length<=100:=by rw [<-s];unfold CD;rw [ψ,(eG _).length_eq,gI,ψ];exact hrl
  have hitx:∀x∈a,eP x:=λx hx=>hf.x x (Hc (p:=p) (by rw [v];exact hx));have hin:(a.map eR.id).Nodup:=by rw [<-v];exact DW hE
  have hroN:(c.map eY.r).Nodup:=by rw [<-s];exact Mo hE
  have hpin:=λ(r:AM) (h:r∈c.map eY.r)=>rr (z:= .pointer none) hrn (eG (p.ro.map eY.r)) (f:=o) (r:=r) (by rw [<-Un,s];exact h);have R:=λ(r:AM) (h:r∉c.map eY.r)=>oO (z:= .pointer none) (eG (p.ro.map eY.r)) (f:=o) (r:=r) (by rw [<-Un,s];exact h);rw [<-Un,s] at hpin;rw [s] at hR3
  generalize aK M mh WQ ((HH (p.ro.map eY.r)).map λx=>pD (o x) 0)=M2 at hR3⊢
  obtain ⟨w,hpb2⟩:∃f:Nat ->Nat,(λk=>o ((HH (p.ro.map eY.r)).getD k 0))=f:=⟨_,Z⟩
  rw [hpb2] at hR3;have S:∀r,r∈c.map eY.r ->A1 (Ua Ey o (p.ro.map eY.r)) r (.pointer none)=pV (w ((c.map eY.r).idxOf r)) 0:=λr h=>by rw [hpin r h,<-hpb2]
  obtain ⟨pm,hpm⟩:∃m,Ua Ey o (p.ro.map eY.r)=m:=⟨_,Z⟩
  rw [hpm] at S R⊢;refine AE (J (BE Z Z BM Z Z Z) (J (BT (hoi) Z Z) (J (CB Z E0 Z) (dd Z Z (AD (A0 (BX (α:=Nat×Nat×(Nat ->Nat)×fC×MF) (λq=>⟨142,[(1,(.ptr 1 0 0)),(5,(.d (pD q.2.1 0))),(6,(.map 3 0)),(66,(.d (.sl none ((a.map eR.id).map AF)))),(67,(.d (AF ((a.map eR.id).length:Int)))),(68,(.d (AF (q.1:Int))))],[(1,[.blk 39 [.d (.sl none (p.ro.map Bt)),.d (.sl none (p.it.map Af))]]),(3,[BB CC Kg pm]),(40,[.multi q.2.2.2.2]),(50,[BB AF Kg (Fb q.2.2.1 ((a.take q.1).map eR.id))]),(51,[.addr 50 0 (.map (some u))])]⟩) (λq=>q.1<=a.length/\Bx q.2.1 u q.2.2.1 w q.2.2.2.1 q.2.2.2.2/\Ao q.2.2.2.1=Ea c a q.1) (λq=>a.length - q.1) ((0,B,(λ_=>0),⟨[],c.map Io,none,mh⟩,M2)) (⟨υ _,hR3,YT c a⟩) (AY H [1,3,40,50,51] Z Z ⟨Z,Z,Z,Z,Z,Z,trivial⟩) ?_)))))));rintro ⟨k,B,l,N,M⟩ ⟨hk0,G,hT⟩;dsimp only at hk0 G hT⊢;refine AC (AE (J (BN Z Z Z) (AD (AC (Ac Z (λh69=>?_) (λh69=>?_))))))
  .have g:k<a.length:=by have h:=h69;rw [ψ] at h;exact Ba h
   refine AZ (AC (A0 (AC ?_)))
   obtain ⟨X,hX⟩:∃X,a.getD k eT=X:=⟨_,Z⟩
   have L:a[k]=X:=by rw [<-hX,EQ eT g]
   have hidk:X.id∉(a.take k).map eR.id:=by rw [<-L];exact P6 hin g
   have hitk:N9 a X.id=(X,true):=by have h:=Sy g (P6 hin g) rfl;rw [L] at h;exact h
   have hip:=pE p X.id hf.b;rw [v,hitk] at hip;have hk70:((a.map eR.id).map AF)[k]? =some (AF X.id):=by rw [η,η,ω g,L];rfl
   refine AE (J (Bh (k) Z Z (Z) (hk70) E0 Z BU Z) (J (D2 Z Z Aw Z) (AB Z Z (AD (AC (AE (J (BE Z Z BM Z Z Z) (dd Z Z ?_))))))));refine J (BT (hip) Z Z) (dd Z Z (J (C6 Z Z Z) (J (C6 Z Z Z) (V (Bn 7 E4 Z Z Z Z) (V (B1 Z Z Z Z Z Z Z CY) (AB Z Z (AD (AC ?_))))))));refine AE (J (BE Z Z Bs Z Z Z) (J (Fe qz sD Z Z Z) (bZ 79 Z (V (Bz 8 Z Z Z Z Z Z Z) (AB Z Z (AD (AC (XX 13 8 40 (ds:=u3 ⟨X,none,[],none,[],true⟩) H Z Z Z Z Z Z Z Z Z Z Z (λ_=>rfl) λbn U=>?_))))))));have hNk:N.nd.length=k:=oa hT;have A:=G.fresh (m:=UV ⟨X,none,[],none,[],true⟩) U;have hnb:((List.range k).map l).length=k:=by simp
   have I:BJ M bn (UV ⟨X,none,[],none,[],true⟩) B=some (YR N.nh ((List.range k).map l).length N.mh N.po.length u):=by rw [hnb];have h:_=some (YR N.nh N.nd.length N.mh N.po.length u):=A.w;rw [hNk] at h;exact h
   have hnr:BD (E2 (BJ M bn (UV ⟨X,none,[],none,[],true⟩)) B) N.nh bC 1 (((List.range k).map l).map BH):=by have h:BD _ N.nh bC 1 ((List.range N.nd.length).map λj=>BH (l j)):=(A.rs.del A.w).1 .n;rw [hNk] at h;rw [fS];exact h
   refine mB 5 20 40 Z Z Z I Z Z Z Z (DB [[],[],[1],[1,2],[1,2,3],[],[],[6],[6,7],[6,7,8],[],[10],[6,7,8,9,10,11],[],[0,1,2,3,4,6,7,8,9,10,11,12],[0,1,2,3,4,6,7,8,9,10,11,12,14],[0,1,2,3,4,6,7,8,9,10,11,12,14,15],[0,1,2,3,4,5,6,7,8,9,10,11,12,14,15,16],[0,1,2,3,4,5,6,7,8,9,10,11,12,14,15,16,17],rg 19] mixed Z (DP (Av 5 Z Z (Av 5 Z Z (AQ [82] Z (KS Z Z) (AQ [83] Z (AU Z MO Z Z Z) (CK [84] [20,51] Z Z (λ_=>A5 (Xm 51 0 Z Z Z Z W0 Z)) ?_)))))));refine Av 10 Z Z (Av 5 Z Z (AQ [87] Z (KS Z Z) (AQ [88] Z (AU Z IY Z Z Z) (CK [89] [20] Z Z (λ_=>A5 (A2 Z Z Z GH Z)) (Av 13 Z Z (Fp [91] [9] [(92,_)] Z Z (λ_=>Fs (D6 9 WK Z Z Z Z Z Z Z Z)) (.inr ⟨92,_,Z,Z,Z,Z,Z⟩) Z Z Z Z Z (Fp [90,92] [60,40,9] [(93,_)] Z Z (λ_=>Fs (G5 90 60 40 hnr Z Z (by simp) Z Z Z Z Z (H1 (emb:=BH) ((List.range k).map l) [bn] Z Z Z Z Z Z Z Z WK (by simp;omega) Z Z Z Z))) (.inr ⟨93,_,Z,Z,Z,Z,Z⟩) Z Z Z Z Z (Av 13 Z Z ?_))))))));refine AQ [81] Z (KS Z Z) (AQ [95] Z (AU Z IY Z Z Z) (Fp [96,93] [20,60] [] Z Z (λ_=>Fs (B1 Z Z Z Z Z Z Z me)) (.inl ⟨Z,Z⟩) Z Z Z Z Z (Fp [85,86] [50] [(97,_)] Z Z (λ_=>Fs (G1 (Fb l ((a.take k).map eR.id)) (X.id) ((.pointer none)) Z Z Z Wc HS Vo Z Z)) (.inr ⟨97,_,Z,Z,Z,Z,Z⟩) Z Z Z Z Z (AQ [97] Z (Cf Z Z Z) (Cg 19 Z Z Z (Ag 20 Z Z (V (G3 (Fb l ((a.take k).map eR.id)) (X.id) ((.pointer none)) (pV bn 0) Z Z Z HS Z Z) (AD ⟨Z,?_⟩))))))));refine Cr (AC (Vh 93 60 40 20 0 H Z Z Z (by simp) (by simp) Z Z (λ_ _=>rfl) (λ_ _=>rfl) Z (λ_ _=>rfl) (λ_ _=>rfl) Z Z (λ_ _=>rfl) (λ_ _=>rfl) (λ_ _=>rfl) (λ_ _=>rfl) λb1 c1 hb1 hc1=>(XX 5 20 40 (ds:=[fE (some (b1,c1)) ((List.range k).map l++ [bn]).length,fE N.mh N.po.length,Kg (.map (some u))]) H Z Z Z Z Z Z Z Z Z Z Z (λ_=>rfl) λwb2 Q=>?_)));have hby:BA (Fb l ((a.take k).map eR.id)) X.id (pV bn 0)=Fb (MP l k bn) ((a.take (k+1)).map eR.id):=by have h:=Vw (d:=(0:Int)) (f:=l) (b:=bn) hidk;rw [show ((a.take k).map eR.id).length=k by rw [ψ,Ξ];omega,<-L,<-Db g] at h;rw [<-L];exact h
   rw [hby];have e1:((List.range N.nd.length).map (λj=>BH (l j))++ [BH bn])=((List.range k).map l++ [bn]).map BH:=by rw [hNk,fU,fS];rfl
   have e2:((List.range k).map l++ [bn]).length=N.nd.length+1:=by simp;omega
   have O:=A.addN2 (x:=⟨X,none,[],none,[],true⟩) (bn:=bn) Z Z Z Z (EB _ _ _) (λj hj e=>by have h1:=G.n j _ (ω hj);rw [e,U] at h1;cases h1) hb1 (cap:=c1) (by have h:=hc1;simp at h;omega) (wb':=wb2) (by rw [e1];exact Q);rw [e1,<-e2,hNk] at O;have hT0:=mR (x:=X) (nh:=some (b1,c1)) hX hT;have hfk:eP X:=hitx X (by rw [<-L];exact ξ g);have hdl:=MR hfk;refine AE (J (BE Z Z Bs Z Z Z) (J (BT (T4 X (by have h:=hfk.1;omega) (by have h:=hfk.2.1;omega) (by have h:=hfk.2.2;omega)) Z Z) (dd Z Z (J (C6 Z Z Z) (J (C6 Z Z Z) (AB Z Z (AB Z Z ?_)))))));refine AD (AC (AE (dd Z Z (J (CB Z underlying215 Z) (dd Z Z (AD (A0 (BX (α:=Nat×fC×MF) (λr=>⟨142,[(1,(.ptr 1 0 0)),(5,(.d (pD wb2 0))),(6,(.map 3 0)),(66,(.d (.sl none ((a.map eR.id).map AF)))),(67,(.d (AF ((a.map eR.id).length:Int)))),(68,(.d (AF (k:Int)))),(13,(.d (pD bn 0))),(104,(.d (.sl none ((eS X).map Oj)))),(105,(.d (AF ((eS X).length:Int)))),(106,(.d (AF (r.1:Int))))],[(1,[.blk 39 [.d (.sl none (p.ro.map Bt)),.d (.sl none (p.it.map Af))]]),(3,[BB CC Kg pm]),(40,[.multi r.2.2]),(50,[BB AF Kg (Fb (MP l k bn) ((a.take (k+1)).map eR.id))]),(51,[.addr 50 0 (.map (some u))])]⟩) (λr=>r.1<=(eS X).length/\Bx wb2 u (MP l k bn) w r.2.1 r.2.2/\Ao r.2.1=D5 c a k r.1) (λr=>(eS X).length - r.1) ((0,_,_)) (⟨υ _,O,hT0⟩) (AY H [1,3,40,50,51] Z Z ⟨Z,Z,Z,Z,Z,Z,Z,Z,Z,Z,trivial⟩) ?_))))))));rintro ⟨t,N3,M3⟩ ⟨ht0,hR4,D⟩;dsimp only at ht0 hR4 D⊢;refine AC (AE (J (BN Z Z Z) (AD (AC (Ac Z (λY=>?_) (λY=>?_))))))
   .have ht1:t<(eS X).length:=Ba Y;refine AZ (AC (A0 (AC (AE (J (Bh (t) Z Z (Z) (Ab ht1) underlying215 Z Vz Z) ?_)))));refine J (GW Z Z mw Z) (V (Bn 10 ZZ Z Z Z Z) (V (B1 Z Z Z Z Z Z Z Vz) (AD (AC (AE (dd Z Z (J (AU Z Jw Z Z Z) (J (BE Z Z CQ Z Z Z) ?_))))))))
    by_cases hm:((eS X)[t]).1∈c.map eY.r
    .refine J (HY pm ((eS X)[t]).1 (.pointer none) (pV (w ((c.map eY.r).idxOf ((eS X)[t]).1)) 0) Z Z Z Wb By Z4 (S _ hm) Z) (AB Z Z (AD (AC (AE (dd Z Z (J (Ry underlying186 Z Z) (AD (DO Z (Z) ?_))))))));have hnl3:N3.nd.length=k+1:=uT D;have hpl3:N3.po.length=c.length:=uS D
     obtain ⟨x,hx⟩:∃x,N3.nd[k]? =some x:=⟨_,ω (by omega)⟩
     have hjl:(c.map eY.r).idxOf ((eS X)[t]).1<N3.po.length:=by rw [hpl3];have h:=jG hm;rw [ψ] at h;exact h
     obtain ⟨y,hy⟩:∃y,N3.po[(c.map eY.r).idxOf ((eS X)[t]).1]? =some y:=⟨_,ω hjl⟩
     have hbd:=eH hitl hitx g D hx hy;have hda:=KL X _ (ξ ht1);have hj:=oy hR4 hx hy ((eS X)[t]).2 ⟨by omega,by omega⟩ hbd.1 hbd.2.1 hbd.2.2.1 hbd.2.2.2;rw [Fo] at hj;refine AE (dd Z Z (dd Z Z (J (AU Z Wv Z Z Z) (J (A2 Z Z Z Km Z) ?_))));refine RX (UY hj Z [40] ⟨Z,trivial⟩ Z Z Z Z (λr H' ⟨e1,N',M',e2,_⟩=>by subst e1 e2;exact ⟨Z,Z,Z⟩) Z) Z ?_;rintro _ ⟨r,H',⟨rfl,N4,M4,rfl,E,hnh4,hmh4,⟨x',hx4,ex4⟩,y',hy4,ey4⟩,rfl⟩;refine AD (AE (J (Ar Z Z (Ω _ (by omega)) Z) (dd Z Z (AD ?_))));exact ⟨(t+1,N4,M4),⟨by show t+1<=_;omega,E,mS hX hroN g ht1 D Z hm hx hy hx4 ex4 hy4 ey4⟩,by show (eS X).length - (t+1)<(eS X).length - t;omega,AY H [1,3,40,50,51] Z (Z) ⟨Z,Z,Z,Z,Z,Z,Z,Z,Z,Z,trivial⟩⟩
    .refine J (HY pm ((eS X)[t]).1 (.pointer none) (.pointer none) Z Z Z Wb By Z4 (R _ hm) Z) (AB Z Z (AD (AC (AE ?_))));refine dd Z Z (J (Ry underlying186 Z Z) (AD (D3 Z (Z) (AZ (AE (J (Ar Z Z (Ω _ (by omega)) Z) (dd Z Z (AD ?_))))))));exact ⟨(t+1,N3,M3),⟨by show t+1<=_;omega,hR4,by show Ao N3=D5 c a k (t+1);rw [mT hX ht1 hm];exact D⟩,by show (eS X).length - (t+1)<(eS X).length - t;omega,AY H [1,3,40,50,51] Z (Z) ⟨Z,Z,Z,Z,Z,Z,Z,Z,Z,Z,trivial⟩⟩
   .refine BC ?_;have hte:t=(eS X).length:=by have h:=Y;omega
    have hT5:Ao N3=Ea c a (k+1):=by rw [<-mU hX g,<-hte];exact D
    refine AE (J (Ar Z Z (Ω _ (by omega)) Z) (dd Z Z (AD ?_)));exact ⟨(k+1,wb2,MP l k bn,N3,M3),⟨by show k+1<=_;omega,hR4,hT5⟩,by show a.length - (k+1)<a.length - k;omega,AY H [1,3,40,50,51] Z (Z) ⟨Z,Z,Z,Z,Z,Z,trivial⟩⟩
  .refine BC (AC (AC ?_));have hke:k=a.length:=by have h:=h69;rw [ψ] at h;omega
   subst hke;rw [fw];have hwbf:=G.w;have hpzf:N.mh=none ->N.po.length=0:=λh=>by have h1:BD M N.mh WQ 1 ((List.range N.po.length).map λj=>BH (w j)):=G.rs.1 .m;have h2:=UP h1 h;rw [gI] at h2;exact h2
   have hids:=pN hT;have hNl:N.po.length=c.length:=oN hT;refine AE ?_;refine dd Z Z (J (DN Z Z) (J (CM Z KB Z Z Z) (J (D4 (f:=40) Z Z (hwbf) Z W1 Z) (J (Vk hpzf Z underlying177 Z) (dd Z Z (AD (A0 (BX (α:=Nat×fC×MF) (λr=>⟨142,[(5,(.d (pD B 0))),(126,(.d (fE N.mh N.po.length))),(127,(.d (AF (N.po.length:Int)))),(128,(.d (AF (r.1:Int))))],[(40,[.multi r.2.2]),(50,[BB AF Kg (Fb l (a.map eR.id))]),(51,[.addr 50 0 (.map (some u))])]⟩) (λr=>r.1<=N.po.length/\Bx B u l w r.2.1 r.2.2/\r.2.1.nd=N.nd/\r.2.1.mh=N.mh/\r.2.1.po=(N.po.take r.1).map Nq++N.po.drop r.1) (λr=>N.po.length - r.1) ((0,N,M)) (⟨υ _,G,Z,Z,Z⟩) (AY H [40,50,51] Z Z ⟨Z,Z,Z,Z,trivial⟩) ?_))))))));rintro ⟨j,N5,M5⟩ ⟨hj0,E,K,T,C⟩;dsimp only at hj0 E K T C⊢;refine AC (AE (J (BN Z Z Z) (AD (AC (Ac Z (λW=>?_) (λW=>?_))))))
   .have hj1:j<N.po.length:=Ba W;refine AZ (AC (A0 (AC ?_)));have hl5:N5.po.length=N.po.length:=by rw [C];simp;omega
    have hpr5:BD M5 N.mh WQ 1 ((List.range N.po.length).map λj=>BH (w j)):=by have h:BD M5 N5.mh WQ 1 ((List.range N5.po.length).map λj=>BH (w j)):=E.rs.1 .m;rw [hl5,T] at h;exact h
    obtain ⟨rb,rc,hre⟩:=UX hpr5 (j:=j) (by rw [gI];exact hj1);have hrow:=R7 hpr5 hre
    obtain ⟨y,hy⟩:∃y,N5.po[j]? =some y:=⟨_,ω (by omega)⟩
    obtain ⟨hyb,hyq⟩:=E.pp j y hy;have hqz:=UP hyq;refine AE (J (Vi hre (j) Z Z Z hj1 underlying177 Zo Z) (J (mJ (f:=40) (e:=j) (off:=0) Z (by omega) Z (hrow) ((by rw [η,iW hj1];rfl)) Z E1 Z) ?_));refine AB Z Z (AD (AE (dd Z Z ?_)));refine dd Z Z (J (DN Z Z) (J (CM Z Gw Z Z Z) (J (D4 (f:=40) Z Z (hyb) Z GH Z) (J (Vk hqz Z R3 Z) (J (DN Z Z) (J (CM Z Jx Z Z Z) (V (Or (f:=40) Z Z Z Z (hyb) ((by show _<10;omega)) Z BU) (AD ?_))))))));have hR6:=E.setPo (y':=Nq y) hy Z Z;refine AE (J (Ar Z Z (Ω _ (by omega)) Z) (dd Z Z (AD ?_)));exact ⟨(j+1,{N5 with po:=N5.po.set j (Nq y)},_),⟨by show j+1<=_;omega,hR6,K,T,cq hj1 C hy⟩,by show N.po.length - (j+1)<N.po.length - j;omega,AY H [40,50,51] Z (Z) ⟨Z,Z,Z,Z,trivial⟩⟩
   .refine BC (AC ?_);have hje:j=N.po.length:=by have h:=W;omega
    subst hje;rw [fw,List.drop_length,gN] at C;have hids5:BO N5=a.map eR.id:=by unfold BO at hids⊢;rw [K];exact hids
    refine AE (dd Z Z (AB Z Z (AB Z Z (AD (A4 ?_)))));exact ⟨_,[40,50,51],_,A3 Z,Z,Z,B,u,l,w,N5,M5,some (List.range (Fb l (a.map eR.id)).length,(Fb l (a.map eR.id)).length),Z,by rw [hids5];rfl,E,by rw [kX v s];exact bi hT K C⟩
end Go.Proofs.YteifpcnphnhaoaaGreat
namespace Go.Proofs.YteifpcnphnhaoaaGreat
open Go.RowKit
variable {a:List eY} {c:Nat ->Bool} {f:List eR} {g:List (List (AM×Int))} {i:Nat} {N:fC} {h:ee} {x:Nd} {j:KV} {k:List eY} {o:List AM} {s:AM} {t:Type} {u w:Nat}
set_option maxRecDepth 100000
def Er (ds:List (List (AM×Int))) (on:Nat ->Bool) (r:AM):Int:=((List.range ds.length).map λi=>if on i=true then ER (ds.getD i []) r else 0).sum
def cA (on:Nat ->Bool) (q:List Nat):Nat:=q.findIdx λi=>!on i
def bB (ds:List (List (AM×Int))) (on:Nat ->Bool) (x:eY):Po:=⟨x.r,x.n,Er ds on x.r,none,et ds x.r,cA on (et ds x.r)⟩
def Kq (rs:List AM) (its:List eR) (on:Nat ->Bool) (i:Nat):Nd:={nG rs ((its.map eS).take i) (its.getD i eT) (eS (its.getD i eT)) with on:=on i}
def ej (ros:List eY) (its:List eR) (on:Nat ->Bool):fC:=⟨(List.range its.length).map (Kq (ros.map eY.r) its on),ros.map (bB (its.map eS) on),none,none⟩
def Ah (on:Nat ->Bool) (i:Nat):Nat ->Bool:=λj=>if j=i then false else on j
theorem Wf (q:List Nat):cA (λ_=>true) q=q.length:=by
 unfold cA
 simp
theorem Zt (a:List (List (AM×Int))) (r:AM):Er a (λ_=>true) r=(a.map λD=>ER D r).sum:=by
 unfold Er
 congr 1
 apply gu (by simp)
 grind
theorem bk (p:ee):bm p=ej (CD p) (ea p) λ_=>true:=by
 unfold bm ej Ea Jb;dsimp only;rw [fS]
 congr 1
 grind [fi,ς,Nq,YH,bB,Zt,Wf]
theorem Qz {f g:eY ->Po} (h:w<a.length) {y:Po} (c:(a.map eY.r).Nodup) (o:y=g a[w]) (l:∀x∈a,x.r≠a[w].r ->f x=g x):(a.map f).set w y=a.map g:=by
 refine i8 λi=>?_;rw [jB]
 by_cases e:w=i
 .grind
 .rw [θ e,η,η]
  cases hi:a[i]? with
  | none=>rfl
  | some z=>
   have b:=φ.1 hi;show some _=some _
   rw [l z (ϑ hi) λs=>e (by
    have k:(a.map eY.r)[w]'(by simpa using h)=(a.map eY.r)[i]'(by simpa using b.1):=by
     grind
    exact (List.getElem_inj c).1 k)]
theorem MM (b:s∈a.map eY.r):∃c:(a.map eY.r).idxOf s<a.length,a[(a.map eY.r).idxOf s].r=s:=by
 have h:=jG b;have f:=List.getElem_idxOf h
 grind
theorem Zv (l:(a.map eY.r).Nodup) (f:eY ->Po):∀(D:List (AM×Int)),(D.map Prod.fst).Nodup ->(V5 (a.map eY.r) D).foldl Lo (a.map f)=a.map λx=>{f x with sum:=(f x).sum - ER D x.r}:=by
 intro D
 induction D using ZU with
 | h0=>
  intro _;show a.map f=_;refine fi λx _=>?_;show f x={f x with sum:=(f x).sum - 0}
  rw [Int.sub_zero]
 | h1 D d b=>
  intro g;rw [fU,ip] at g;have j:d.1∉D.map Prod.fst:=λh=>g.2.2 _ h _ (List.mem_singleton_self _) rfl;have b:=b g.1
  by_cases c:d.1∈a.map eY.r
  .rw [V4 c,List.foldl_append,b];obtain ⟨o,k⟩:=MM c
   grind [Lo,Qz,D0,EM,DG]
  .rw [RC c,b];refine fi λx i=>?_;have:ER (D++ [d]) x.r=ER D x.r:=DG λe=>c (e▸κ.2 ⟨x,i,Z⟩);rw [this]
theorem bz (w:(a.map eY.r).Nodup) (f:eY ->Po) (k:List (List (AM×Int))):∀(D:List (AM×Int)),(D.map Prod.fst).Nodup ->(gn (a.map eY.r) k D).foldl Oe (a.map f)=a.map λx=>{f x with mi:=if ER D x.r<0 then min (f x).mi (et k x.r).length else (f x).mi}:=by
 intro D
 induction D using ZU with
 | h0=>
  intro _;show a.map f=_;refine fi λx _=>?_;have z:ER [] x.r=0:=rfl
  simp_all
 | h1 D d i=>
  intro o;rw [fU,ip] at o;have b:d.1∉D.map Prod.fst:=λh=>o.2.2 _ h _ (List.mem_singleton_self _) rfl;have i:=i o.1
  by_cases c:d.1∈a.map eY.r/\d.2<0
  .rw [bG c.1 c.2,List.foldl_append,i];obtain ⟨v,j⟩:=MM c.1;show Oe _ ((a.map eY.r).idxOf d.1,(et k d.1).length)=_;rw [We (y:=(λx=>{f x with mi:=if ER D x.r<0 then min (f x).mi (et k x.r).length else (f x).mi}) a[(a.map eY.r).idxOf d.1]) (by rw [η,ω v];rfl)];refine Qz v w ?_ λx u g=>?_
   .dsimp only;have t:ER (D++ [d]) a[(a.map eY.r).idxOf d.1].r=d.2:=by rw [j];exact D0 b
    have s:ER D a[(a.map eY.r).idxOf d.1].r=0:=by rw [j];exact EM b
    rw [t,s,θ (by omega),ϱ c.2,j]
   .rw [j] at g;have:ER (D++ [d]) x.r=ER D x.r:=DG g;rw [this]
  .rw [Q0 c,i];refine fi λx u=>?_
   by_cases e:x.r=d.1
   .have l:d.1∈a.map eY.r:=e▸κ.2 ⟨x,u,Z⟩;have t:ER (D++ [d]) x.r=d.2:=by rw [e];exact D0 b
    have s:ER D x.r=0:=by rw [e];exact EM b
    rw [t,s,θ (by omega),θ (λh=>c ⟨l,h⟩)]
   .have:ER (D++ [d]) x.r=ER D x.r:=DG e;rw [this]
theorem GC (h:w≠i):Ah c i w=c w:=θ h
theorem IH:Ah c i i=false:=ϱ rfl
theorem TQ (p:t ->Bool) (l m:List t):(l++m).findIdx p=if l.findIdx p<l.length then l.findIdx p else m.findIdx p+l.length:=List.findIdx_append
theorem Ns {b:Type} {p q:b ->Bool}:∀{l:List b},(∀x∈l,p x=q x) ->l.findIdx p=l.findIdx q
 | [],_=>rfl
 | a::l,h=>by
  rw [List.findIdx_cons,List.findIdx_cons,h a (fu ..),Ns λx c=>h x (gG _ c)]
theorem IM {n:Nat} (h:i<n):∃B:List Nat,List.range n=List.range i++i::B/\∀j∈B,i<j:=by
 refine ⟨List.range' (i+1) (n - i - 1),?_,λj b=>?_⟩
 .rw [List.range_eq_range',List.range_eq_range'];have a:n=i+(1+(n - i - 1)):=by omega
  conv=>lhs;rw [a]
  rw [<-List.range'_append_1,gf,Nat.add_comm 1 (n - i - 1),List.range'_succ]
 grind
theorem NO (h:i<g.length) (r:AM):∃B:List Nat,et g r=et (g.take i) r++((if ER (g.getD i []) r<0 then [i] else [])++B)/\(∀j∈et (g.take i) r,j<i)/\∀j∈B,i<j:=by
 obtain ⟨B,c,b⟩:=IM h;refine ⟨B.filter λi=>decide (ER (g.getD i []) r<0),?_,λj a=>?_,λj a=>b j (Γ.1 a).1⟩
 all_goals (grind [et,iD])
theorem kZ (h:i<g.length) (a:Nat ->Bool) (r:AM):cA (Ah a i) (et g r)=if ER (g.getD i []) r<0 then min (cA a (et g r)) (et (g.take i) r).length else cA a (et g r):=by
 obtain ⟨B,c,b,f⟩:=NO h r;rw [c]
 generalize et (g.take i) r=A at b⊢
 grind [Ns,GC,cA,TQ,IH]
theorem Zs (h:i<g.length) (b:c i=true) (r:AM):Er g (Ah c i) r=Er g c r - ER (g.getD i []) r:=by
 obtain ⟨B,a,f⟩:=IM h;unfold Er;rw [a,fU,fU,gA,gA,i6,i6,hZ,hZ]
 grind [fi,GC,IH]
theorem WG:∀(l:List (Nat×Int)) (a:List Po),(l.foldl Lo a).map CR=l.foldl Lo (a.map CR)
 | [],_=>rfl
 | e::l,a=>by
  rw [List.foldl_cons,List.foldl_cons,WG l]
  congr 1
  unfold Lo;rw [η]
  cases a[e.1]? with
  | none=>rfl
  | some y=>show (a.set e.1 _).map CR=_;rw [List.map_set];rfl
theorem Wd:∀(l:List (Nat×Nat)) (a:List Po),(l.foldl Oe a).map CR=l.foldl Oe (a.map CR)
 | [],_=>rfl
 | e::l,a=>by
  rw [List.foldl_cons,List.foldl_cons,Wd l]
  congr 1
  unfold Oe;rw [η]
  cases a[e.1]? with
  | none=>rfl
  | some y=>show (a.set e.1 _).map CR=_;rw [List.map_set];rfl
theorem td (t:(a.map eY.r).Nodup) (h:Ao N=ej a f c) (g:i<f.length) (y:c i=true) (w:N.nd[i]? =some x):Ao (r7 N i x)=ej a f (Ah c i):=by
 have o:N.nd.map EW=(List.range f.length).map (Kq (a.map eY.r) f c):=fL fC.nd h;have k:N.po.map CR=a.map (bB (f.map eS) c):=fL fC.po h
 have b:EW x=Kq (a.map eY.r) f c i:=by
  have u:(N.nd.map EW)[i]? =some (EW x):=by rw [η,w];rfl
  grind
 have s:x.ef=V5 (a.map eY.r) (eS (f.getD i eT)):=fL Nd.ef b;have l:x.pl=gn (a.map eY.r) ((f.map eS).take i) (eS (f.getD i eT)):=fL Nd.pl b;have fW:i<(f.map eS).length:=by simpa using g
 have r:(f.map eS).getD i []=eS (f.getD i eT):=by rw [EQ [] fW,EQ eT g,ft]
 unfold Ao r7 ej;dsimp only
 congr 1
 .rw [List.map_set,o]
  have:EW (EJ x)=Kq (a.map eY.r) f (Ah c i) i:=by
   have u:EW (EJ x)=EJ (EW x):=rfl;rw [u,b];unfold Kq EJ Ah;rw [ϱ rfl]
  rw [this];refine i8 λj=>?_;rw [jB]
  by_cases e:i=j
  .subst e;rw [ϱ Z,ϱ (by simpa using g),η,iW g];rfl
  .rw [θ e,η,η]
   cases hj:(List.range f.length)[j]? with
   | none=>rfl
   | some z=>
    have v:=φ.1 hj;have:z=j:=by have:=v.2;simp at this;exact this.symm
    subst this;show some _=some _;unfold Kq Ah;rw [θ (λh=>e h.symm)]
 .rw [Wd,WG,k,s,l,Zv t _ _ (jP _),bz t _ _ _ (jP _)];refine fi λz _=>?_;unfold bB;dsimp only;rw [Zs fW y,kZ fW,r]
theorem FL (N:fC) (i:Nat):(Ao N).nd.getD i Bo=EW (N.nd.getD i Bo):=by
 show (N.nd.map EW).getD i Bo=_;rw [Ψ,Ψ,η]
 cases N.nd[i]?<;>rfl
theorem Hs (N:fC) (j:Nat):(Ao N).po.getD j CI=CR (N.po.getD j CI):=by
 show (N.po.map CR).getD j CI=_;rw [Ψ,Ψ,η]
 cases N.po[j]?<;>rfl
theorem Gy (N:fC):BO (Ao N)=BO N:=by
 unfold BO Ao;rw [fS];rfl
theorem Yf (N:fC) (x:Nd):F5 (Ao N) (EW x)=F5 N x:=by
 have c:gD (Ao N)=gD N:=funext λe=>by unfold gD;rw [Hs];rfl
 have b:∀e,RA (Ao N) (EW x) e=RA N x e:=λe=>by unfold RA;rw [Hs,FL];rfl
 have a:fA (Ao N)=fA N:=funext λe=>by unfold fA;rw [FL,Gy];rfl
 grind [F5,EW]
theorem Se (N:fC):CT (Ao N)=CT N:=by
 have c:(Ao N).nd.findSome? (P7 (Ao N))=N.nd.findSome? (P7 N):=by
  show (N.nd.map EW).findSome? _=_;rw [List.findSome?_map]
  congr 1
  grind [P7,EW,Yf]
 have b:(Ao N).po.findSome? (UT (Ao N))=N.po.findSome? (UT N):=by
  show (N.po.map CR).findSome? _=_;rw [List.findSome?_map]
  congr 1
  funext y
  show UT (Ao N) (CR y)=UT N y;have a:fe (Ao N)=fe N:=funext λi=>by unfold fe;rw [FL];rfl
  have f:∀i,((Ao N).nd.getD i Bo).it.id=(N.nd.getD i Bo).it.id:=λi=>by rw [FL];rfl
  unfold UT;rw [a];show (if Q2 y y.sum=true then (y.q.reverse.find? (fe N)).map λi=>(⟨((Ao N).nd.getD i Bo).it.id,0,y.r,-1⟩:KV) else none)=_
  grind
 unfold CT;rw [c,b]
theorem c9 (h:F5 N x=some j):j.id=x.it.id:=by
 unfold F5 at h
 split at h
 .injection h with h;subst h;rfl
 grind
theorem Q7 (h:CT N=some j):∃(i:Nat) (x:Nd),N.nd[i]? =some x/\x.on=true/\j.id=x.it.id:=by
 unfold CT at h
 split at h
 .rename_i o g
  injection h with h;subst h
  obtain ⟨x,b,a⟩:=List.exists_of_findSome?_eq_some g;obtain ⟨i,f,k⟩:=gF b;unfold P7 at a
  split at a
  .rename_i c
   exact ⟨i,x,by rw [ω f,k],c,c9 a⟩
  .cases a
 .obtain ⟨y,l,a⟩:=List.exists_of_findSome?_eq_some h;unfold UT at a
  split at a
  .cases hf:y.q.reverse.find? (fe N) with
   | none=>rw [hf] at a;cases a
   | some i=>
    grind [fe,Bo]
  .cases a
structure qs (ros:List eY) (its:List eR):Prop where
 l:its.length<=30
 x:∀x∈its,eP x
 i:(its.map eR.id).Nodup
 a:∀x∈its,∀id∈x.af,id∈its.map eR.id
 r:(ros.map eY.r).Nodup
 n:∀x∈ros,-4000000000000000<=x.n/\x.n<=4000000000000000
 o:ros.length<=100
theorem mW (h:x∈(ej a f c).nd):∃i,i<f.length/\x=Kq (a.map eY.r) f c i:=by
 obtain ⟨i,b,e⟩:=κ.1 h
 grind
theorem QE (f:List eY) (c:List eR) (g:Nat ->Bool):BO (ej f c g)=c.map eR.id:=by
 unfold BO ej;rw [fS]
 apply gu (by simp)
 intro i a b;simp only [ft,List.getElem_range,Function.comp];show (c.getD i eT).id=_
 grind
theorem lK {D:List (AM×Int)} {e:Nat×Int} (h:e∈V5 o D):∃d∈D,e.2=d.2:=by
 obtain ⟨d,a,rfl⟩:=κ.1 h
 grind
theorem kC {D:List (AM×Int)} {e:Nat×Nat} (h:e∈gn o g D):∃d∈D,d.1∈o/\d.2<0/\e=(o.idxOf d.1,(et g d.1).length):=by grind [gn]
theorem nW (h:qs a f) (b:Nat ->Bool) (r:AM): -30000000000000000<=Er (f.map eS) b r/\Er (f.map eS) b r<=30000000000000000:=by
 have c:∀l:List Nat,-(l.length*1000000000000000)<=(l.map λi=>if b i=true then ER ((f.map eS).getD i []) r else 0).sum/\(l.map λi=>if b i=true then ER ((f.map eS).getD i []) r else 0).sum<=l.length*1000000000000000:=by
  intro l
  induction l with
  | nil=>simp
  | cons i l s=>
   simp only [gA,hZ,i3]
   have k:O7 ((f.map eS).getD i []):=by
    rcases fy (l:=f.map eS) (d:=[]) i with g | g
    .grind [KL]
    .rw [g];intro x j;cases j
   have o:=XL k r;omega
 have o:=c (List.range (f.map eS).length);have t:=h.l
 grind [Er]
theorem u7 (h:qs a f) (g:Nat ->Bool):ga (ej a f g):=by
 have I:=h.l
 have k:∀y∈(ej a f g).po,y.q.length<=30/\y.mi<=30/\∃x∈a,y=bB (f.map eS) g x:=λy j=>by
  obtain ⟨x,b,e⟩:=κ.1 j;subst e;have t:=Ja (f.map eS) x.r;rw [ψ] at t;have C:cA g (et (f.map eS) x.r)<=(et (f.map eS) x.r).length:=List.findIdx_le_length;exact ⟨by show (et _ _).length<=_;omega,by show cA _ _<=_;omega,x,b,Z⟩
 refine ⟨by rw [QE];exact h.i,λx b id v=>?_,λx b=>?_,λx b e z=>?_,λx b e z=>?_,λy j=>?_,λy j=>?_,?_,λy j=>?_⟩
 .obtain ⟨i,c,rfl⟩:=mW b;rw [QE];refine h.a (f.getD i eT) (by rw [EQ eT c];exact ξ c) id v
 .obtain ⟨i,c,rfl⟩:=mW b;have u:f.getD i eT∈f:=by rw [EQ eT c];exact ξ c
  have t:=MR (h.x _ u);have C:=Wx (a.map eY.r) (eS (f.getD i eT));have K:=WT (a.map eY.r) ((f.map eS).take i) (eS (f.getD i eT));have J:=(h.x _ u).2.2;exact ⟨by show (V5 _ _).length<=_;omega,by show (gn _ _ _).length<=_;omega,by show (f.getD i eT).af.length<=_;omega⟩
 .obtain ⟨i,c,rfl⟩:=mW b;obtain ⟨d,A,G⟩:=lK z;have:=KL _ d A;rw [G];omega
 .obtain ⟨i,c,rfl⟩:=mW b;obtain ⟨d,A,u,l,rfl⟩:=kC z;obtain ⟨F,D⟩:=MM u;have fW:i<(f.map eS).length:=by simpa using c
  have w:(f.map eS).getD i []=eS (f.getD i eT):=by rw [EQ [] fW,EQ eT c,ft]
  have s:ER ((f.map eS).getD i []) d.1=d.2:=by rw [w];exact mQ (jP _) A
  obtain ⟨B,H,M,L⟩:=NO fW d.1
  have E:((ej a f g).po.getD ((a.map eY.r).idxOf d.1) CI).q=et (f.map eS) d.1:=by
   show ((a.map _).getD _ CI).q=_;rw [EQ CI (by simpa using F),ft];show et _ (a[(a.map eY.r).idxOf d.1]).r=_;rw [D]
  rw [E];dsimp only;have o:=fL List.length H;rw [ϱ (by rw [s];exact l),Δ,Δ,Φ] at o;have t:=Ja ((f.map eS).take i) d.1;rw [Ξ,ψ] at t;omega
 .have:=k y j;omega
 .obtain ⟨_,_,x,b,rfl⟩:=k y j;have:=h.n x b;show -1000000000000000000<=x.n/\x.n<=1000000000000000000;omega
 .have t:(ej a f g).nd.length=f.length:=by unfold ej;simp
  have C:(ej a f g).po.length=a.length:=by unfold ej;simp
  have:=h.o;omega
 .have:=k y j;omega
theorem nV {N:fC} (h:ga (Ao N)):ga N:=by
 have c:∀x∈N.nd,EW x∈(Ao N).nd:=λx a=>κ.2 ⟨x,a,Z⟩;have f:∀y∈N.po,CR y∈(Ao N).po:=λy b=>κ.2 ⟨y,b,Z⟩;refine ⟨by rw [<-Gy];exact h.i,λx a id g=>by rw [<-Gy];exact h.a _ (c x a) id g,λx a=>h.l (EW x) (c x a),λx a=>h.e (EW x) (c x a),λx a e i=>?_,λy b=>h.m (CR y) (f y b),λy b=>h.rm (CR y) (f y b),?_,λy b=>h.ql (CR y) (f y b)⟩
 .have:=h.p _ (c x a) e i;rw [Hs] at this;exact this
 .have:=h.n
  grind [Ao]
theorem q6 (h:qs a f) (i:Ao N=ej a f c):Rt N.po 1000000000000000000:=λy g=>by
 have b:CR y∈(Ao N).po:=κ.2 ⟨y,g,Z⟩;rw [i] at b;obtain ⟨x,k,e⟩:=κ.1 b;have l:=nW h c x.r;have j:y.sum=Er (f.map eS) c x.r:=fL Po.sum e.symm;rw [j];omega
def E7 (ros:List eY) (its:List eR):Nat ->(Nat ->Bool) ->List KV×(Nat ->Bool)
 | 0,on=>([],on)
 | f+1,on=>match CT (ej ros its on) with
  | none=>([],on)
  | some e=>(e::(E7 ros its f (Ah on ((its.map eR.id).idxOf e.id))).1,(E7 ros its f (Ah on ((its.map eR.id).idxOf e.id))).2)
def D9 (n:Nat) (on:Nat ->Bool):Nat:=((List.range n).filter on).length
def Ig (p:ee):List KV×(Nat ->Bool):=E7 (CD p) (ea p) (ea p).length λ_=>true
def BY (its:List eR) (on:Nat ->Bool) (k:Nat):List Int:=((List.range k).filter on).map λi=>(its.getD i eT).id
theorem GU {n:Nat} (a:i<n) (b:c i=true):D9 n (Ah c i)+1=D9 n c:=by
 obtain ⟨B,g,f⟩:=IM a
 grind [D9,Ah,iD,GC]
theorem IT [BEq t] [LawfulBEq t] {l:List t} (a:l.Nodup) {i:Nat} (b:i<l.length):l.idxOf l[i]=i:=by grind
theorem JX (h:CT (ej a f c)=none):E7 a f u c=([],c):=by
 cases u with
 | zero=>rfl
 | succ u=>unfold E7;rw [h]
theorem JW (h:CT (ej a f c)=some j):E7 a f (u+1) c=(j::(E7 a f u (Ah c ((f.map eR.id).idxOf j.id))).1,(E7 a f u (Ah c ((f.map eR.id).idxOf j.id))).2):=by
 show (match CT (ej a f c) with | none=>_ | some j=>_)=_;rw [h]
theorem MY (h:Ao N=ej a f c) (k:N.nd[i]? =some x):i<f.length/\x.on=c i/\x.it=f.getD i eT:=by
 have b:(N.nd.map EW)[i]? =some (EW x):=by rw [η,k];rfl
 rw [show N.nd.map EW=(List.range f.length).map (Kq (a.map eY.r) f c) from fL fC.nd h] at b;have g:i<f.length:=by have:=(φ.1 b).1;simpa using this
 rw [η,iW g] at b;have j:EW x=Kq (a.map eY.r) f c i:=(Option.some.inj b).symm;exact ⟨g,fL Nd.on j,fL Nd.it j⟩
theorem NF (a:List eR) (b:Nat ->Bool) (k:Nat):BY a b (k+1)=BY a b k++if b k=true then [(a.getD k eT).id] else []:=by grind [BY,gT]
theorem YM (a:List eR) (b:Nat ->Bool) (k:Nat):(BY a b k).length<=k:=by grind [BY]
theorem tE (h:Ao N=ej a f c):N.nd.length=f.length:=by grind [ψ,Ao,ej]
theorem aL (c:CG h) (a:A6 h=0):qs (CD h) (ea h):=by
 refine ⟨fO (DX h) c.i,λx b=>c.x x (Hc b),DW a,λx b id g=>?_,Mo a,λx b=>?_,?_⟩
 .have f:ea h=eX h.it:=ϱ a;have i:Qy (h.it.map eR.id) x=0:=Jp (HX a).2.2 _ (κ.2 ⟨x,Hc b,Z⟩)
  grind [Qy,Id,I9]
 .have f:x∈h.ro:=by
   grind [eG,CD]
  exact IK (HX a).1 x f
 .unfold CD;rw [ψ,(eG _).length_eq,gI,ψ];exact c.r
theorem TT (p:ee) (c:CG p) (b:A6 p≠0):AK prog 95 [.d (Bf p)] (.tup [.sl (some true) [],.sl (some true) [],AF (A6 p)]):=by
 have a:=ZE p c b;refine As func95 Z Z ntmps95 Z Z Z λF f=>(AC (AE (V (Bz 1 Z Z Z Z Z Z Z) (AB Z Z (AB Z Z (AB Z Z ?_))))));refine AD (XP (AC (AE (J (BE Z Z BM Z Z Z) (V (EX a Z [] trivial Z Z Z Z Z Z Z Z Z) (dd Z Z (J (C6 Z Z Z) (J (C6 Z Z Z) ?_))))))));refine AB Z Z (AB Z Z (AD (AC (AC (AE (dd Z Z (J (D7 Z Z Z) (AD ?_))))))));refine DO Z ((by simpa using b)) (AC (AE (dd Z Z (AB Z Z (AB Z Z (AB Z Z (AD (A4 ?_))))))));exact ⟨_,[],[],A3 Z,Z,Z,Z,Z⟩
theorem V2 (p:ee) (hf:CG p) (hE:A6 p=0):AK prog 95 [.d (Bf p)] (.tup [.sl none ((BY (ea p) (Ig p).2 (ea p).length).map AF),.sl none ((Ig p).1.map cw),AF 0]):=by
 have G:=Tt p hf hE;have g:=aL hf hE;unfold Ig;rw [bk] at G
 obtain ⟨a,X⟩:∃a,ea p=a:=⟨_,Z⟩
 obtain ⟨b,S⟩:∃b,CD p=b:=⟨_,Z⟩
 rw [X,S] at G g⊢;have hl:=g.l;refine As func95 Z Z ntmps95 Z Z Z λF hF=>(AC (AE ?_));refine V (Bz 1 Z Z Z Z Z Z Z) (AB Z Z (AB Z Z (AB Z Z (AD (XP (AC (AE (J (BE Z Z BM Z Z Z) ?_))))))));refine RX (UY G Z [40,50,51] ⟨Z,Z,Z,trivial⟩ Z Z Z Z (λr H' ⟨_,_,_,_,_,_,_,e1,e2,_⟩=>by subst e1 e2;exact ⟨Z,Z,Z⟩) Z) Z ?_;rintro _ ⟨r,H',⟨wb,mv,nb,pb,N,M,bs,rfl,rfl,A,s⟩,rfl⟩;refine dd Z Z (J (C6 Z Z Z) (J (C6 Z Z Z) (AB Z Z (AB Z Z (AD ?_)))));refine AC (AC (AE (dd Z Z (J (D7 Z Z Z) (AD (D3 Z (Z) (AZ (AC ?_))))))));have v:BO N=a.map eR.id:=by rw [<-Gy,s,QE]
 rw [v];refine AE (AB Z Z (AD (AC (mE (AC (A0 (Ou 7 900 aR Z Z Z Z (BX (α:=(Nat ->Bool)×fC×MF×List KV×Nat) (λq=>⟨64,[(5,(.d (pD wb 0))),(7,(.own 900 0 q.2.2.2.1.length))],(900,[.rowD 245 9 (q.2.2.2.1.map cw)])::HW mv bs (Fb nb (a.map eR.id)) q.2.2.1⟩) (λq=>Bx wb mv nb pb q.2.1 q.2.2.1/\Ao q.2.1=ej b a q.1/\D9 a.length q.1<=q.2.2.2.2/\q.2.2.2.1.length+q.2.2.2.2<=a.length/\q.2.2.2.1++(E7 b a q.2.2.2.2 q.1).1=(E7 b a a.length λ_=>true).1/\(E7 b a q.2.2.2.2 q.1).2=(E7 b a a.length λ_=>true).2) (λq=>q.2.2.2.2) ((λ_=>true,N,M,[],a.length)) (⟨A,s,by show ((List.range a.length).filter _).length<=_;exact fO (gM _ _) (by simp),by simp,Z,Z⟩) (AY hF [900,40,50,51] Z Z ⟨Z,Z,trivial⟩) ?_))))))));rintro ⟨o,N,M,l,f⟩ ⟨A,s,hc,hal,u,t⟩;dsimp only at A s hc hal u t⊢;refine A0 (AC ?_);have K:=nV (N:=N) (by rw [s];exact u7 g o);have O:=q6 g s;have v:BO N=a.map eR.id:=by rw [<-Gy,s,QE]
 have W:=o9 bs A K O;rw [v] at W;refine AE (dd Z Z (V (EX W Z [40,50,51] ⟨Z,Z,Z,trivial⟩ Z Z Z Z Z Z Z Z Z) (dd Z Z ?_)))
 cases hne:CT N
 .refine J (C6 Z Z Z) (J (C6 Z Z Z) (V (Bn 2 Ia Z Z Z Z) (V (B1 Z Z Z Z Z Z Z JP) (AB Z Z (AD ?_)))));refine AC (AC (AE (dd Z Z (J (OZ Z Z) (AD (DO Z (Z) (BC (AC ?_))))))));have hro:E7 b a f o=([],o):=JX (by rw [<-s,Se,hne]);rw [hro] at u t;rw [gN] at u;dsimp only at t;have hwb:=A.w;have D:BD M N.nh bC 1 ((List.range N.nd.length).map λi=>BH (nb i)):=A.rs.1 .n;have U:=UP D;rw [gI] at U;have hNl:=tE s;refine AE (AB Z Z (AD (AC (AC (AE (dd Z Z ?_))))));refine J (DN Z Z) (J (CM Z IY Z Z Z) (J (D4 (f:=40) Z Z (hwb) Z GH Z) (J (Vk U Z R3 Z) (dd Z Z (AD (A0 (Ou 10 901 BV Z Z Z Z (BX (α:=Nat×List Int) (λq=>⟨64,[(7,(.own 900 0 l.length)),(10,(.own 901 0 q.2.length)),(43,(.d (fE N.nh N.nd.length))),(44,(.d (AF (N.nd.length:Int)))),(45,(.d (AF (q.1:Int))))],(901,[.rowD 3 1 (q.2.map AF)])::(900,[.rowD 245 9 (l.map cw)])::HW mv bs (Fb nb (a.map eR.id)) M⟩) (λq=>q.1<=N.nd.length/\q.2=BY a o q.1) (λq=>N.nd.length - q.1) ((0,[])) (⟨υ _,Z⟩) (AY hF [901,900,40,50,51] Z Z ⟨Z,Z,Z,Z,Z,trivial⟩) ?_))))))));rintro ⟨k,B⟩ ⟨hk0,hI⟩;dsimp only at hk0 hI⊢;refine AC (AE (J (BN Z Z Z) (AD (AC (Ac Z (λI=>?_) (λI=>?_))))))
  .have z:k<N.nd.length:=Ba I;refine AZ (AC (A0 (AC ?_)))
   obtain ⟨x,C⟩:∃x,N.nd[k]? =some x:=⟨_,ω z⟩
   obtain ⟨w,c,E⟩:=MY s C;have L:=A.n k x C;obtain ⟨rb,rc,T⟩:=UX D (j:=k) (by rw [gI];exact z);have R:=R7 D T;have hidl:B.length<=k:=by rw [hI];exact YM a o k
   refine AE (J (Vi T (k) Z Z Z z R3 LU Z) (J (mJ (f:=40) (e:=k) (off:=0) Z (by omega) Z (R) ((by rw [η,iW z];rfl)) Z NG Z) ?_));refine AB Z Z ?_;refine AD (AC (AE (dd Z Z (J (DN Z Z) (J (CM Z Ec Z Z Z) (J (D4 (f:=40) Z Z (L) Z oV Z) (AD (JJ Z (λH=>?_) (λH=>?_)))))))))
   .refine AE (dd Z Z (dd Z Z (J (DN Z Z) (J (CM Z F7 Z Z Z) (J (CM Z OY Z Z Z) ?_)))));refine J (D4 (f:=40) Z Z (L) Z Aw Z) (V (D6 3 BV Z Z Z Z Z Z Z Z) (V (H1 (B) ([x.it.id]) Z Z Z Z Z Z Z Z BV (by simp only [Φ];omega) Z Z Z Z) (AB Z Z (AD (AE (J (Ar Z Z (AO (k+1) (by omega)) Z) (dd Z Z (AD ?_))))))));exact ⟨(k+1,_),⟨by show k+1<=_;omega,by show _=BY a o (k+1);rw [NF,ϱ (by rw [<-c];simpa using H),<-hI,<-E]⟩,by show N.nd.length - (k+1)<N.nd.length - k;omega,AY hF [901,900,40,50,51] Z (Z) ⟨Z,Z,Z,Z,Z,trivial⟩⟩
   .refine AZ (AE (J (Ar Z Z (AO (k+1) (by omega)) Z) (dd Z Z (AD ?_))));exact ⟨(k+1,_),⟨by show k+1<=_;omega,by show _=BY a o (k+1);rw [NF,θ (by rw [<-c];simpa using H),gN,<-hI]⟩,by show N.nd.length - (k+1)<N.nd.length - k;omega,AY hF [901,900,40,50,51] Z (Z) ⟨Z,Z,Z,Z,Z,trivial⟩⟩
  .refine BC (AC ?_);have hke:k=a.length:=by have h:=I;omega
   refine Ls (emb:=cw) 7 900 l Z Z Z Z Z Z Z ?_;refine Ls (emb:=AF) 10 901 B Z Z Z Z Z Z Z (AE (dd Z Z (dd Z Z (AB Z Z (AB Z Z (AB Z Z (AD (A4 ?_))))))));exact ⟨_,[],[],A3 Z,Z,Z,by rw [<-t,<-u,hI,hke],Z⟩
 .refine J (C6 Z Z Z) (J (C6 Z Z Z) (V (Bn 4 Ia Z Z Z Z) (V (B1 Z Z Z Z Z Z Z JP) (AB Z Z (AD ?_)))));refine AC (AC (AE (dd Z Z (J (OZ Z Z) (AD (D3 Z (Z) (AZ (AC ?_))))))))
  rename_i e
  obtain ⟨i,x,C,hon,hid⟩:=Q7 hne;obtain ⟨w,c,E⟩:=MY s C;rw [hon] at c;have c:=c.symm;have Y:i<(a.map eR.id).length:=by rw [ψ];exact w
  have hei:(a.map eR.id)[i]=e.id:=by rw [hid,E,ft,EQ eT w]
  have hby:=RO (nb:=nb) g.i Y;rw [hei] at hby;have hcn:=GU w c
  obtain ⟨f2,rfl⟩:∃f2,f=f2+1:=⟨f - 1,by omega⟩
  have Q:E7 b a (f2+1) o=(e::(E7 b a f2 (Ah o i)).1,(E7 b a f2 (Ah o i)).2):=by rw [JW (by rw [<-s,Se,hne]),<-hei,IT g.i Y]
  have y:=ϑ C;have hrm:=aq A C O (K.e x y) (K.l x y).1 (K.l x y).2.1 (λe he=>(K.p x y e he).2) K.m;refine DB [[],[0],[0,1],[0,1,2],[],[4],rg 6,rg 7] mixed Z (DP (Av 5 Z Z (AQ [28] Z (DN Z Z) ?_)));refine AQ [29] Z (CM Z MO Z Z Z) (CK [30] [40] Z Z (λ_=>A5 (D4 (f:=40) Z Z (A.w) Z W0 Z)) (AQ [8] Z (AU Z lA Z Z Z) (CK [32] [4] Z Z (λ_=>A5 (A2 Z Z Z Aw Z)) (Cg 6 Z Z Z (Ag 7 Z Z (DY 31 51 0 Z Z (J (HY (Fb nb (a.map eR.id)) e.id (.pointer none) (pV (nb i) 0) Z Z Z Wc HS Vo hby Z) (AD ⟨Z,?_⟩))))))));refine Ag 8 Z Z ?_;refine RX (UY hrm Z [40] ⟨Z,trivial⟩ Z Z Z Z (λr H' ⟨e1,M',e2,_⟩=>by subst e1 e2;exact ⟨Z,Z,Z⟩) Z) Z ?_;rintro _ ⟨r,H',⟨rfl,M2,rfl,hR2⟩,rfl⟩;refine AD ⟨Z,?_⟩;refine Cr (AE (dd Z Z (J (BE Z Z mr Z Z Z) (V (D6 5 aR Z Z Z Z Z Z Z Z) (V (H1 (l) ([e]) Z Z Z Z Z Z Z Z aR (by simp only [Φ];omega) Z Z Z Z) (AB Z Z (AD ?_)))))));exact ⟨(Ah o i,r7 N i x,M2,l++ [e],f2),⟨hR2,td g.r s w c C,by show D9 a.length (Ah o i)<=f2;omega,by show (l++ [e]).length+f2<=_;rw [Δ];simp;omega,by show (l++ [e])++(E7 b a f2 (Ah o i)).1=_;rw [io,<-u,Q];rfl,by show (E7 b a f2 (Ah o i)).2=_;rw [<-t,Q]⟩,by show f2<f2+1;omega,AY hF [900,40,50,51] Z (Z) ⟨Z,Z,trivial⟩⟩
theorem a7 {g:Type} (f:g ->AM) {l m i:List g} (c:(l.map f).Nodup) (s:m.Perm l) (j:m.Pairwise λa b=>¬Bc (f b) (f a)<0) (o:i.Perm l) (t:i.Pairwise λa b=>¬Bc (f b) (f a)<0):i=m:=by
 have r:∀{k:List g},(k.map f).Nodup ->(k.Pairwise λa b=>¬Bc (f b) (f a)<0) ->k.Pairwise λa b=>Bc (f a) (f b)<0:=λ{k} c h=>by
  rw [List.Nodup,fz] at c;refine (h.and c).imp λ{a b} ⟨v,u⟩=>?_;have o:=MV.anti (f a) (f b);have t:Bc (f a) (f b)≠0:=λe=>u (DK.1 e);omega
 exact mP (R:=λa b=>Bc (f a) (f b)<0) (λx=>by rw [MV.refl];omega) (λx y z=>MV.trans _ _ _) (r ((o.map f).nodup_iff.2 c) t) (r ((s.map f).nodup_iff.2 c) j) λx=>by rw [o.mem_iff,s.mem_iff]
theorem QR (f:List AM):(HH f).Pairwise λa b=>¬MT f b a<0:=by
 have:=List.pairwise_mergeSort (le:=λi j=>decide (MT f i j<=0)) (λa b c k l=>?_) (λa b=>?_) (List.range f.length)
 .refine List.Pairwise.imp (λ{a b} h=>?_) this;have k:=(QC f).anti a b
  grind
 .have o:MT f a b<=0:=by simpa using k
  have g:MT f b c<=0:=by simpa using l
  have:MT f a c<=0:=by
   by_cases r:MT f a b=0
   .rw [(QC f).eqv a b c r];exact g
   .by_cases t:MT f b c=0
    .have w:=(QC f).anti b c;have s:=(QC f).eqv c b a (by omega);have v:=(QC f).anti a c;have u:=(QC f).anti a b;omega
    .have:=(QC f).trans a b c (by omega) (by omega);omega
  grind
 .have k:=(QC f).anti a b
  grind
theorem GD (p:ee):(CD p).Perm p.ro:=by grind [CD,eG,ψ,gu,EQ]
theorem LY (p:ee):(CD p).Pairwise λa b=>¬Bc b.r a.r<0:=by grind [CD,iv,QR,eG,MT]
theorem YA (c:(h.ro.map eY.r).Nodup) (g:k.Perm h.ro) (f:k.Pairwise λa b=>¬Bc b.r a.r<0):k=CD h:=by grind [a7,GD,LY]
theorem ab (c:A6 h=0) (g:k.Perm h.ro) (f:k.Pairwise λa b=>¬Bc b.r a.r<0):k=CD h:=YA (G9 c) g f
theorem Sq (p:ee) (b:CG p) (c:A6 p≠0):AK prog 39 [.d (Bf p)] (.tup [.sl (some true) [],AF (A6 p)]):=by
 have a:=TT p b c;refine As func39 Z Z ntmps39 Z Z Z λF f=>(AC (AE (V (Bz 1 Z Z Z Z Z Z Z) (AB Z Z (AB Z Z (AD (AC (AE ?_))))))));refine J (BE Z Z BM Z Z Z) (J (BT (a) Z Z) (dd Z Z (J (C6 Z Z Z) (J (C6 Z Z Z) (J (C6 Z Z Z) (AB Z Z (AB Z Z (AB Z Z ?_))))))));refine AD (AC (AE (dd Z Z (dd Z Z (AB Z Z (AB Z Z (AD (A4 ?_))))))));exact ⟨_,[],[],A3 Z,Z,Z,Z,Z⟩
def eU (p:ee):List Int:=BY (ea p) (Ig p).2 (ea p).length
theorem Gf (p:ee) (b:CG p) (c:A6 p=0):AK prog 39 [.d (Bf p)] (.tup [.sl none ((eU p).map AF),AF 0]):=by
 have a:=V2 p b c;refine As func39 Z Z ntmps39 Z Z Z λF f=>(AC (AE (V (Bz 1 Z Z Z Z Z Z Z) (AB Z Z (AB Z Z (AD (AC (AE ?_))))))));refine J (BE Z Z BM Z Z Z) (J (BT (a) Z Z) (dd Z Z (J (C6 Z Z Z) (J (C6 Z Z Z) (J (C6 Z Z Z) (AB Z Z (AB Z Z (AB Z Z ?_))))))));refine AD (AC (AE (dd Z Z (dd Z Z (AB Z Z (AB Z Z (AD (A4 ?_))))))));exact ⟨_,[],[],A3 Z,Z,Z,Z,Z⟩
def Lx (l:List Int) (x:Int):List Int:=l.filter λy=>decide (y≠x)
def C9 (its:List eR) (x:eY) (l:List Int):Int:=max x.n 0+((its.filter λi=>decide (i.id∈l)).map λi=>Be i x.r).sum
theorem dP (i:eR) (r:AM): -1000000000000000<=Be i r/\Be i r<=1000000000000000:=by
 unfold Be
 split
 .simp [*,MU]
 .omega
def ON (its:List eR) (l:List Int) (id:Int) (x:eY):Option KV:=if id∈ez its x.r then (((ez its x.r).takeWhile λa=>decide (a≠id)).find? λa=>decide (a∉l)).map λa=>⟨id,1,x.r,a⟩ else none
def DA (p:ee) (l:List Int) (id:Int):Option KV:=match (CD p).findSome? (ON (eX p.it) l id) with
 | some e=>some e
 | none=>((eo p id).af.find? λa=>decide (a∉l)).map λa=>⟨id,2,Ey,a⟩
theorem QL {b:Type} {p:b ->Bool}:∀{l:List b} {m:Nat} (c:m<l.length),(∀a∈l.take m,p a=true) ->p l[m]=false ->l.takeWhile p=l.take m
 | a::l,0,_,_,h=>by simp at h;simp [h]
 | a::l,m+1,c,f,h=>by
  have j:p a=true:=f a (by simp);have g:=QL (l:=l) (m:=m) (by simpa using c) (λx i=>f x (by simp [i])) (by simpa using h);rw [List.takeWhile_cons,j,List.take_succ_cons,<-g];rfl
def P1 (its its0:List eR) (l:List Int) (x:eY):Option KV:=if C9 its0 x l<0 then ((ez its x.r).reverse.find? λa=>decide (a∈l)).map λa=>⟨a,0,x.r,-1⟩ else none
def NM (p:ee) (l:List Int):Option KV:=match l.findSome? (DA p l) with
 | some e=>some e
 | none=>(CD p).findSome? (P1 (eX p.it) p.it l)
theorem ZH {l:List Int} {id:Int} (b:DA h l id=some j):j.id=id:=by
 unfold DA at b
 split at b
 .rename_i g f
  injection b with b;subst b
  obtain ⟨x,_,c⟩:=List.exists_of_findSome?_eq_some f;unfold ON at c
  split at c
  .obtain ⟨a,_,rfl⟩:=Option.map_eq_some_iff.1 c;rfl
  .cases c
 .obtain ⟨a,_,rfl⟩:=Option.map_eq_some_iff.1 b;rfl
theorem Gs {b:Type} {p q:b ->Bool}:∀{l:List b},(∀x∈l,p x=q x) ->l.find? p=l.find? q
 | [],_=>rfl
 | a::l,h=>by
  rw [List.find?_cons,List.find?_cons,h a (fu ..),Gs λx c=>h x (gG _ c)]
theorem Jq {b c:Type} {f g:b ->Option c}:∀{l:List b},(∀x∈l,f x=g x) ->l.findSome? f=l.findSome? g
 | [],_=>rfl
 | a::l,h=>by
  rw [m7,m7,h a (fu ..),Jq λx i=>h x (gG _ i)]
theorem LB {b g:Type} {f:b ->Option g} {p:b ->Bool}:∀{l:List b},(∀x∈l,p x=false ->f x=none) ->(l.filter p).findSome? f=l.findSome? f
 | [],_=>rfl
 | a::l,h=>by
  have c:=LB (f:=f) (p:=p) (l:=l) λx i=>h x (gG _ i);rw [hG]
  cases hp:p a with
  | true=>rw [ϱ Z,m7,m7,c]
  | false=>rw [θ (by simp),c,m7,h a (fu ..) hp]
theorem L9 {c b f:Type} {g:c ->b} {p:b ->Bool} {h:b ->f}:∀{l:List c},((l.map g).find? p).map h=l.findSome? λx=>if p (g x)=true then some (h (g x)) else none
 | []=>rfl
 | a::l=>by
  rw [gA,List.find?_cons,m7]
  cases hp:p (g a) with
  | true=>rw [ϱ rfl];rfl
  | false=>rw [θ (by simp),<-L9 (l:=l)]
theorem XK {x:eR} (h:Aq x=0) (b:Cb s=0):ER (eS x) s=Be x s:=by
 have a:eS x=LI (fX x):=ϱ h;have c:Be x s=Al (fX x) s:=ϱ ⟨h,b⟩;rw [a,c]
 by_cases f:Al (fX x) s=0
 .grind [EM,GR,Eu]
 .refine mQ (by rw [<-a];exact jP x) ?_
  grind [GR,Eu,F9]
theorem Fj {l:List eY} (h:Cv l=0):∀x∈l,Cb x.r=0:=λx b=>by
 have f:=RT.1 h;obtain ⟨j,a,rfl⟩:=gF b;have:=f j (Θ.2 a);unfold Ms at this;rw [EQ Ha a] at this
 split at this
 .contradiction
 .rename_i c
  exact Classical.byContradiction λh=>c h
theorem qn {l:List eR} (h:Dl l=0):∀x∈l,Aq x=0:=λx b=>by
 have f:=RT.1 h;obtain ⟨j,a,rfl⟩:=gF b;have:=f j (Θ.2 a);unfold Ng at this;rw [EQ eT a] at this
 split at this
 .contradiction
 .rename_i c
  exact Classical.byContradiction λh=>c h
theorem my (a:∀x∈f,Aq x=0) (b:Cb s=0):ez f s=(et (f.map eS) s).map λi=>(f.getD i eT).id:=by
 unfold ez et
 have e:f=(List.range f.length).map λi=>f.getD i eT:=by
  apply gu (by simp)
  grind
 conv=>lhs;rw [e]
 rw [List.filter_map,fS,ψ]
 congr 1
 grind [iD,XK]
theorem NE (g:(f.map eR.id).Nodup) (b:Nat ->Bool) (c:i<f.length):(f.getD i eT).id∈BY f b f.length↔b i=true:=by
 unfold BY;rw [κ]
 constructor
 .rintro ⟨j,h,e⟩;obtain ⟨l,o⟩:=Γ.1 h;have a:=Θ.1 l;rw [EQ eT c,EQ eT a] at e
  have:j=i:=by
   have k:(f.map eR.id)[j]'(by simpa using a)=(f.map eR.id)[i]'(by simpa using c):=by
    grind
   exact (List.getElem_inj g).1 k
  grind
 grind
end Go.Proofs.YteifpcnphnhaoaaGreat
