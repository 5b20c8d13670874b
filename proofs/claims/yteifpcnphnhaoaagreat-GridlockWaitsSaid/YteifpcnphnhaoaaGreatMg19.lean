import Derived.Test.YteifpcnphnhaoaaGreatMg18
import Derived.Shelf.SlSortCmp.Whole1
open Go.Proofs.Tryz
set_option maxHeartbeats 4000000
namespace Go.Proofs.YteifpcnphnhaoaaGreat
open Go.RowKit Go.Shelf
open Go.Sort (putRow Holds PermIn SortedIn SWO mapBlock onCells putCells)
variable{P:Program}
section
variable{ρr:Ren}{τ:Type}
variable{a:Option (Nat×Bool)}{c:Array TypeId}{f:Array Edge}{g:Type}{h:g->Value}{i:Array Obj}{j:Array g}{k:String}{o:TypeId}{w:World}{s:FuncId}{t:Nat}{u:AV}{F:Fr}{x:AS}{y:Nat}
theorem vB[Inhabited g]{c m:Nat}{a:Nat}(k:a≠y)(f:a<w.heap.size):(sortWorld h w y c m j i).heap[a]? =w.heap[a]?:=by
 unfold sortWorld;rw[Go.Sort.heap_grow_old _ _ (by rw[Go.Sort.size_putRow];exact f)];show (w.heap.modify y _)[a]? =_
 grind
theorem He[Inhabited g]{a m:Nat}:w.heap.size<=(sortWorld h w y a m j i).heap.size:=by simp[*,sortWorld]
theorem dJ(L:SlLaysF.n6 P ρr){E:TypeId}{g g6:FuncId}{fn:Func}(hfn:P.funcs[g]? =some fn)(hnm:(fn.name== "runtime.NumGoroutine")=false){c:Code}(hbody:fn.body=some c){A:τ->Nat}{px:τ->List D}{tx:τ->TypeId}(cf:τ->τ->Int)(hO:SWO (ltOf cf))(k B:List τ)(hsz:k.length<4611686018427387904)(hc:∀x∈k,∀y∈k,AI P g [.d (.ptr (.agg (px x))),.d (.ptr (.agg (px y)))] (.raw (.int .i64 (cf x y))))(hu:∀ys:List τ,ys.Perm k->ys.Pairwise (λa b=>¬cf b a<0)->ys=B){F:Fr}{s:AS}{d:Nat}{x y:Operand}{ty:TypeId}{pos:String}{aft:Array Edge}{gd:Option (Nat×Bool)}{at_:Array TypeId}{f b t n:Nat}{M:MF}{fa:AV}{row:List D}{hp':Hp}(hg:ρr.f 6=g6)(hM:dr s.hp f=some [.multi M])(hpx:∀x∈k,M (A x)=some (.cells (tx x) (px x)))(h1x:∀x∈k,∀c∈px x,c.one=true)(hx:s.ev x=some (.d (.raw (sV b n t))))(hy:s.ev y=some fa)(hfa:∀w O V v,A8 w O V fa v->v= .func (.func g) #[] #[])(hb:M b=some (.row E 1 t row))(N:row=k.map λx=>pD (A x) 0)(hn:n=k.length)(hxs:k≠ [])(hh:Bt s.hp f (Bh M b (.row E 1 t (B.map λx=>pD (A x) 0)))=some hp')(hd:Nat.blt d s.n=true):
  AH P F ⟨some d,.call {callee:= .value (.func g6),args:= #[x,y],argTypes:=at_},ty,pos,aft,gd⟩ s ⟨s.n,(d,.d (.tup []))::s.env,hp'⟩ (λ_ _=>true):=by
 subst hg N hn;intro V U w hs
 obtain ⟨fn6,hf1,hf2,hf3⟩:∃fn,P.funcs[ρr.f 6]? =some fn/\(fn.name== "runtime.NumGoroutine")=false/\fn.body.isSome=true:=by
  obtain ⟨nm,hn,hf⟩:=L.f6;exact ⟨_,hf,hn,Z⟩
 unfold Oper.wp;rw[show (#[x,y]:Array Operand)=[x,y].toArray from rfl,DU hf1 hf2 hf3,Oper.upon_enter]
 suffices R:Calls P (ρr.f 6) ([x,y].map U.eval).toArray w λe w'=>e= .returned (.tuple #[])/\SR F ⟨s.n,s.env,hp'⟩ V U w' by
  refine R.mono λe w' ⟨G,hsr⟩=>?_;subst G;exact ⟨V,hsr.put (I4 hd) (.d (.tup Z λi c v hc=>by cases hc)),λ_ _ _=>rfl⟩
 have r0:=hs.raw hx;have r1:=hfa _ _ _ _ (hs.ev hy);have h3:=hs.heap
 have hO0:BJ V s.hp b:=⟨f,b,_,by rw[Gv hM,hb];rfl,by rw[(hs.rowN hM hb).1];rfl⟩
 obtain ⟨hρ,us,q1,q2,q3⟩:=hs.rowN hM hb;show Calls P (ρr.f 6) #[U.eval x,U.eval y] w _;rw[r1,r0];have hn:0<k.length:=m8.2 hxs
 have hus:us=k.map λx=>pV (A x) 0:=by
  apply m0
  intro i;rw[ς]
  by_cases C:i<k.length
  .rw[ω C];obtain ⟨u,h1,h2,h4⟩:=q2.2.2 i (pD (A k[i]) 0) (by rw[ς,ω C];rfl) 0 (pD (A k[i]) 0) rfl;rw[lu,l7] at h1;rw[h1]
   cases h4 with
   | raw _=>rfl
  .have:us.length=k.length:=by have:=q2.1;rwa [χ,lu] at this
   rw[mL (by omega),mL (by omega)];rfl
 obtain ⟨r,p1,p2,p3,p3',p4⟩:∃r,w.heap[b]? =some (.cells r E (0,0))/\r.size=t/\k.length<=t/\t<=maxLen/\r.toList.take k.length=us:=by
  rcases q1.2 with ⟨_,h⟩ | ⟨K,cap',r,G,_,T,e3,e4,e5,e6⟩
  .rw[χ] at h;omega
  .rw[χ] at G;injection G with G e7 e8
   injection G with G
   injection G with G
   subst G e8;rw[χ] at e3 e6;exact ⟨r,T,by omega,e3,e4,by rwa [lu] at e6⟩
 rw[χ] at*;have hlt:b<w.heap.size:=(ld.1 p1).1;have hOb:F.O V s.hp b:= .inr hO0;have hOl:∀K,F.O V s.hp K->K<w.heap.size:=λK h=>h3.ltO h
 let x0:τ:=k[0]
 let ix:Nat->Nat:=λi=>if i<k.length then i else 0
 let el:Nat->τ:=λi=>(k[ix i]?).getD x0
 have Q:∀i,el i∈k:=λi=>by
  have hix:ix i<k.length:=by show (if _ then _ else _)<_;split<;>omega
  show (k[ix i]?).getD x0∈k;rw[ω hix];exact ϑ hix
 have X:∀i (C:i<k.length),el i=k[i]:=λi C=>by
  show (k[ix i]?).getD x0=_;rw[show ix i=i from ϱ C,ω C];rfl
 let o:Nat->Value:=λi=>pV (A (el i)) 0
 let cf':Nat->Nat->Int:=λi j=>cf (el i) (el j)
 have hO':SWO (ltOf cf'):=⟨λx=>hO.irrefl (el x),λx y z=>hO.trans (el x) (el y) (el z),λx y z=>hO.ntrans (el x) (el y) (el z)⟩
 have henc1:OneCell o:=λ_=>rfl;have hd0:∀i,i<k.length->(Array.range k.length)[i]! =i:=λi C=>by rw[getElem!_pos _ i (by simpa using C)];simp
 have hcu:∀i (C:i<k.length),r[i]? =some (pV (A k[i]) 0):=λi C=>by
  have:us[i]? =r.toList[i]?:=by rw[<-p4,mf C]
  rw[hus,ς,ω C] at this;rw[<-ly];exact this.symm
 have hH:Holds o w b 0 (Array.range k.length):=by
  intro j J;simp only[mm] at J;rw[hd0 _ J];refine ⟨?_,?_⟩
  .simp only[World.cell?,p1,lU];rw[hcu j J];show _=some (pV (A (el j)) 0);rw[X j J];rfl
  .simp only[World.frozen?,p1]
   simp
 have hcmp:CmpLays1 P g #[] o cf' b 0 (Array.range k.length).size w:=by
  intro m os dk _ x y;have hWs:w.heap.size<=(sortWorld o w b 0 m dk os).heap.size:=He
  let O':Nat->Prop:=λK=>F.O V s.hp K/\K≠A (el x)/\K≠A (el y)
  have hne:∀i,A (el i)≠b:=λi e=>by
   have:=hpx _ (Q i);rw[e,hb] at this;cases this
  have W:∀i,i=x\/i=y->AZ (sortWorld o w b 0 m dk os) O' (.ptr (.agg (px (el i)))) (pV (A (el i)) 0):=λi C=>by
   obtain ⟨_,vs,c1,c2,c3,c4⟩:=hs.cellsN hM (hpx _ (Q i));have hl:A (el i)<w.heap.size:=(ld.1 c1).1
   have hOn:¬O' (A (el i)):=λh=>by
    rcases C with e | e
    .exact h.2.1 (by rw[e])
    .exact h.2.2 (by rw[e])
   show AZ _ _ (.ptr (.agg (px (el i)))) (.pointer (some ⟨A (el i),0,none⟩));refine AZ.ptr (x:= .agg (px (el i))) (λj=>vs.getD j undef) (li hl hWs) hOn (h1x _ (Q i)) (λj c J=>?_) λj c J=>?_
   .have hj':j<vs.length:=by rw[c2];exact (φ.1 J).1
    simp only[World.cell?,vB (hne i) hl,c1,lU]
    simp[hj']
   .have hj':j<vs.length:=by rw[c2];exact (φ.1 J).1
    have I:vs[j]? =some vs[j]:=ω hj';have:vs.getD j undef=vs[j]:=by rw[Ψ,I];rfl
    rw[this];exact (c3 j c _ J I).mono hWs (λK hl hno=>vB (λe=>hno (e▸hOb)) hl) (λ_ _ h=>h.1)
  refine (Sl (hc (el x) (Q x) (el y) (Q y)) (w:=sortWorld o w b 0 m dk os) (O:=O') (λK h=>li (hOl K h.1) hWs) (vs:=[pV (A (el x)) 0,pV (A (el y)) 0]) Z (λi a v S I=>?_)).mono λe w' ⟨v,G,T,e3,e4,e5⟩=>⟨?_,Ph e3 e4 e5⟩
  .match i,S,I with
   | 0,S,I=>injection S with S;injection I with I;subst S I;exact .d (W x (.inl Z))
   | 1,S,I=>injection S with S;injection I with I;subst S I;exact .d (W y (.inr Z))
  .cases T with
   | raw _=>exact G
 have eg:∀args w,(callFunc g args).run P w= .ok (.enter g args) w:=enters_of hfn hnm hbody;have R:=Any.slices_SortFunc L o henc1 cf' hO' g #[] b 0 t (Array.range k.length) w eg hcmp hH hlt (by simpa using hsz);rw[mm] at R;refine R.mono λe w' ⟨G,Y,n,os,hp,hsort,hw⟩=>?_;subst G hw;obtain ⟨s1,_,s3⟩:=hp;rw[mm] at s1
 have hperm:Y.toList.Perm (List.range k.length):=by
  have G:Y.extract 0 k.length=Y:=by rw[<-s1];exact Array.extract_size
  have T:(Array.range k.length).extract 0 k.length=Array.range k.length:=by
   conv=>lhs;arg 3;rw[<-mm (n:=k.length)]
   exact Array.extract_size
  rw[G,T] at s3
  simpa using s3
 refine ⟨Z,?_⟩
 have hys:Y.toList.map el=B:=by
  apply hu
  .refine (hperm.map el).trans (List.Perm.of_eq ?_)
   apply lg (by simp)
   intro i h5 h6;simp only[kT,List.getElem_range];exact X i h6
  .rw[l4];intro i j C J hij;simp only[χ,m7] at C J;have:=hsort i j (κ _) hij (by omega);rw[getElem!_pos _ j J,getElem!_pos _ i C] at this;simp only[ltOf,decide_eq_false_iff_not] at this
   simpa using this
 have hlen':B.length=k.length:=by rw[<-hys];simp[s1]
 -- the world: first what lies in the row, then the new blocks
 have hheap:(sortWorld o w b 0 n Y os).heap[b]? =some (.cells (putCells o 0 Y r) E (0,0)):=by
  unfold sortWorld;rw[Go.Sort.heap_grow_old _ _ (by rw[Go.Sort.size_putRow];exact hlt)];show (w.heap.modify b _)[b]? =_;rw[mj,ϱ Z,p1];rfl
 refine hs.writeG f b (.nr b E 1 t (k.map λx=>pD (A x) 0)) (.nr b E 1 t (B.map λx=>pD (A x) 0)) (by rw[Gv hM,hb];rfl) (λg i=>?_) Z Z Z He (Nat.le_add_right _ _) (λK hl hno=>vB (λe=>hno (by rw[e,hρ];rfl)) hl) (λ_ _ e=>by cases e) λhrep=>?_
 .rw[D9 hh]
  by_cases e:g=f
  .subst e;rw[ϱ Z,Gv hM]
   by_cases T:i=b
   .subst T;rw[ϱ ⟨Z,Z⟩,H3];rfl
   .rw[ν (λh=>T h.2),IV T]
  .rw[ν e,ν (λh=>e h.1)]
 have hcs:(putCells o 0 Y r).size=t:=by simp only[putCells,Array.size_mapIdx];omega
 have N:(putCells o 0 Y r).toList.take B.length=B.map λx=>pV (A x) 0:=by
  apply m0
  intro i
  by_cases C:i<k.length
  .rw[mf (by omega),ς,<-hys,ς,ly,ly,lJ (by omega),lJ (by omega)];simp only[putCells,Array.getElem_mapIdx,lW];rw[ϱ ⟨κ _,by omega⟩];simp only[Nat.sub_zero];rw[getElem!_pos _ i (by omega)]
  .rw[mL (by rw[η];omega),mL (by rw[χ];omega)]
 refine ⟨hρ,B.map λx=>pV (A x) 0,⟨by simp,.inr ⟨b,t,_,by simp only[χ],κ _,hheap,by rw[χ,hlen'];exact p3,p3',by rw[hcs];omega,by rw[χ,lu,N]⟩⟩,⟨by simp,λx l=>?_,λi x l j c H=>?_⟩,λx l c H=>?_⟩
 .obtain ⟨y,_,rfl⟩:=Γ.1 l;rfl
 .rw[ς] at l
  cases kI:B[i]? with
  | none=>rw[kI] at l;cases l
  | some q=>
   rw[kI] at l;injection l with l;subst l
   match j,H with
   | 0,H=>
    injection H with H;subst H
    exact ⟨pV (A q) 0,by rw[lu,l7,ς,kI];rfl,Z,.raw Z⟩
 .obtain ⟨y,_,rfl⟩:=Γ.1 l
  cases H with
  | head=>rfl
  | tail _ h=>cases h
theorem aM(L:SlLaysF.n6 P ρr){b y:Operand}(G:ρr.f 6=s)(D:x.ev b=some (.d (.raw (.slice none 0 0))))(R:x.ev y=some u)(I:Nat.blt t x.n=true):
  AH P F ⟨some t,.call {callee:= .value (.func s),args:= #[b,y],argTypes:=c},o,k,f,a⟩ x ⟨x.n,(t,.d (.tup []))::x.env,x.hp⟩ (λ_ _=>true):=by
 subst G;intro B h w A
 obtain ⟨K,r,l,j⟩:∃z,P.funcs[ρr.f 6]? =some z/\(z.name== "runtime.NumGoroutine")=false/\z.body.isSome=true:=by
  obtain ⟨Q,E,H⟩:=L.f6;exact ⟨_,H,E,Z⟩
 unfold Oper.wp;rw[show (#[b,y]:Array Operand)=[b,y].toArray from rfl,DU r l j,Oper.upon_enter];have C:=A.raw D;show Calls P (ρr.f 6) #[h.eval b,h.eval y] w _;rw[C];refine (AnyF.slices_SortFunc_none {L with} none 0 _ w).mono λe O ⟨N,M⟩=>?_;subst N M;exact ⟨B,A.put (I4 I) (.d (.tup Z λi g v J=>by cases J)),λ_ _ _=>rfl⟩
end
end Go.Proofs.YteifpcnphnhaoaaGreat
namespace Go.Proofs.YteifpcnphnhaoaaGreat
open Go.RowKit Go.Shelf
variable{M:MF}{f a c:Nat->Nat}{N:jh}{g:Nat}{h:Type}{i j k o:Nat}{t:TypeId}{s:Nat}{u:Au}
set_option maxRecDepth 100000 in
theorem qD(x y:Po):AI prog 142 [.d (.ptr (.agg (oT x))),.d (.ptr (.agg (oT y)))] (AE (BT x.r y.r)):=by
 refine As func142 Z Z ntmps142 Z Z Z λF a=>(AD ?_);refine AF (AB Z Z (AC (AD (Bq [[],[0],[0,1],[0,1,2],[],[4],[4,5],[4,5,6],rg 8,rg 9] mixed Z (B2 (A7 0 Z Z (AK [5] Z (Kt Z Z) (AK [6] Z (KL Z OY Z Z Z) ?_))))))));refine AK [7] Z (CY Z Z Cw Z) (A7 1 Z Z (AK [9] Z (Kt Z Z) (AK [10] Z (KL Z OY Z Z Z) (AK [11] Z (CY Z Z Cw Z) (BV 8 Z Z Z (A0 9 Z Z (J (Aj (NI x.r y.r) Z Z) (AC ⟨Z,?_⟩))))))));refine A0 10 Z Z (AB Z Z (AC ⟨Z,?_⟩));refine Bb (A4 ?_);exact ⟨_,[],[],A2 Z,Z,Z,Z,Z⟩
theorem HS{m:Au}(a:M i=none)(h:M s=some m):Bh M i u s=some m:=by grind[IV]
theorem NX(f:M i=none){h:Hd}{b:List D}(a:BX M h t o b):BX (Bh M i u) h t o b:=by
 match h,a with
 | none,a=>exact a
 | some (g,c),a=>exact ⟨a.1,HS f a.2⟩
theorem Ca.fresh(h:Ca j k c a N M){m:Au}(g:M i=none):Ca j k c a N (Bh M i m):=
 ⟨λf x o=>HS g (h.n f x o),λb y l=>HS g (h.p b y l),⟨λr=>NX g (h.rs.1 r),h.rs.2⟩,HS g h.w,h.ni,h.pi,h.e,h.q⟩
def O1(f:Nat->Nat)(k b:Nat):Nat->Nat:=λj=>if j=k then b else f j
theorem Da{j:Nat}(h:j<o):O1 f o g j=f j:=ν (by omega)
theorem Gr:O1 f o g o=g:=ϱ rfl
theorem RY:(List.range (o+1)).map (λj=>B4 (O1 f o g j))=(List.range o).map (λj=>B4 (f j))++ [B4 g]:=by grind[ko,Gr,kQ,Da]
abbrev ay(nh:Hd)(a:Nat)(mh:Hd)(c mv:Nat):Au:= .cells 180 [ji nh a,ji mh c,M9 (.map (some mv))]
theorem Ca.keepM(h:Ca j k c a N M)(u:Bo M N.mh g=none){v:Au}{l:List D}(i:M s=some (.cells t l)):Bh (Bo M N.mh) g v s=some (.cells t l):=
 Go.Proofs.YteifpcnphnhaoaaGreat.l9 u i λf o=>by have:=h.rs.blk (r:= .m) o;rw[i] at this;cases this
theorem Mu(l:List h)(y d:h)(j:Nat):(l++ [y]).getD j d=if j=l.length then y else l.getD j d:=by grind
theorem kj{l:List h}{d:h}(i:Nat):l.getD i d∈l\/l.getD i d=d:=by grind
theorem mA{l:List h}{y z:h}{i:Nat}(a:(l++ [y])[i]? =some z):(i<l.length/\l[i]? =some z)\/(i=l.length/\z=y):=by grind
theorem Ca.addM(h:Ca j k c a N M){y:Po}(R:y.q=[])(E:y.qh=none){bn:Nat}(Y:M bn=some (Wa y))(C:∀o,o<N.po.length->a o≠bn){cap:Nat}(J:Bo M N.mh g=none)(U:N.po.length+1<=cap):
  Ca j k c (O1 a N.po.length bn) {N with po:=N.po++ [y],mh:=some (g,cap)} (Bh (Bh (Bo M N.mh) g (.row Ye 1 cap ((List.range N.po.length).map (λo=>B4 (a o))++ [B4 bn]))) j (ay N.nh N.nd.length (some (g,cap)) (N.po.length+1) k)):=by
 have I:∀i,((N.nd.getD i CV).ef.map (iN (O1 a N.po.length bn)))=(N.nd.getD i CV).ef.map (iN a):=λi=>kQ λe u=>by
  rcases kj (l:=N.nd) (d:=CV) i with s | s
  .show D.agg [pD (O1 a N.po.length bn e.1) 0,_]=_;rw[Da ((h.e _ s).1 e u)]
  .rw[s] at u;cases u
 have G:∀i,((N.nd.getD i CV).pl.map (nK (O1 a N.po.length bn)))=(N.nd.getD i CV).pl.map (nK a):=λi=>kQ λe u=>by
  rcases kj (l:=N.nd) (d:=CV) i with s | s
  .show D.agg [pD (O1 a N.po.length bn e.1) 0,_]=_;rw[Da ((h.e _ s).2 e u)]
  .rw[s] at u;cases u
 have X:∀r,r≠RI.m->Cs c (O1 a N.po.length bn) {N with po:=N.po++ [y],mh:=some (g,cap)} r=Cs c a N r:=λr T=>by
  cases r with
  | e i=>show (⟨_,_,_,(N.nd.getD i CV).ef.map _⟩:jl)=_;rw[I];rfl
  | p i=>show (⟨_,_,_,(N.nd.getD i CV).pl.map _⟩:jl)=_;rw[G];rfl
  | n=>rfl
  | m=>exact absurd Z T
  | q o=>
   show (⟨((N.po++ [y]).getD o Cd).qh,_,_,((N.po++ [y]).getD o Cd).q.map _⟩:jl)=⟨(N.po.getD o Cd).qh,_,_,(N.po.getD o Cd).q.map _⟩
   rw[Mu]
   split
   .rename_i e
    rw[R,E,Ψ,mL (by omega)];rfl
   .rfl
 have w:=h.rs.upd (R':=Cs c (O1 a N.po.length bn) {N with po:=N.po++ [y],mh:=some (g,cap)}) .m X (b:=g) (cap:=cap) J Z (by
  show ((List.range (N.po++ [y]).length).map _).length<=cap
  simp;exact U)
 have A:(Cs c (O1 a N.po.length bn) {N with po:=N.po++ [y],mh:=some (g,cap)} .m).xs=(List.range N.po.length).map (λo=>B4 (a o))++ [B4 bn]:=by
  show (List.range (N.po++ [y]).length).map _=_;rw[Δ,ζ,RY]
 rw[A] at w
 have B:∀(Q:Nat) (t:TypeId) (O:List D),t≠180->M Q=some (.cells t O)->Bh (Bh (Bo M N.mh) g (.row Ye 1 cap ((List.range N.po.length).map (λo=>B4 (a o))++ [B4 bn]))) j (ay N.nh N.nd.length (some (g,cap)) (N.po.length+1) k) Q=some (.cells t O):=λQ t O S s=>by
  rw[IV]
  .exact h.keepM J s
  .rintro rfl;rw[h.w] at s;injection s with s;injection s with s;exact S s.symm
 refine ⟨λi x F=>B _ _ _ (by decide) (h.n i x F),λi z v=>?_,w.cells (h.keepM J h.w),?_,h.ni,λi f H B e=>?_,λx F=>?_,λz v=>?_⟩
 .rcases mA v with ⟨L,K⟩ | ⟨L,K⟩
  .rw[Da L];exact B _ _ _ (by decide) (h.p i z K)
  .subst L K;rw[Gr];exact B _ _ _ (by decide) Y
 .rw[H3];show _=some (Au.cells _ [_,ji _ (N.po++ [y]).length,_]);rw[Δ];rfl
 .have W:i<N.po.length+1:=by simpa using H
  have V:f<N.po.length+1:=by simpa using B
  by_cases e1:i=N.po.length<;>by_cases e2:f=N.po.length
  .omega
  .subst e1;rw[Gr,Da (by omega)] at e;exact absurd e.symm (C f (by omega))
  .subst e2;rw[Gr,Da (by omega)] at e;exact absurd e (C i (by omega))
  .rw[Da (by omega),Da (by omega)] at e;exact h.pi i f (by omega) (by omega) e
 .have:=h.e x F;refine ⟨λe u=>?_,λe u=>?_⟩
  .have:=this.1 e u;simp;omega
  .have:=this.2 e u;simp;omega
 .rcases υ.1 v with v | v
  .exact h.q z v
  .rw[ξ.1 v,R];intro i H;cases H
theorem Ca.perm(h:Ca j k c a N M)(U:N.nd=[])(hqn:∀y∈N.po,y.q=[]/\y.qh=none){u:List Nat}(X:u.Perm (List.range N.po.length)){v:Nat}(V:N.mh=some (g,v)):
  Ca j k c (λf=>a (u.getD f 0)) {N with po:=u.map λi=>N.po.getD i Cd} (Bh M g (.row Ye 1 v (u.map λo=>B4 (a o)))):=by
 have I:u.length=N.po.length:=by rw[X.length_eq,kp]
 have E:∀f,f<u.length->u.getD f 0<N.po.length:=λf Q=>by
  rw[Dy 0 Q];exact Ω.1 (X.mem_iff.1 (ϑ Q))
 have hrow:=h.rs.blk (r:= .m) V
 have J:=(h.rs.1 .m)
 rw[show (Cs c a N .m).h=some (g,v) from V] at J
 have L:N.po.length<=v:=by
  have:=J.1;have e:((List.range N.po.length).map λo=>B4 (a o)).length=N.po.length:=by simp
  exact e▸this
 have Q:∀(H:Nat) (t:TypeId) (cs:List D),M H=some (.cells t cs)->Bh M g (.row Ye 1 v (u.map λo=>B4 (a o))) H=some (.cells t cs):=λH t cs hm'=>by
  grind[IV]
 have K:∀(l:List Po),(∀y∈l,y.q=[]/\y.qh=none)->∀o,(l.getD o Cd).q=[]/\(l.getD o Cd).qh=none:=λl hl o=>by
  grind[Cd]
 have z:∀y∈u.map λi=>N.po.getD i Cd,y.q=[]/\y.qh=none:=λy T=>by
  grind
 refine ⟨λi x hx=>?_,λo y T=>?_,⟨λr=>?_,λr r' G s W C h2=>?_⟩,?_,h.ni,λi f B Z e=>?_,λx hx=>?_,λy T=>?_⟩
 .grind
 .have w:(u.map λi=>N.po.getD i Cd)[o]? =some y:=T;rw[ς] at w
  cases hj:u[o]? with
  | none=>rw[hj] at w;cases w
  | some i=>
   rw[hj] at w;have e:y=N.po.getD i Cd:=(Option.some.inj w).symm;have hjl:=(φ.1 hj).1;have B:=E o hjl;rw[Hy hj] at B;show Bh M g _ (a (u.getD o 0))=_;rw[Hy hj,e,Dy Cd B];exact Q _ _ _ (h.p i _ (ω B))
 .cases r with
  | e i=> 
   have:N.nd.getD i CV=CV:=by rw[U];rfl
   show BX _ (N.nd.getD i CV).eh _ _ ((N.nd.getD i CV).ef.map _);rw[this];rfl
  | p i=> 
   have:N.nd.getD i CV=CV:=by rw[U];rfl
   show BX _ (N.nd.getD i CV).ph _ _ ((N.nd.getD i CV).pl.map _);rw[this];rfl
  | q o=>
   show BX _ ((u.map λi=>N.po.getD i Cd).getD o Cd).qh _ _ (((u.map λi=>N.po.getD i Cd).getD o Cd).q.map _);obtain ⟨e1,e2⟩:=K _ z o;rw[e1,e2];rfl
  | n=>
   have F:=h.rs.1 .n;show BX _ N.nh _ _ ((List.range N.nd.length).map _)
   cases hh:N.nh with
   | none=>show _=[];rw[U];rfl
   | some p=>
    obtain ⟨H,W⟩:=p;rw[show (Cs c a N .n).h=some (H,W) from hh] at F;refine ⟨by have:=F.1;exact this,?_⟩;rw[IV]
    .exact F.2
    .rintro rfl;exact absurd (h.rs.2 .n .m H W v hh V) (by intro e;cases e)
  | m=>
   show BX _ N.mh _ _ ((List.range (u.map λi=>N.po.getD i Cd).length).map λf=>B4 (a (u.getD f 0)))
   have e:((List.range (u.map λi=>N.po.getD i Cd).length).map λf=>B4 (a (u.getD f 0)))=u.map λo=>B4 (a o):=by
    apply lg (by simp)
    intro f C h2;simp only[kT,List.getElem_range];rw[Dy 0 (by simpa using h2)]
   rw[e,V];exact ⟨by rw[χ,I];exact L,H3 _ _ _⟩
 .have A:∀r G s,(Cs c (λf=>a (u.getD f 0)) {N with po:=u.map λi=>N.po.getD i Cd} r).h=some (G,s)->(Cs c a N r).h=some (G,s):=λr G s C=>by
   cases r with
   | e i=>exact C
   | p i=>exact C
   | n=>exact C
   | m=>exact C
   | q o=>
    have S:((u.map λi=>N.po.getD i Cd).getD o Cd).qh=some (G,s):=C;rw[(K _ z o).2] at S;cases S
  exact h.rs.2 r r' G s W (A _ _ _ C) (A _ _ _ h2)
 .have:=Q _ _ _ h.w;show _=some (Au.cells _ [_,ji N.mh (u.map λi=>N.po.getD i Cd).length,_]);rw[χ,I];exact this
 .have R:i<u.length:=by simpa using B
  have O:f<u.length:=by simpa using Z
  have:=h.pi _ _ (E i R) (E f O) e;rw[Dy 0 R,Dy 0 O] at this;have Y:u.Nodup:=X.nodup_iff.2 List.nodup_range;exact (List.getElem_inj Y).1 this
 .have:x∈N.nd:=hx;rw[U] at this;cases this
 .intro i B;rw[(z y T).1] at B;cases B
end Go.Proofs.YteifpcnphnhaoaaGreat
namespace Go.Proofs.YteifpcnphnhaoaaGreat
open Go.RowKit
variable{T:List (AW×Int)}{a c:Type}{f:List (a×c)}{g:List AW}{h:List cl}{i:List ey}{j:List (List (AW×Int))}{k:a}{o:AW×Int}{s:List a}{t:Nat->Nat}{u:Nat}{z:Value}{w x:c}{y:a}
theorem fm[DecidableEq a](h:k∉f.map Prod.fst):B1 f k w=f++ [(k,w)]:=by
 induction f with
 | nil=>rfl
 | cons p r g=>
  grind[B1]
theorem ES[DecidableEq a](h:k∉f.map Prod.fst):Af f k x=x:=by
 induction f with
 | nil=>rfl
 | cons p r b=>
  grind[Af]
theorem Dk[DecidableEq a]{g:a}(h:k≠g):Af (f++ [(g,w)]) k x=Af f k x:=by
 induction f with
 | nil=>simp only[kN,Af];rw[ν h]
 | cons p r i=>
  grind[Af]
theorem ER[DecidableEq a](h:k∉f.map Prod.fst):Af (f++ [(k,w)]) k x=w:=by
 induction f with
 | nil=>simp[Af]
 | cons p r g=>
  grind[Af]
def Wp{α:Type}(d:α)(f:Nat->Nat)(l:List α):List (α×Value):=(List.range l.length).map λi=>(l.getD i d,pV (f i) 0)
theorem Om(d:a)(f:Nat->Nat)(l:List a):(Wp d f l).map Prod.fst=l:=by
 unfold Wp;rw[jw];refine lg (by simp) λj c b=>?_
 grind
theorem YS[DecidableEq a]{d:a}{f:Nat->Nat}{b:Nat}(h:k∉s):B1 (Wp d f s) k (pV b 0)=Wp d (O1 f s.length b) (s++ [k]):=by
 rw[fm (by rw[Om];exact h)];unfold Wp;rw[Δ,ζ,ko,jy,nU,Gr]
 grind[kQ,Da]
theorem YT[DecidableEq a][BEq a][LawfulBEq a](c:s.Nodup){i:Nat}(b:i<s.length)(e:s[i]=k):Af (Wp y t s) k z=pV (t i) 0:=by
 refine cR (by rw[Om];exact c) ?_;exact Γ.2 ⟨i,Ω.2 b,by rw[Dy y b,e]⟩
theorem sf[DecidableEq a](h:k∉s):Af (Wp y t s) k z=z:=ES (by rw[Om];exact h)
def O5(rs:List AW)(i j:Nat):Int:=BT (rs.getD i F2) (rs.getD j F2)
theorem SY(a:List AW):PC (O5 a):=NQ.comap λi=>a.getD i F2
def IP(rs:List AW):List Nat:=(List.range rs.length).mergeSort λi j=>decide (O5 rs i j<=0)
theorem jS(a:List AW):(IP a).Perm (List.range a.length):=List.mergeSort_perm _ _
theorem aS(E:g.Nodup){l:List Nat}(v:l.Perm (List.range g.length))(r:l.Pairwise λa b=>¬O5 g b a<0):l=IP g:=by
 have k:∀f:List Nat,f.Perm (List.range g.length)->(f.Pairwise λa b=>¬O5 g b a<0)->f.Pairwise λa b=>O5 g a b<0:=λf u r=>by
  have s:f.Pairwise λa b=>a≠b:=u.nodup_iff.2 List.nodup_range;have F:∀x∈f,x<g.length:=λx w=>Ω.1 (u.mem_iff.1 w);refine rB (λ{a b} H G h=>?_) (r.and s);have o:=(SY g).anti a b
  by_cases C:O5 g a b=0
  .exfalso
   have I:=Dq.1 C
   grind[List.getElem_inj]
  omega
 refine sI (R:=λa b=>O5 g a b<0) (λx=>by rw[(SY g).refl];omega) (λx y z=>(SY g).trans x y z) (k l v r) (k _ (jS g) ?_) λx=>v.mem_iff.trans (jS g).mem_iff.symm;have:=List.pairwise_mergeSort (le:=λi j=>decide (O5 g i j<=0)) (λa b c o A=>?_) (λa b=>?_) (List.range g.length)
 .refine List.Pairwise.imp (λ{a b} h=>?_) this;have o:=(SY g).anti a b
  grind
 .have B:O5 g a b<=0:=by simpa using o
  have t:O5 g b c<=0:=by simpa using A
  have:O5 g a c<=0:=by
   by_cases D:O5 g a b=0
   .rw[(SY g).eqv a b c D];exact t
   .by_cases K:O5 g b c=0
    .have N:=(SY g).anti b c;have J:=(SY g).eqv c b a (by omega);have M:=(SY g).anti a c;have L:=(SY g).anti a b;omega
    .have:=(SY g).trans a b c (by omega) (by omega);omega
  grind
 .have o:=(SY g).anti a b
  grind
abbrev Ds(D:List (AW×Int))(r:AW):Int:=Af D r 0
def iX(ds:List (List (AW×Int)))(r:AW):List Nat:=(List.range ds.length).filter λi=>decide (Ds (ds.getD i []) r<0)
def KW(x:ey):Po:=⟨x.r,x.n,0,none,[],0⟩
def aj(ds:List (List (AW×Int)))(x:ey):Po:=⟨x.r,x.n,(ds.map λD=>Ds D x.r).sum,none,iX ds x.r,0⟩
def mE(rs:List AW)(D:List (AW×Int)):List (Nat×Int):=(D.filter λd=>decide (d.1∈rs)).map λd=>(rs.idxOf d.1,d.2)
def lZ(rs:List AW)(ds:List (List (AW×Int)))(D:List (AW×Int)):List (Nat×Nat):=(D.filter λd=>decide (d.1∈rs) && decide (d.2<0)).map λd=>(rs.idxOf d.1,(iX ds d.1).length)
def rq(rs:List AW)(ds:List (List (AW×Int)))(x:cl)(D:List (AW×Int)):Nd:=⟨x,none,mE rs D,none,lZ rs ds D,true⟩
def LN(rs:List AW)(its:List cl)(k:Nat):List Nd:=(List.range k).map λi=>rq rs ((its.map dd).take i) (its.getD i ek) (dd (its.getD i ek))
def F5(ro:List ey)(its:List cl)(k:Nat):jh:=⟨LN (ro.map ey.r) its k,ro.map (aj ((its.map dd).take k)),none,none⟩
def E4(ro:List ey)(its:List cl)(k t:Nat):jh:=⟨LN (ro.map ey.r) its k++ [rq (ro.map ey.r) ((its.map dd).take k) (its.getD k ek) ((dd (its.getD k ek)).take t)],ro.map (aj ((its.map dd).take k++ [(dd (its.getD k ek)).take t])),none,none⟩
theorem Xi(h:o.1∈g):mE g (T++ [o])=mE g T++ [(g.idxOf o.1,o.2)]:=by grind[mE]
theorem T4(h:o.1∉g):mE g (T++ [o])=mE g T:=by grind[mE]
theorem er(h:o.1∈g)(a:o.2<0):lZ g j (T++ [o])=lZ g j T++ [(g.idxOf o.1,(iX j o.1).length)]:=by grind[lZ]
theorem Sp(h:¬(o.1∈g/\o.2<0)):lZ g j (T++ [o])=lZ g j T:=by grind[lZ]
theorem bF(a:List (List (AW×Int)))(D:List (AW×Int))(r:AW):iX (a++ [D]) r=iX a r++if Ds D r<0 then [a.length] else []:=by
 unfold iX;rw[Δ,ζ,ko,lv]
 grind[lr]
theorem GC(a:List (List (AW×Int)))(D:List (AW×Int))(x:ey):aj (a++ [D]) x=⟨x.r,x.n,(aj a x).sum+Ds D x.r,none,(aj a x).q++(if Ds D x.r<0 then [a.length] else []),0⟩:=by
 unfold aj;rw[bF,jy,mc]
 simp
theorem bB:E4 i h u 0=⟨(F5 i h u).nd++ [⟨h.getD u ek,none,[],none,[],true⟩],(F5 i h u).po,none,none⟩:=by
 unfold E4 F5
 congr 1
 grind[kQ,GC,aj,Af]
theorem bD(a:u<h.length):E4 i h u (dd (h.getD u ek)).length=F5 i h (u+1):=by grind[E4,F5,LN,ko,ψ]
theorem bC{t:Nat}(a:t<(dd (h.getD u ek)).length)(b:((dd (h.getD u ek))[t]).1∉i.map ey.r):E4 i h u (t+1)=E4 i h u t:=by grind[E4,ψ,rq,T4,Sp,kQ,GC,Dk]
theorem cN(x:cl):((dd x).map Prod.fst).Nodup:=by
 unfold dd
 split
 .have:=Lt (js x);show ((NE (js x)).map Prod.fst).Pairwise _;rw[ky];refine this.imp λ{a b} h e=>?_;rw[e,NQ.refl] at h;omega
 .exact List.nodup_nil
theorem bE(E:(i.map ey.r).Nodup){t j:Nat}(O:u<=h.length)(J:t<(dd (h.getD u ek)).length)(C:j<i.length)(A:(i.map ey.r).idxOf ((dd (h.getD u ek))[t]).1=j)(B:((dd (h.getD u ek))[t]).1∈i.map ey.r){x:Nd}{y:Po}(N:(E4 i h u t).nd[u]? =some x)(I:(E4 i h u t).po[j]? =some y):
  E4 i h u (t+1)=⟨(E4 i h u t).nd.set u (tm x j y.q.length ((dd (h.getD u ek))[t]).2),(E4 i h u t).po.set j (tl y u ((dd (h.getD u ek))[t]).2),none,none⟩:=by
 obtain ⟨d,G⟩:∃d,(dd (h.getD u ek))[t]=d:=⟨_,Z⟩
 rw[G] at A B⊢
 have v:d.1∉((dd (h.getD u ek)).take t).map Prod.fst:=λb=>by
  grind[cN,mw]
 have K:(LN (i.map ey.r) h u).length=u:=by unfold LN;simp
 have s:((h.map dd).take u).length=u:=by simp;omega
 have L:x=rq (i.map ey.r) ((h.map dd).take u) (h.getD u ek) ((dd (h.getD u ek)).take t):=by
  grind[E4]
 have l:(i.map (aj ((h.map dd).take u++ [(dd (h.getD u ek)).take t])))[j]? =some y:=I;rw[ς,ω C] at l;have H:y=aj ((h.map dd).take u++ [(dd (h.getD u ek)).take t]) i[j]:=(Option.some.inj l).symm
 have c:i[j].r=d.1:=by
  have g:=nI (mr B);simp only[A,kT] at g;exact g
 have w:Ds ((dd (h.getD u ek)).take t) d.1=0:=ES v
 have D:y.q.length=(iX ((h.map dd).take u) d.1).length:=by
  rw[H,GC,c,w];show (iX _ _++_).length=_;rw[c];simp
 unfold E4;rw[ψ J,G]
 congr 1
 .rw[List.set_append_right _ _ (by omega),K,Nat.sub_self,List.set_cons_zero]
  congr 2
  rw[L];unfold rq tm;rw[Xi B,A,D]
  by_cases f:d.2<0
  .rw[er B f,A,ϱ f]
  .rw[Sp (λb=>f b.2),ν f]
 .refine m0 λa=>?_;rw[nC]
  by_cases e:j=a
  .subst e;rw[ϱ Z,ϱ (by simpa using C),ς,ω C];show some _=some _
   congr 1
   rw[H];unfold tl;rw[GC,GC,c];have g:Ds ((dd (h.getD u ek)).take t++ [d]) d.1=d.2:=ER v;rw[g,w,s,c.symm];simp only[Int.add_zero,Po.mk.injEq,true_and,and_true]
   by_cases f:d.2<0
   .simp[f]
   .simp[f]
  .rw[ν e,ς,ς]
   cases hi:i[a]? with
   | none=>rfl
   | some z=>
    show some _=some _
    congr 1
    have o:=(φ.1 hi)
    have F:z.r≠d.1:=λM=>e (by
     have g:(i.map ey.r)[j]'(by simpa using C)=(i.map ey.r)[a]'(by simpa using o.1):=by
      rw[kT,kT,o.2,c,M]
     exact (List.getElem_inj E).1 g)
    rw[GC,GC];have:Ds ((dd (h.getD u ek)).take t++ [d]) z.r=Ds ((dd (h.getD u ek)).take t) z.r:=Dk F;rw[this]
end Go.Proofs.YteifpcnphnhaoaaGreat
namespace Go.Proofs.YteifpcnphnhaoaaGreat
open Go.RowKit Go.Shelf
variable{a:Nat->Prop}{w:World}{c:Value}{x:D}
set_option maxRecDepth 100000
def nD:D->D
 | .sl (some true) []=> .raw (.slice none 0 0)
 | x=>x
def yQ:D->D
 | .agg cs=> .agg (cs.map nD)
 | x=>nD x
theorem fV(x:D):(nD x).one=x.one:=by
 unfold nD
 split<;>rfl
theorem AZ.nrm1(h:AZ w a x c):AZ w a (nD x) c:=by
 unfold Go.Proofs.YteifpcnphnhaoaaGreat.nD
 split
 .cases h with
  | sl k i g f z u y A t=>
   rename_i b n s
   have r:=i true rfl
   have o:b=none:=by cases b with
    | none=>rfl
    | some _=>cases r
   subst o;have l:=g rfl;have j:n=0:=f.symm;subst l j;exact .raw rfl
 .exact h
theorem AZ.nrm(h:AZ w a x c):AZ w a (yQ x) c:=by
 unfold Go.Proofs.YteifpcnphnhaoaaGreat.yQ
 split
 .rename_i l
  cases h with
  | agg k o j=>
   refine .agg (by rw[k,χ]) (λb f=>?_) λi b c f g=>?_
   .grind[fV]
   .rw[ς] at f
    cases hd:l[i]? with
    | none=>rw[hd] at f;cases f
    | some d=>
     rw[hd] at f;injection f with f;subst f
     exact (j i d c hd g).nrm1
 .exact h.nrm1
section
variable{P:Program}{F:Fr}{Q:Exit->AS->Prop}{ops:Array Oper}{l:List Oper}{n:Nat}{env:List (Nat×AV)}{hp:Hp}
theorem fQ(t:Nat){x:D}(k:get env t=some (.d x))(h:An P F ops l Q ⟨n,(t,.d (yQ x))::env,hp⟩):An P F ops l Q ⟨n,env,hp⟩:=λi c w b=>h i c w ⟨b.size,b.defs,λj a f=>by
 rcases NP f with ⟨rfl,rfl⟩ | ⟨_,f⟩
 .have g:=b.env t _ k
  generalize c.tmps.getD t undef=v at g⊢
  cases g with
  | d h=>exact .d h.nrm
 .exact b.env j a f,b.heap⟩
end
variable{N:jh}{M:MF}{a:List cl}{c:List ey}{y:Po}{x:Nd}{i f:Nat}
def d5(M:MF)(h:Hd)(E:TypeId)(ys:List D):MF:=match h with
 | none=>M
 | some (b,c)=>Bh M b (.row E 1 c ys)
theorem bZ{f:Nat}:∀(H a:Hp),dr H f=some [.multi M]->Bt H f M=some a->a=H:=by
 intro H
 induction H with
 | nil=>intro a h;cases h
 | cons p r b=>
  grind[dr,Bt]
theorem dM{P:Program}{r:Ren}{j:Type}(L:SlLaysF.n6 P r){E:TypeId}{g g6:FuncId}{T:Func}(Q:P.funcs[g]? =some T)(N:(T.name== "runtime.NumGoroutine")=false){c:Code}(o:T.body=some c){bl:j->Nat}{px:j->List D}{tx:j->TypeId}(G:j->j->Int)(hO:Go.Sort.SWO (ltOf G))(i k:List j)(J:i.length<4611686018427387904)(hc:∀x∈i,∀y∈i,AI P g [.d (.ptr (.agg (px x))),.d (.ptr (.agg (px y)))] (.raw (.int .i64 (G x y))))(hu:∀H:List j,H.Perm i->H.Pairwise (λa b=>¬G b a<0)->H=k){F:Fr}{s:AS}{d:Nat}{x y:Operand}{ty:TypeId}{I:String}{V:Array Edge}{gd:Option (Nat×Bool)}{U:Array TypeId}{f n:Nat}{h:Hd}{fa:AV}{t:List D}{A:Hp}(X:r.f 6=g6)(Z:dr s.hp f=some [.multi M])(K:∀x∈i,M (bl x)=some (.cells (tx x) (px x)))(S:∀x∈i,∀c∈px x,c.one=true)(u:s.ev x=some (.d (ji h n)))(W:s.ev y=some fa)(R:∀w O ρ v,A8 w O ρ fa v->v= .func (.func g) #[] #[])(C:BX M h E 1 t)(z:t=i.map λx=>pD (bl x) 0)(hn:n=i.length)(l:h≠none->i≠ [])(B:Bt s.hp f (d5 M h E (k.map λx=>pD (bl x) 0))=some A)(Y:Nat.blt d s.n=true):
  AH P F ⟨some d,.call {callee:= .value (.func g6),args:= #[x,y],argTypes:=U},ty,I,V,gd⟩ s ⟨s.n,(d,.d (.tup []))::s.env,A⟩ (λ_ _=>true):=by
 match h,u,C,B,l with
 | none,u,C,B,_=>
  rw[bZ _ _ Z B];exact aM L X u W Y
 | some (b,cap),u,C,B,l=>exact dJ L Q N o G hO i k J hc hu X Z K S u W R C.2 z hn (l (by simp)) B Y
theorem xb(h k:Nat)(o l:Nat->Nat)(s:M h=some (ay none 0 none 0 k)):Ca h k o l ⟨[],[],none,none⟩ M:=by
 refine ⟨λi x f=>by simp at f,λj y a=>by simp at a,⟨λr=>?_,λr u b c w t v=>?_⟩,s,λi j g _=>by simp at g,λi j g _=>by simp at g,λx f=>(by cases f),λy a=>(by cases a)⟩
 .cases r<;>rfl
 .cases r<;>cases t
structure CT (p:hU):Prop where
 i:p.it.length<=30
 r:p.ro.length<=100
 x:∀x∈p.it,x.po.length<=12/\x.pa.length<=12/\x.af.length<=12
def YH(x:cl):Prop:=x.po.length<=12/\x.pa.length<=12/\x.af.length<=12
theorem CT.b{p:hU}(h:CT p):Ek p:=⟨by have:=h.r;omega,by have:=h.i;omega,λi a=>by have:=h.x i a;omega⟩
theorem St{g f:Type}{l:List (g×f)}(h:(l.map Prod.fst).Nodup):l.Nodup:=by
 have c:(l.map Prod.fst).Pairwise (λa b=>a≠b):=h;rw[ky] at c;exact c.imp λ{a b} h e=>h (by rw[e])
theorem O3{x:cl}(h:YH x):(dd x).length<=60:=by
 unfold dd
 split
 .have g:(iZ x).length<=(js x).length:=by
   have f:(NE (js x)).length<=(jb (js x)).length:=by
    have c:(NE (js x)).Perm ((jb (js x)).filter λd=>decide (d.2≠0)):=by
     refine (qx ?_ ?_).2 λd=>?_
     .have:=Lt (js x);refine this.imp λ{a b} h e=>?_;rw[e,NQ.refl] at h;omega
     all_goals (grind[St,Ft,HX])
    rw[c.length_eq]
    grind
   exact jp f (Ie _)
  have:=IF x;have:=h.1;have:=h.2.1;omega
 simp
theorem Lr(x:cl):QY (dd x):=by
 unfold dd
 split
 .rename_i b
  intro d a;exact sF b d ((HX _ _).1 a).1
 .intro d a;cases a
theorem Zf{D:List (AW×Int)}(h:QY D)(r:AW): -1000000000000000<=Ds D r/\Ds D r<=1000000000000000:=by
 unfold Ds
 induction D with
 | nil=>simp[Af]
 | cons d D a=>
  grind[Af,QY]
theorem YZ:∀{ds:List (List (AW×Int))} (_:∀D∈ds,QY D) (r:AW),-(ds.length*1000000000000000)<=(ds.map λD=>Ds D r).sum/\(ds.map λD=>Ds D r).sum<=ds.length*1000000000000000
 | [],_,r=>by simp
 | D::ds,h,r=>by
  have c:=Zf (h D (k7 ..)) r;have b:=YZ (ds:=ds) (λD a=>h D (kw _ a)) r;simp only[k6,lS,mH];omega
theorem LL(a:List (List (AW×Int)))(r:AW):(iX a r).length<=a.length:=by
 unfold iX
 grind
theorem ZZ(a:List AW)(D:List (AW×Int)):(mE a D).length<=D.length:=by
 unfold mE;rw[χ];exact lE _ _
theorem Yh(a:List AW)(b:List (List (AW×Int)))(D:List (AW×Int)):(lZ a b D).length<=D.length:=by
 unfold lZ;rw[χ];exact lE _ _
theorem iG(h:N.nd[i]? =some x):(BE N).nd[i]? =some (FO x):=by
 show (N.nd.map FO)[i]? =_
 grind
theorem iF(h:N.po[i]? =some y):(BE N).po[i]? =some (Cu y):=by
 show (N.po.map Cu)[i]? =_
 grind
theorem jU(M:a.length<=30)(r:∀x∈a,YH x){k t j:Nat}(i:k<a.length)(h:BE N=E4 c a k t)(E:N.nd[k]? =some x)(C:N.po[j]? =some y):
  (-1000000000000000000<=y.sum/\y.sum<=1000000000000000000)/\x.ef.length<=100000/\x.pl.length<=100000/\y.q.length<=100000:=by
 have o:=iG E;have l:=iF C;rw[h] at o l;have u:(LN (c.map ey.r) a k).length=k:=by unfold LN;simp
 have A:(dd (a.getD k ek)).length<=60:=O3 (r _ (by rw[Dy ek i];exact ϑ i));have g:(LN (c.map ey.r) a k++ [rq (c.map ey.r) ((a.map dd).take k) (a.getD k ek) ((dd (a.getD k ek)).take t)])[k]? =some (FO x):=o;rw[qw (by omega),u,Nat.sub_self] at g;have G:FO x=_:=(Option.some.inj g).symm;have K:x.ef=(FO x).ef:=rfl;have J:x.pl=(FO x).pl:=rfl;have b:(c.map (aj ((a.map dd).take k++ [(dd (a.getD k ek)).take t])))[j]? =some (Cu y):=l;rw[ς] at b
 cases hj:c[j]? with
 | none=>rw[hj] at b;cases b
 | some z=>
  rw[hj] at b;have F:Cu y=aj ((a.map dd).take k++ [(dd (a.getD k ek)).take t]) z:=(Option.some.inj b).symm;have I:y.sum=(Cu y).sum:=rfl;have H:y.q=(Cu y).q:=rfl;have w:((a.map dd).take k++ [(dd (a.getD k ek)).take t]).length<=31:=by simp;omega
  have B:=YZ (ds:=(a.map dd).take k++ [(dd (a.getD k ek)).take t]) (λD f=>by
   rcases υ.1 f with f | f
   .obtain ⟨x,_,rfl⟩:=Γ.1 (lI f);exact Lr x
   .rw[ξ.1 f];exact (Lr _).take t) z.r
  have L:=LL ((a.map dd).take k++ [(dd (a.getD k ek)).take t]) z.r;have v:=ZZ (c.map ey.r) ((dd (a.getD k ek)).take t);have s:=Yh (c.map ey.r) ((a.map dd).take k) ((dd (a.getD k ek)).take t);rw[η] at v s;rw[K,J,I,H,G,F];unfold aj rq;dsimp only
  generalize (List.map (λD=>Ds D z.r) (List.take k (List.map dd a)++ [List.take t (dd (a.getD k ek))])).sum=S at B⊢
  generalize (List.take k (List.map dd a)++ [List.take t (dd (a.getD k ek))]).length=m at*
  omega
theorem un(b:(c.map ey.r).Nodup){k t j:Nat}(v:k<a.length)(s:t<(dd (a.getD k ek)).length){f:jh}(h:BE N=E4 c a k t)(u:(c.map ey.r).idxOf ((dd (a.getD k ek))[t]).1=j)(l:((dd (a.getD k ek))[t]).1∈c.map ey.r){i:Nd}{g:Po}(A:N.nd[k]? =some x)(z:N.po[j]? =some y)(E:f.nd=N.nd.set k i)(C:FO i=FO (tm x j y.q.length ((dd (a.getD k ek))[t]).2))(D:f.po=N.po.set j g)(B:Cu g=Cu (tl y k ((dd (a.getD k ek))[t]).2)):BE f=E4 c a k (t+1):=by
 have r:=iG A;have o:=iF z
 have w:j<c.length:=by
  have:=mr l
  grind
 rw[h] at r o;rw[bE b (Nat.le_of_lt v) s w u l r o,<-h];unfold BE;dsimp only;rw[E,D,List.map_set,List.map_set,C,B]
 rfl
theorem FY.del{R:RI->jl}(h:FY M R){t:TypeId}{g:List D}(i:M f=some (.cells t g)):FY (FV M f) R:=by
 refine ⟨λr=>?_,h.2⟩;have a:=h.1 r
 cases hh:(R r).h with
 | none=>rw[hh] at a;exact a
 | some p=>
  obtain ⟨j,c⟩:=p;rw[hh] at a;refine ⟨a.1,?_⟩;rw[Hn]
  .exact a.2
  .rintro rfl;have:=a.2
   grind
theorem Ca.addN2{v I:Nat}{a w:Nat->Nat}(h:Ca v I a w N M){x:Nd}(C:x.ef=[])(Q:x.eh=none)(B:x.pl=[])(O:x.ph=none){bn:Nat}(hM:M bn=some (Wc x))(H:∀j,j<N.nd.length->a j≠bn){cap:Nat}(U:Bo (FV M v) N.nh f=none)(Y:N.nd.length+1<=cap){wb':Nat}(E:Bh (Bo (FV M v) N.nh) f (.row en 1 cap ((List.range N.nd.length).map (λj=>B4 (a j))++ [B4 bn])) wb'=none):
  Ca wb' I (O1 a N.nd.length bn) w {N with nd:=N.nd++ [x],nh:=some (f,cap)} (Bh (Bh (Bo (FV M v) N.nh) f (.row en 1 cap ((List.range N.nd.length).map (λj=>B4 (a j))++ [B4 bn]))) wb' (ay (some (f,cap)) (N.nd.length+1) N.mh N.po.length I)):=by
 have X:∀j,((N.po.getD j Cd).q.map λi=>B4 (O1 a N.nd.length bn i))=(N.po.getD j Cd).q.map λi=>B4 (a i):=λj=>kQ λe o=>by
  rcases kj (l:=N.po) (d:=Cd) j with g | g
  .rw[Da (h.q _ g e o)]
  .rw[g] at o;cases o
 have hR:∀r,r≠RI.n->Cs (O1 a N.nd.length bn) w {N with nd:=N.nd++ [x],nh:=some (f,cap)} r=Cs a w N r:=λr W=>by
  cases r with
  | q j=>show (⟨_,_,_,(N.po.getD j Cd).q.map _⟩:jl)=_;rw[X];rfl
  | m=>rfl
  | n=>exact absurd Z W
  | e i=>
   show (⟨((N.nd++ [x]).getD i CV).eh,_,_,((N.nd++ [x]).getD i CV).ef.map _⟩:jl)=⟨(N.nd.getD i CV).eh,_,_,(N.nd.getD i CV).ef.map _⟩
   rw[Mu]
   split
   .rename_i e
    rw[C,Q,Ψ,mL (by omega)];rfl
   .rfl
  | p i=>
   show (⟨((N.nd++ [x]).getD i CV).ph,_,_,((N.nd++ [x]).getD i CV).pl.map _⟩:jl)=⟨(N.nd.getD i CV).ph,_,_,(N.nd.getD i CV).pl.map _⟩
   rw[Mu]
   split
   .rename_i e
    rw[B,O,Ψ,mL (by omega)];rfl
   .rfl
 have T:=h.rs.del h.w
 have u:=T.upd (R':=Cs (O1 a N.nd.length bn) w {N with nd:=N.nd++ [x],nh:=some (f,cap)}) .n hR (b:=f) (cap:=cap) U Z (by
  show ((List.range (N.nd++ [x]).length).map _).length<=cap
  simp;exact Y)
 have F:(Cs (O1 a N.nd.length bn) w {N with nd:=N.nd++ [x],nh:=some (f,cap)} .n).xs=(List.range N.nd.length).map (λj=>B4 (a j))++ [B4 bn]:=by
  show (List.range (N.nd++ [x]).length).map _=_;rw[Δ,ζ,RY]
 rw[F] at u
 have G:∀(K:Nat) (t:TypeId) (J:List D),t≠180->M K=some (.cells t J)->Bh (Bh (Bo (FV M v) N.nh) f (.row en 1 cap ((List.range N.nd.length).map (λj=>B4 (a j))++ [B4 bn]))) wb' (ay (some (f,cap)) (N.nd.length+1) N.mh N.po.length I) K=some (.cells t J):=λK t J V g=>by
  refine HS E ?_
  have A:FV M v K=some (.cells t J):=by
   rw[Hn]
   .exact g
   .rintro rfl;rw[h.w] at g;injection g with g;injection g with g;exact V g.symm
  exact Go.Proofs.YteifpcnphnhaoaaGreat.l9 U A λc hc=>by have:=T.blk (r:= .n) hc;rw[A] at this;cases this
 refine ⟨λi z s=>?_,λj y L=>G _ _ _ (by decide) (h.p j y L),⟨λr=>NX E (u.1 r),u.2⟩,?_,λi k R G e=>?_,h.pi,λz s=>?_,λy L=>?_⟩
 .rcases mA s with ⟨A,S⟩ | ⟨A,S⟩
  .rw[Da A];exact G _ _ _ (by decide) (h.n i z S)
  .subst A S;rw[Gr];exact G _ _ _ (by decide) hM
 .rw[H3];show _=some (Au.cells _ [ji _ (N.nd++ [x]).length,_,_]);rw[Δ];rfl
 .have hi':i<N.nd.length+1:=by simpa using R
  have hk':k<N.nd.length+1:=by simpa using G
  by_cases e1:i=N.nd.length<;>by_cases e2:k=N.nd.length
  .omega
  .subst e1;rw[Gr,Da (by omega)] at e;exact absurd e.symm (H k (by omega))
  .subst e2;rw[Gr,Da (by omega)] at e;exact absurd e (H i (by omega))
  .rw[Da (by omega),Da (by omega)] at e;exact h.ni i k (by omega) (by omega) e
 .rcases υ.1 s with s | s
  .exact h.e z s
  .have e:=ξ.1 s;subst e;refine ⟨λe o=>?_,λe o=>?_⟩
   .rw[C] at o;cases o
   .rw[B] at o;cases o
 .intro i R;have:=h.q y L i R
  simp;omega
section
variable{P:Program}{F:Fr}{s:AS}{d:Nat}{ty T T' E:TypeId}{pos:String}{aft:Array Edge}{g:Option (Nat×Bool)}{x:Operand}
theorem UP{p:Option Addr}(b:P.underlying T=some (.pointer E))(c:s.ev x=some (.d (.raw (.pointer p))))(j:Nat.blt d s.n=true):AA P F ⟨some d,.binOp .neq T x (.const (.pointer none)) T',ty,pos,aft,g⟩ s d (.d (.raw (.bool (!p.isNone)))):=
 DG _ j λl a w h=>by
  have f:=h.raw c;have i:P.pointee T=E:=by unfold Program.pointee;rw[b]
  have k:a.eval (.const (.pointer none))= .pointer none:=rfl;exact ⟨.bool (!p.isNone),by simp[execOp,f,k,Vj,binOp,run_equal_pointer_nil w T p (by rw[i];exact b)],.d (.raw Z)⟩
end
section
variable{P:Program}{F:Fr}{s:AS}{d:Nat}{ty T:TypeId}{pos:String}{aft:Array Edge}{g:Option (Nat×Bool)}{x:Operand}
theorem aO(r k:Nat){f j b f2 l m:Nat}{t:TypeId}{u:List AV}(z:s.ev x=some (.ptr f j b))(B:cj s.hp f j=some (.blk t u))(E:u[b]? =some (.d (.raw (.map (some m)))))(C:cj s.hp r k=some (.addr f2 l (.map (some m))))(G:BW P T=true)(D:Nat.blt d s.n=true):
  AA P F ⟨some d,.load T x,ty,pos,aft,g⟩ s d (.map f2 l):=by
 have h:=AQ (F:=F) (ty:=ty) (pos:=pos) (aft:=aft) (g:=g) z B E G D;refine ⟨h.1,h.2.1,λy i w o=>?_⟩;refine qk (λa J ⟨v,I,c,H⟩=>⟨v,I,?_,H⟩) (h.2.2 y i w o)
 cases c with
 | d c=>cases c with
  | raw _=>
   obtain ⟨_,A⟩:=o.heap.sim r k _ C;exact .map A
end
variable{a:List cl}{c:List ey}{k:Nat}{N:jh}{f:hU}{g:Nat->Nat}{h:List Nat}{i:List AW}{j:List ey}{o:Hd}{X:cl}{t:Nat}{M:MF}{s:Nat}{y:Po}{u w:Nat}
def j8(p:hU):List ey:=(IP (p.ro.map ey.r)).map λi=>p.ro.getD i IY
def Pm(y:Po):Po:={y with mi:=y.q.length}
def fe(p:hU):jh:=⟨(F5 (j8 p) (hJ p) (hJ p).length).nd,(F5 (j8 p) (hJ p) (hJ p).length).po.map Pm,none,none⟩
theorem fY{a:Type}{f:ey->a}(h:(j.map f).Nodup)(k:Nat):((j.take k).map f).Nodup:=by grind
theorem fZ{f:ey->AW}(h:(j.map f).Nodup)(c:k<j.length):f j[k]∉(j.take k).map f:=λb=>by
 have a:=fY h (k+1);rw[EB c,m5] at a;exact a.2.2 _ b _ (List.mem_singleton_self _) rfl
abbrev xt:D:= .raw (.pointer none)
theorem D6(c:Ac f=0):(f.ro.map ey.r).Nodup:=by
 have g:=Tu.1 (IL c).1;rw[List.Nodup,ky,l4];intro i j h a b e;have:=g j (Ω.2 a)
 grind[Il,Gi]
theorem vu(l:i.Nodup)(k:h.Perm (List.range i.length)){f:Nat->Nat}{r:AW}{z:Value}(o:r∈h.map λa=>i.getD a F2):Af (Wp F2 f i) r z=pV (f (h.getD ((h.map λa=>i.getD a F2).idxOf r) 0)) 0:=by
 have b:=mr o;have c:=nI b
 generalize (h.map λa=>i.getD a F2).idxOf r=j at b c⊢
 rw[χ] at b;rw[kT] at c;have g:h[j]<i.length:=Ω.1 (k.mem_iff.1 (ϑ b));rw[Dy F2 g] at c;rw[Dy 0 b];exact YT l g c
theorem tB(g:h.Perm (List.range i.length)){f:Nat->Nat}{r:AW}{z:Value}(j:r∉h.map λa=>i.getD a F2):Af (Wp F2 f i) r z=z:=by
 refine sf λb=>j ?_;obtain ⟨a,c,e⟩:=kh b;exact Γ.2 ⟨a,g.mem_iff.2 (Ω.2 c),by rw[Dy F2 c,e]⟩
theorem XI(p:hU):(j8 p).map ey.r=(IP (p.ro.map ey.r)).map λi=>(p.ro.map ey.r).getD i F2:=by grind[j8,kQ,IY,F2]
theorem bq(p:hU)(b:CT p)(c:Ac p≠0):AO prog 96 [.d (BG p)] [] λr f=>r= .d (.tup [xt,AE (Ac p)])/\f=[]:=by
 have a:=EL p b.b;refine As func96 Z Z ntmps96 Z Z Z λF g=>(AD (AF (V (B7 1 Z Z Z Z Z Z Z) (AB Z Z (AB Z Z (AC (AD (AD ?_))))))));refine AF (J (Ap Z Z Bp Z Z Z) (J (Aj (a) Z Z) (AB Z Z (AC (AD (AF (ch Z Z (J (DJ Z Z Z) ?_))))))));refine AC (CM Z ((by simpa using c)) (AD (AF (ch Z Z (AB Z Z (AB Z Z (AC (A4 ?_))))))));exact ⟨_,[],[],A2 Z,Z,Z,Z,Z⟩
theorem oR(y:Po):∀c∈oT y,c.one=true:=by
 intro c a;simp only[jt,List.not_mem_nil,or_false] at a;rcases a with rfl | rfl | rfl | rfl | rfl | rfl | rfl | rfl | rfl | rfl<;>rfl
theorem dZ(p:hU):∀i∈List.range p.ro.length,∀j∈List.range p.ro.length,AI prog 142 [.d (.ptr (.agg (oT (KW (p.ro.getD i IY))))),.d (.ptr (.agg (oT (KW (p.ro.getD j IY)))))] (.raw (.int .i64 (O5 (p.ro.map ey.r) i j))):=by grind[qD,KW,O5]
theorem nt(c:Ca u w (λ_=>0) g ⟨[],f.ro.map KW,none,o⟩ M):∀i∈List.range f.ro.length,M (g i)=some (.cells 190 (oT (KW (f.ro.getD i IY)))):=λi b=>by
 have a:=Ω.1 b;refine c.p i (KW (f.ro.getD i IY)) ?_;show (f.ro.map KW)[i]? =_;rw[ς,ω a,Dy IY a];rfl
theorem dY(a:Ca u w (λ_=>0) g ⟨[],f.ro.map KW,none,o⟩ M):
  Ca u w (λ_=>0) (λk=>g ((IP (f.ro.map ey.r)).getD k 0)) ⟨[],(j8 f).map KW,none,o⟩ (d5 M o Ye ((IP (f.ro.map ey.r)).map λx=>pD (g x) 0)):=by
 have v:(IP (f.ro.map ey.r)).Perm (List.range (f.ro.map KW).length):=by
  grind[jS]
 have s:(IP (f.ro.map ey.r)).map (λi=>(f.ro.map KW).getD i Cd)=(j8 f).map KW:=by
  grind[j8,kQ]
 cases hmh:o with
 | some q=>
  obtain ⟨b,c⟩:=q;subst hmh;have h:=a.perm Z (λy l=>by obtain ⟨x,_,rfl⟩:=Γ.1 l;exact ⟨Z,Z⟩) v rfl;dsimp only at h;rw[s] at h;exact h
 | none=>
  subst hmh;have C:BX M none Ye 1 ((List.range (f.ro.map KW).length).map λj=>B4 (g j)):=a.rs.1 .m;have t:=W4 C rfl;rw[kp,χ] at t;have B:f.ro=[]:=mU t
  have A:(j8 f).map KW=f.ro.map KW:=by
   simp_all
  rw[A];rw[B] at a⊢;exact ⟨a.n,λj y l=>by simp at l,⟨λr=>by cases r<;>rfl,λr E b c G D F=>by cases r<;>cases D⟩,a.w,a.ni,λi j z _ _=>by simp at z,a.e,a.q⟩
theorem bA(a:List ey)(b:List cl):BE ⟨[],a.map KW,none,o⟩=F5 a b 0:=by
 unfold BE F5 LN;dsimp only;rw[jw]
 rfl
theorem F4(a:Ac f=0):((hJ f).map cl.id).Nodup:=by
 have b:hJ f=ea f.it:=ϱ a;rw[b];exact ((Js f.it).map cl.id).nodup_iff.2 (YE (IL a).2.1)
theorem PB(a:Ac f=0):((j8 f).map ey.r).Nodup:=by grind[j8,jS,χ,lg,Dy,D6]
theorem Rf{l:List cl}(h:(l.map cl.id).Nodup)(c:k<l.length):l[k].id∉(l.take k).map cl.id:=λb=>by
 have a:((l.take (k+1)).map cl.id).Nodup:=h.sublist ((List.take_sublist (k+1) l).map cl.id);rw[EB c,m5] at a;exact a.2.2 _ b _ (List.mem_singleton_self _) rfl
theorem tS(h:BE N=F5 c a k):N.nd.length=k:=by grind[LN,χ,BE,F5]
theorem tA(h:BE N=F5 c a k):N.po.length=c.length:=by grind[χ,BE,F5]
theorem qn{x:cl}{nh:Hd}(b:a.getD k ek=x)(h:BE N=F5 c a k):BE {N with nd:=N.nd++ [⟨x,none,[],none,[],true⟩],nh:=nh}=E4 c a k 0:=by
 subst b;rw[bB,<-h];unfold BE;dsimp only;rw[jy];rfl
theorem qp(g:a.getD k ek=X)(b:t<(dd X).length)(f:((dd X)[t]).1∉c.map ey.r):E4 c a k (t+1)=E4 c a k t:=by
 subst g;exact bC b f
theorem qo{b:List ey}(v:a.getD k ek=X)(i:(b.map ey.r).Nodup)(u:k<a.length)(l:t<(dd X).length){c:jh}(h:BE N=E4 b a k t)(o:(b.map ey.r).idxOf ((dd X)[t]).1=s)(r:((dd X)[t]).1∈b.map ey.r){x g:Nd}{f:Po}(z:N.nd[k]? =some x)(w:N.po[s]? =some y)(D:c.nd=N.nd.set k g)(B:FO g=FO (tm x s y.q.length ((dd X)[t]).2))(C:c.po=N.po.set s f)(A:Cu f=Cu (tl y k ((dd X)[t]).2)):BE c=E4 b a k (t+1):=by grind[un]
theorem yL(h:BE N=E4 c a k t):N.nd.length=k+1:=by grind[LN,Δ,BE,E4]
theorem yK(h:BE N=E4 c a k t):N.po.length=c.length:=by
 have b:=jq (λN=>N.po.length) h;have f:(N.po.map Cu).length=(c.map _).length:=b
 grind
theorem qq(f:a.getD k ek=X)(b:k<a.length):E4 c a k (dd X).length=F5 c a (k+1):=by
 subst f;exact bD b
theorem uC(h:BE N=F5 c a a.length):Bf N=a.map cl.id:=by
 have j:N.nd.map FO=LN (c.map ey.r) a a.length:=jq (λN=>N.nd) h;have g:Bf N=(N.nd.map FO).map λx=>x.it.id:=by unfold Bf;rw[jw];rfl
 rw[g,j];unfold LN;rw[jw]
 apply lg (by simp)
 intro i f b;simp only[kT,List.getElem_range,Function.comp];show (a.getD i ek).id=_
 grind
theorem gw{b a:List Po}(f:s<b.length)(h:a=(b.take s).map Pm++b.drop s)(c:a[s]? =some y):a.set s (Pm y)=(b.take (s+1)).map Pm++b.drop (s+1):=by grind[χ,mM]
theorem oh(g:hJ f=a)(b:j8 f=c):fe f=⟨(F5 c a a.length).nd,(F5 c a a.length).po.map Pm,none,none⟩:=by
 unfold fe;rw[g,b]
theorem f9{b:jh}(f:BE N=F5 c a a.length)(h:b.nd=N.nd)(g:b.po=N.po.map Pm):BE b=⟨(F5 c a a.length).nd,(F5 c a a.length).po.map Pm,none,none⟩:=by
 rw[<-f];unfold BE;dsimp only;rw[h,g,jw,jw]
 rfl
theorem WQ(p:hU)(hf:CT p)(hE:Ac p=0):AO prog 96 [.d (BG p)] [] λr H'=>∃B u l o N M bs,r= .d (.tup [pD B 0,AE 0])/\H'=HW u bs (Gb l (Bf N)) M/\Ca B u l o N M/\BE N=fe p:=by
 have hck:=EL p hf.b;rw[hE] at hck;have hrn:=D6 hE;have hrl:=hf.r;refine As func96 Z Z ntmps96 Z Z Z λF H=>(AD (AF ?_));refine V (B7 1 Z Z Z Z Z Z Z) (AB Z Z (AB Z Z (AC (AD (AD (AF (J (Ap Z Z Bp Z Z Z) (J (Aj (hck) Z Z) ?_))))))));refine AB Z Z (AC (AD (AF (ch Z Z (J (DJ Z Z Z) (AC (Cq Z (Z) (AU ?_))))))));refine AD (AF (V (S2 50 Z Z Z Z) (fR 51 50 0 Z Z Z Z Z λu=>(oc 26 51 0 (.inl Z) Z (J (Dz vP wE Z Z Z) (fQ 27 Z (V (B7 2 Z Z Z Z Z Z Z) (AB Z Z ?_))))))));refine AC (AD (IK 40 Z Z Z (EZ 5 2 40 (ds:=[ji none 0,ji none 0,M9 (.map (some u))]) H Z Z Z Z Z Z Z Z Z Z Z (λ_=>rfl) λB hwb=>(AF (V (S2 3 Z Z Z Z) (AB Z Z (AC (AD ?_))))))));refine AD (AF (J (AM Z Gp Z Z Z) (J (AQ Z Z Z Uo Z) (J (BU Z b0 Z) (ch Z Z (AC (AX (BC (α:=Nat×(Nat->Nat)×Hd×MF) (λq=>⟨142,[(1,(.ptr 1 0 0)),(5,(.d (pD B 0))),(6,(.map 3 0)),(31,(.d (.sl none (p.ro.map BY)))),(32,(.d (AE (p.ro.length:Int)))),(33,(.d (AE (q.1:Int))))],[(1,[.blk 39 [.d (.sl none (p.ro.map BY)),.d (.sl none (p.it.map Ah))]]),(3,[B5 Bm M9 (Wp F2 q.2.1 ((p.ro.take q.1).map ey.r))]),(40,[.multi q.2.2.2]),(50,[B5 AE M9 (Gb (λ_=>0) [])]),(51,[.addr 50 0 (.map (some u))])]⟩) (λq=>q.1<=p.ro.length/\Ca B u (λ_=>0) q.2.1 ⟨[],(p.ro.take q.1).map KW,none,q.2.2.1⟩ q.2.2.2/\(q.2.2.1≠none->0<q.1)) (λq=>p.ro.length-q.1) ((0,(λ_=>0),none,Bh (λ_=>none) B (ay none 0 none 0 u))) (⟨κ _,xb _ _ _ _ (show Bh (λ_=>none) B (ay none 0 none 0 u) B=_ from H3 _ _ _),λh=>absurd Z h⟩) (AR H [1,3,40,50,51] Z Z ⟨Z,Z,Z,Z,Z,Z,trivial⟩) ?_))))))));rintro ⟨k,o,mh,M⟩ ⟨hk0,G,hmh⟩;dsimp only at hk0 G hmh⊢;refine AD (AF (J (At Z Z Z) (AC (AD (A5 Z (λh34=>?_) (λh34=>?_))))))
 .have g:k<p.ro.length:=BF h34;refine AU (AD (AX (AD ?_)));have hpl:((p.ro.take k).map KW).length=k:=by rw[χ,η];omega
  have hpr:((p.ro.take k).map ey.r).length=k:=by rw[χ,η];omega
  refine AF (J (Al (k) Z Z (Z) (AP g) b0 Z Q0 Z) (J (CY Z Z dj Z) ?_));refine V (CP 4 Tx Z Z Z Z) (V (Bi Z Z Z Z Z Z Z Q0) (AC (AD (AF (ch Z Z (J (AM Z GM Z Z Z) (J (Ap Z Z Cw Z Z Z) (J (AM Z GM Z Z Z) ?_))))))));refine J (Ap Z Z Cw Z Z Z) (J (AM Z TN Z Z Z) (J (AQ Z Z Z FJ Z) (J (Dz vM wB Z Z Z) (fQ 44 Z (V (B7 5 Z Z Z Z Z Z Z) (fT 45 5 40 (ds:=oT (KW p.ro[k])) H Z Z Z Z Z Z Z Z Z Z Z (λ_=>rfl) λbn U=>(V (Wf (Wp F2 o ((p.ro.take k).map ey.r)) (p.ro[k].r) (pV bn 0) Z Z Z ZB Ck Z Z) (AC ?_))))))));have hrnk:p.ro[k].r∉(p.ro.take k).map ey.r:=fZ hrn g;rw[YS hrnk,hpr,<-EB g];have cj:Af (Wp F2 (O1 o k bn) ((p.ro.take (k+1)).map ey.r)) p.ro[k].r (.pointer none)=pV bn 0:=by rw[YT (i:=k) (fY hrn (k+1)) (by rw[χ,η];omega) (by rw[kT,List.getElem_take]),Gr]
  have A:=G.fresh (m:=Wa (KW p.ro[k])) U;have hpb:((List.range k).map o).length=k:=by simp
  have I:Bh M bn (Wa (KW p.ro[k])) B=some (ay none 0 mh ((List.range k).map o).length u):=by rw[hpb];have h:_=some (ay none 0 mh ((p.ro.take k).map KW).length u):=A.w;rw[hpl] at h;exact h
  have hmr:BX (Bh M bn (Wa (KW p.ro[k]))) mh Ye 1 (((List.range k).map o).map B4):=by have h:BX _ mh Ye 1 ((List.range ((p.ro.take k).map KW).length).map λj=>B4 (o j)):=A.rs.1 .m;rw[hpl] at h;rw[jw];exact h
  refine Bq [[],[],[1],[1,2],[1,2,3],[],[],[6],[5,6,7],[5,6,7,8],[1,2,3,4,5,6,7,8,9],rg 11,rg 12,rg 13] mixed Z (B2 (A7 5 Z Z (A7 5 Z Z (AK [47] Z (Dx Z Z) (AK [48] Z (Cr Z Ld Z Z Z) (A1 [49] [40] Z Z (λ_=>Aa (FE (f:=40) Z Z (I) Z Yp Z)) (A7 6 Z Z (AK [8] Z (AM Z GM Z Z Z) ?_))))))));refine A1 [52] [4] Z Z (λ_=>Aa (Ap Z Z Cw Z Z Z)) (A1 [51,53] [3] Z Z (λ_=>Aa (I8 (Wp F2 (O1 o k bn) ((p.ro.take (k+1)).map ey.r)) p.ro[k].r (.pointer none) (pV bn 0) Z Z Z ZB Ck c8 cj Z)) (Cv [54] [6] [(55,_)] Z Z (λ_=>Cg (CF 6 rV Z Z Z Z Z Z Z Z)) (.inr ⟨55,_,Z,Z,Z,Z,Z⟩) Z Z Z Z Z (Cv [50,55] [61,40,6] [(56,_)] Z Z (λ_=>Cg (Hc 50 61 40 hmr Z Z (by simp) Z Z Z Z Z (DN (emb:=B4) ((List.range k).map o) [bn] Z Z Z Z Z Z Z Z rV (by simp;omega) Z Z Z Z))) (.inr ⟨56,_,Z,Z,Z,Z,Z⟩) Z Z Z Z Z (BV 11 Z Z Z (A0 12 Z Z (Fh 56 61 40 H Z Z Z (by simp) (by simp) Z Z Z Z Z Z Z (λ_ _=>rfl) λb1 c1 hb1 hc1=>(J (Dx Z Z) (AC ⟨Z,?_⟩))))))));refine A0 13 Z Z (J (Cr Z Ld Z Z Z) (AC ⟨Z,?_⟩));refine A0 14 Z Z (V (Qk (f:=40) Z Z Z Z (A.keepM hb1 I) ((by show _<3;omega)) Z vd) (AC ⟨Z,?_⟩));refine Bb ?_;have e1:((List.range ((p.ro.take k).map KW).length).map (λj=>B4 (o j))++ [B4 bn])=((List.range k).map o++ [bn]).map B4:=by rw[hpl,jy,jw];rfl
  have e2:((List.range k).map o++ [bn]).length=((p.ro.take k).map KW).length+1:=by simp;omega
  have O:=A.addM (y:=KW p.ro[k]) (bn:=bn) Z Z (H3 _ _ _) (λj hj e=>by have h1:=G.p j _ (ω hj);rw[e,U] at h1;cases h1) hb1 (cap:=c1) (by have h:=hc1;simp at h⊢;omega);dsimp only at O;rw[e1,<-e2,<-EB g,hpl] at O;refine AF (J (Ad Z Z (Ξ _ (by omega)) Z) (ch Z Z (AC ?_)));exact ⟨(k+1,O1 o k bn,some (b1,c1),_),⟨by show k+1<=_;omega,O,λ_=>Nat.succ_pos _⟩,by show p.ro.length-(k+1)<p.ro.length-k;omega,AR H [1,3,40,50,51] Z (Z) ⟨Z,Z,Z,Z,Z,Z,trivial⟩⟩
 .refine Aq (AD ?_);have hkk:k=p.ro.length:=by have h:=h34;omega
  subst hkk;rw[kV] at G⊢;have Q:M B=some (ay none 0 mh p.ro.length u):=by have h:_=some (ay none 0 mh (p.ro.map KW).length u):=G.w;rw[χ] at h;exact h
  have hR3:=dY G;have hmr:BX M mh Ye 1 ((List.range p.ro.length).map λj=>B4 (o j)):=by have h:BX _ mh Ye 1 ((List.range (p.ro.map KW).length).map λj=>B4 (o j)):=G.rs.1 .m;rw[χ] at h;exact h
  refine AF (ch Z Z (J (Dx Z Z) (J (Cr Z Ld Z Z Z) (J (FE (f:=40) Z Z (Q) Z Yp Z) (V (dM tY func142 Z Z (f:=40) (bl:=o) (px:=λj=>oT (KW (p.ro.getD j IY))) (tx:=λ_=>190) (O5 (p.ro.map ey.r)) (SY _).swo (List.range p.ro.length) (IP (p.ro.map ey.r)) (by simp;omega) (dZ p) (λys h1 h2=>aS hrn (by rw[χ];exact h1) h2) Z Z (nt G) (λ_ _=>oR _) Z Z NB hmr Z (by simp) (λh=>by have h1:=hmh h;intro h2;have h3:=jq List.length h2;rw[kp,lT] at h3;omega) Z Z) (AC (AD (AD ?_))))))))
  obtain ⟨a,v⟩:∃a,hJ p=a:=⟨_,Z⟩
  have hoi:=Io p hf.b;rw[v] at hoi
  obtain ⟨c,s⟩:∃c,j8 p=c:=⟨_,Z⟩
  have hitl:a.length<=30:=by rw[<-v];exact jp (DW p) hf.i
  have hrol:c.length<=100:=by rw[<-s];unfold j8;rw[χ,(jS _).length_eq,kp,χ];exact hrl
  have hitx:∀x∈a,YH x:=λx hx=>hf.x x (Ip (p:=p) (by rw[v];exact hx));have hin:(a.map cl.id).Nodup:=by rw[<-v];exact F4 hE
  have hroN:(c.map ey.r).Nodup:=by rw[<-s];exact PB hE
  have hpin:=λ(r:AW) (h:r∈c.map ey.r)=>vu (z:= .pointer none) hrn (jS (p.ro.map ey.r)) (f:=o) (r:=r) (by rw[<-XI,s];exact h);have R:=λ(r:AW) (h:r∉c.map ey.r)=>tB (z:= .pointer none) (jS (p.ro.map ey.r)) (f:=o) (r:=r) (by rw[<-XI,s];exact h);rw[<-XI,s] at hpin;rw[s] at hR3
  generalize d5 M mh Ye ((IP (p.ro.map ey.r)).map λx=>pD (o x) 0)=M2 at hR3⊢
  obtain ⟨w,hpb2⟩:∃f:Nat->Nat,(λk=>o ((IP (p.ro.map ey.r)).getD k 0))=f:=⟨_,Z⟩
  rw[hpb2] at hR3;have S:∀r,r∈c.map ey.r->Af (Wp F2 o (p.ro.map ey.r)) r (.pointer none)=pV (w ((c.map ey.r).idxOf r)) 0:=λr h=>by rw[hpin r h,<-hpb2]
  obtain ⟨pm,hpm⟩:∃m,Wp F2 o (p.ro.map ey.r)=m:=⟨_,Z⟩
  rw[hpm] at S R⊢;refine AF (J (Ap Z Z Bp Z Z Z) (J (Aj (hoi) Z Z) (J (BU Z E0 Z) (ch Z Z (AC (AX (BC (α:=Nat×Nat×(Nat->Nat)×jh×MF) (λq=>⟨142,[(1,(.ptr 1 0 0)),(5,(.d (pD q.2.1 0))),(6,(.map 3 0)),(66,(.d (.sl none ((a.map cl.id).map AE)))),(67,(.d (AE ((a.map cl.id).length:Int)))),(68,(.d (AE (q.1:Int))))],[(1,[.blk 39 [.d (.sl none (p.ro.map BY)),.d (.sl none (p.it.map Ah))]]),(3,[B5 Bm M9 pm]),(40,[.multi q.2.2.2.2]),(50,[B5 AE M9 (Gb q.2.2.1 ((a.take q.1).map cl.id))]),(51,[.addr 50 0 (.map (some u))])]⟩) (λq=>q.1<=a.length/\Ca q.2.1 u q.2.2.1 w q.2.2.2.1 q.2.2.2.2/\BE q.2.2.2.1=F5 c a q.1) (λq=>a.length-q.1) ((0,B,(λ_=>0),⟨[],c.map KW,none,mh⟩,M2)) (⟨κ _,hR3,bA c a⟩) (AR H [1,3,40,50,51] Z Z ⟨Z,Z,Z,Z,Z,Z,trivial⟩) ?_)))))));rintro ⟨k,B,l,N,M⟩ ⟨hk0,G,hT⟩;dsimp only at hk0 G hT⊢;refine AD (AF (J (At Z Z Z) (AC (AD (A5 Z (λh69=>?_) (λh69=>?_))))))
  .have g:k<a.length:=by have h:=h69;rw[χ] at h;exact BF h
   refine AU (AD (AX (AD ?_)))
   obtain ⟨X,hX⟩:∃X,a.getD k ek=X:=⟨_,Z⟩
   have L:a[k]=X:=by rw[<-hX,Dy ek g]
   have hidk:X.id∉(a.take k).map cl.id:=by rw[<-L];exact Rf hin g
   have hitk:Pb a X.id=(X,true):=by have h:=VV g (Rf hin g) rfl;rw[L] at h;exact h
   have hip:=tq p X.id hf.b;rw[v,hitk] at hip;have hk70:((a.map cl.id).map AE)[k]? =some (AE X.id):=by rw[ς,ς,ω g,L];rfl
   refine AF (J (Al (k) Z Z (Z) (hk70) E0 Z BK Z) (J (BZ Z Z Ai Z) (AB Z Z (AC (AD (AF (J (Ap Z Z Bp Z Z Z) (ch Z Z ?_))))))));refine J (Aj (hip) Z Z) (ch Z Z (J (Cc Z Z Z) (J (Cc Z Z Z) (V (CP 7 Fm Z Z Z Z) (V (Bi Z Z Z Z Z Z Z DP) (AB Z Z (AC (AD ?_))))))));refine AF (J (Ap Z Z Cb Z Z Z) (J (Dz vO wD Z Z Z) (fQ 79 Z (V (B7 8 Z Z Z Z Z Z Z) (AB Z Z (AC (AD (EZ 13 8 40 (ds:=yS ⟨X,none,[],none,[],true⟩) H Z Z Z Z Z Z Z Z Z Z Z (λ_=>rfl) λbn U=>?_))))))));have hNk:N.nd.length=k:=tS hT;have A:=G.fresh (m:=Wc ⟨X,none,[],none,[],true⟩) U;have hnb:((List.range k).map l).length=k:=by simp
   have I:Bh M bn (Wc ⟨X,none,[],none,[],true⟩) B=some (ay N.nh ((List.range k).map l).length N.mh N.po.length u):=by rw[hnb];have h:_=some (ay N.nh N.nd.length N.mh N.po.length u):=A.w;rw[hNk] at h;exact h
   have hnr:BX (FV (Bh M bn (Wc ⟨X,none,[],none,[],true⟩)) B) N.nh en 1 (((List.range k).map l).map B4):=by have h:BX _ N.nh en 1 ((List.range N.nd.length).map λj=>B4 (l j)):=(A.rs.del A.w).1 .n;rw[hNk] at h;rw[jw];exact h
   refine q8 5 20 40 Z Z Z I Z Z Z Z (Bq [[],[],[1],[1,2],[1,2,3],[],[],[6],[6,7],[6,7,8],[],[10],[6,7,8,9,10,11],[],[0,1,2,3,4,6,7,8,9,10,11,12],[0,1,2,3,4,6,7,8,9,10,11,12,14],[0,1,2,3,4,6,7,8,9,10,11,12,14,15],[0,1,2,3,4,5,6,7,8,9,10,11,12,14,15,16],[0,1,2,3,4,5,6,7,8,9,10,11,12,14,15,16,17],rg 19] mixed Z (B2 (A7 5 Z Z (A7 5 Z Z (AK [82] Z (MC Z Z) (AK [83] Z (AM Z OZ Z Z Z) (A1 [84] [20,51] Z Z (λ_=>Aa (aO 51 0 Z Z Z Z Yo Z)) ?_)))))));refine A7 10 Z Z (A7 5 Z Z (AK [87] Z (MC Z Z) (AK [88] Z (AM Z Jl Z Z Z) (A1 [89] [20] Z Z (λ_=>Aa (AQ Z Z Z HQ Z)) (A7 13 Z Z (Cv [91] [9] [(92,_)] Z Z (λ_=>Cg (CF 9 Y8 Z Z Z Z Z Z Z Z)) (.inr ⟨92,_,Z,Z,Z,Z,Z⟩) Z Z Z Z Z (Cv [90,92] [60,40,9] [(93,_)] Z Z (λ_=>Cg (Hc 90 60 40 hnr Z Z (by simp) Z Z Z Z Z (DN (emb:=B4) ((List.range k).map l) [bn] Z Z Z Z Z Z Z Z Y8 (by simp;omega) Z Z Z Z))) (.inr ⟨93,_,Z,Z,Z,Z,Z⟩) Z Z Z Z Z (A7 13 Z Z ?_))))))));refine AK [81] Z (MC Z Z) (AK [95] Z (AM Z Jl Z Z Z) (Cv [96,93] [20,60] [] Z Z (λ_=>Cg (Bi Z Z Z Z Z Z Z rL)) (.inl ⟨Z,Z⟩) Z Z Z Z Z (Cv [85,86] [50] [(97,_)] Z Z (λ_=>Cg (H8 (Gb l ((a.take k).map cl.id)) (X.id) ((.pointer none)) Z Z Z ZC I6 YK Z Z)) (.inr ⟨97,_,Z,Z,Z,Z,Z⟩) Z Z Z Z Z (AK [97] Z (D3 Z Z Z) (BV 19 Z Z Z (A0 20 Z Z (V (Ha (Gb l ((a.take k).map cl.id)) (X.id) ((.pointer none)) (pV bn 0) Z Z Z I6 Z Z) (AC ⟨Z,?_⟩))))))));refine Bb (AD (Xy 93 60 40 20 0 H Z Z Z (by simp) (by simp) Z Z (λ_ _=>rfl) (λ_ _=>rfl) Z (λ_ _=>rfl) (λ_ _=>rfl) Z Z (λ_ _=>rfl) (λ_ _=>rfl) (λ_ _=>rfl) (λ_ _=>rfl) λb1 c1 hb1 hc1=>(EZ 5 20 40 (ds:=[ji (some (b1,c1)) ((List.range k).map l++ [bn]).length,ji N.mh N.po.length,M9 (.map (some u))]) H Z Z Z Z Z Z Z Z Z Z Z (λ_=>rfl) λwb2 Q=>?_)));have hby:B1 (Gb l ((a.take k).map cl.id)) X.id (pV bn 0)=Gb (O1 l k bn) ((a.take (k+1)).map cl.id):=by have h:=YS (d:=(0:Int)) (f:=l) (b:=bn) hidk;rw[show ((a.take k).map cl.id).length=k by rw[χ,η];omega,<-L,<-EB g] at h;rw[<-L];exact h
   rw[hby];have e1:((List.range N.nd.length).map (λj=>B4 (l j))++ [B4 bn])=((List.range k).map l++ [bn]).map B4:=by rw[hNk,jy,jw];rfl
   have e2:((List.range k).map l++ [bn]).length=N.nd.length+1:=by simp;omega
   have O:=A.addN2 (x:=⟨X,none,[],none,[],true⟩) (bn:=bn) Z Z Z Z (H3 _ _ _) (λj hj e=>by have h1:=G.n j _ (ω hj);rw[e,U] at h1;cases h1) hb1 (cap:=c1) (by have h:=hc1;simp at h;omega) (wb':=wb2) (by rw[e1];exact Q);rw[e1,<-e2,hNk] at O;have hT0:=qn (x:=X) (nh:=some (b1,c1)) hX hT;have hfk:YH X:=hitx X (by rw[<-L];exact ϑ g);have hdl:=O3 hfk;refine AF (J (Ap Z Z Cb Z Z Z) (J (Aj (Vt X (by have h:=hfk.1;omega) (by have h:=hfk.2.1;omega) (by have h:=hfk.2.2;omega)) Z Z) (ch Z Z (J (Cc Z Z Z) (J (Cc Z Z Z) (AB Z Z (AB Z Z ?_)))))));refine AC (AD (AF (ch Z Z (J (BU Z underlying215 Z) (ch Z Z (AC (AX (BC (α:=Nat×jh×MF) (λr=>⟨142,[(1,(.ptr 1 0 0)),(5,(.d (pD wb2 0))),(6,(.map 3 0)),(66,(.d (.sl none ((a.map cl.id).map AE)))),(67,(.d (AE ((a.map cl.id).length:Int)))),(68,(.d (AE (k:Int)))),(13,(.d (pD bn 0))),(104,(.d (.sl none ((dd X).map Qe)))),(105,(.d (AE ((dd X).length:Int)))),(106,(.d (AE (r.1:Int))))],[(1,[.blk 39 [.d (.sl none (p.ro.map BY)),.d (.sl none (p.it.map Ah))]]),(3,[B5 Bm M9 pm]),(40,[.multi r.2.2]),(50,[B5 AE M9 (Gb (O1 l k bn) ((a.take (k+1)).map cl.id))]),(51,[.addr 50 0 (.map (some u))])]⟩) (λr=>r.1<=(dd X).length/\Ca wb2 u (O1 l k bn) w r.2.1 r.2.2/\BE r.2.1=E4 c a k r.1) (λr=>(dd X).length-r.1) ((0,_,_)) (⟨κ _,O,hT0⟩) (AR H [1,3,40,50,51] Z Z ⟨Z,Z,Z,Z,Z,Z,Z,Z,Z,Z,trivial⟩) ?_))))))));rintro ⟨t,N3,M3⟩ ⟨ht0,hR4,D⟩;dsimp only at ht0 hR4 D⊢;refine AD (AF (J (At Z Z Z) (AC (AD (A5 Z (λY=>?_) (λY=>?_))))))
   .have ht1:t<(dd X).length:=BF Y;refine AU (AD (AX (AD (AF (J (Al (t) Z Z (Z) (AP ht1) underlying215 Z YV Z) ?_)))));refine J (CY Z Z rY Z) (V (CP 10 cY Z Z Z Z) (V (Bi Z Z Z Z Z Z Z YV) (AC (AD (AF (ch Z Z (J (AM Z L7 Z Z Z) (J (Ap Z Z Cw Z Z Z) ?_))))))))
    by_cases hm:((dd X)[t]).1∈c.map ey.r
    .refine J (I8 pm ((dd X)[t]).1 (.pointer none) (pV (w ((c.map ey.r).idxOf ((dd X)[t]).1)) 0) Z Z Z ZB Ck c8 (S _ hm) Z) (AB Z Z (AC (AD (AF (ch Z Z (J (UP underlying186 Z Z) (AC (CM Z (Z) ?_))))))));have hnl3:N3.nd.length=k+1:=yL D;have hpl3:N3.po.length=c.length:=yK D
     obtain ⟨x,hx⟩:∃x,N3.nd[k]? =some x:=⟨_,ω (by omega)⟩
     have hjl:(c.map ey.r).idxOf ((dd X)[t]).1<N3.po.length:=by rw[hpl3];have h:=mr hm;rw[χ] at h;exact h
     obtain ⟨y,hy⟩:∃y,N3.po[(c.map ey.r).idxOf ((dd X)[t]).1]? =some y:=⟨_,ω hjl⟩
     have hbd:=jU hitl hitx g D hx hy;have hda:=Lr X _ (ϑ ht1);have hj:=tj hR4 hx hy ((dd X)[t]).2 ⟨by omega,by omega⟩ hbd.1 hbd.2.1 hbd.2.2.1 hbd.2.2.2;rw[Gr] at hj;refine AF (ch Z Z (ch Z Z (J (AM Z ZX Z Z Z) (J (AQ Z Z Z FJ Z) ?_))));refine DA (YB hj Z [40] ⟨Z,trivial⟩ Z Z Z Z (λr H' ⟨e1,N',M',e2,_⟩=>by subst e1 e2;exact ⟨Z,Z,Z⟩) Z) Z ?_;rintro _ ⟨r,H',⟨rfl,N4,M4,rfl,E,hnh4,hmh4,⟨x',hx4,ex4⟩,y',hy4,ey4⟩,rfl⟩;refine AC (AF (J (Ad Z Z (Ξ _ (by omega)) Z) (ch Z Z (AC ?_))));exact ⟨(t+1,N4,M4),⟨by show t+1<=_;omega,E,qo hX hroN g ht1 D Z hm hx hy hx4 ex4 hy4 ey4⟩,by show (dd X).length-(t+1)<(dd X).length-t;omega,AR H [1,3,40,50,51] Z (Z) ⟨Z,Z,Z,Z,Z,Z,Z,Z,Z,Z,trivial⟩⟩
    .refine J (I8 pm ((dd X)[t]).1 (.pointer none) (.pointer none) Z Z Z ZB Ck c8 (R _ hm) Z) (AB Z Z (AC (AD (AF ?_))));refine ch Z Z (J (UP underlying186 Z Z) (AC (Cq Z (Z) (AU (AF (J (Ad Z Z (Ξ _ (by omega)) Z) (ch Z Z (AC ?_))))))));exact ⟨(t+1,N3,M3),⟨by show t+1<=_;omega,hR4,by show BE N3=E4 c a k (t+1);rw[qp hX ht1 hm];exact D⟩,by show (dd X).length-(t+1)<(dd X).length-t;omega,AR H [1,3,40,50,51] Z (Z) ⟨Z,Z,Z,Z,Z,Z,Z,Z,Z,Z,trivial⟩⟩
   .refine Aq ?_;have hte:t=(dd X).length:=by have h:=Y;omega
    have hT5:BE N3=F5 c a (k+1):=by rw[<-qq hX g,<-hte];exact D
    refine AF (J (Ad Z Z (Ξ _ (by omega)) Z) (ch Z Z (AC ?_)));exact ⟨(k+1,wb2,O1 l k bn,N3,M3),⟨by show k+1<=_;omega,hR4,hT5⟩,by show a.length-(k+1)<a.length-k;omega,AR H [1,3,40,50,51] Z (Z) ⟨Z,Z,Z,Z,Z,Z,trivial⟩⟩
  .refine Aq (AD (AD ?_));have hke:k=a.length:=by have h:=h69;rw[χ] at h;omega
   subst hke;rw[kV];have hwbf:=G.w;have hpzf:N.mh=none->N.po.length=0:=λh=>by have h1:BX M N.mh Ye 1 ((List.range N.po.length).map λj=>B4 (w j)):=G.rs.1 .m;have h2:=W4 h1 h;rw[kp] at h2;exact h2
   have hids:=uC hT;have hNl:N.po.length=c.length:=tA hT;refine AF ?_;refine ch Z Z (J (Dx Z Z) (J (Cr Z Ld Z Z Z) (J (FE (f:=40) Z Z (hwbf) Z Yp Z) (J (YA hpzf Z underlying177 Z) (ch Z Z (AC (AX (BC (α:=Nat×jh×MF) (λr=>⟨142,[(5,(.d (pD B 0))),(126,(.d (ji N.mh N.po.length))),(127,(.d (AE (N.po.length:Int)))),(128,(.d (AE (r.1:Int))))],[(40,[.multi r.2.2]),(50,[B5 AE M9 (Gb l (a.map cl.id))]),(51,[.addr 50 0 (.map (some u))])]⟩) (λr=>r.1<=N.po.length/\Ca B u l w r.2.1 r.2.2/\r.2.1.nd=N.nd/\r.2.1.mh=N.mh/\r.2.1.po=(N.po.take r.1).map Pm++N.po.drop r.1) (λr=>N.po.length-r.1) ((0,N,M)) (⟨κ _,G,Z,Z,Z⟩) (AR H [40,50,51] Z Z ⟨Z,Z,Z,Z,trivial⟩) ?_))))))));rintro ⟨j,N5,M5⟩ ⟨hj0,E,K,T,C⟩;dsimp only at hj0 E K T C⊢;refine AD (AF (J (At Z Z Z) (AC (AD (A5 Z (λW=>?_) (λW=>?_))))))
   .have hj1:j<N.po.length:=BF W;refine AU (AD (AX (AD ?_)));have hl5:N5.po.length=N.po.length:=by rw[C];simp;omega
    have hpr5:BX M5 N.mh Ye 1 ((List.range N.po.length).map λj=>B4 (w j)):=by have h:BX M5 N5.mh Ye 1 ((List.range N5.po.length).map λj=>B4 (w j)):=E.rs.1 .m;rw[hl5,T] at h;exact h
    obtain ⟨rb,rc,hre⟩:=Wg hpr5 (j:=j) (by rw[kp];exact hj1);have hrow:=Tt hpr5 hre
    obtain ⟨y,hy⟩:∃y,N5.po[j]? =some y:=⟨_,ω (by omega)⟩
    obtain ⟨hyb,hyq⟩:=E.pp j y hy;have hqz:=W4 hyq;refine AF (J (YF hre (j) Z Z Z hj1 underlying177 dC Z) (J (qj (f:=40) (e:=j) (off:=0) Z (by omega) Z (hrow) ((by rw[ς,mX hj1];rfl)) Z FR Z) ?_));refine AB Z Z (AC (AF (ch Z Z ?_)));refine ch Z Z (J (Dx Z Z) (J (Cr Z ID Z Z Z) (J (FE (f:=40) Z Z (hyb) Z HQ Z) (J (YA hqz Z S1 Z) (J (Dx Z Z) (J (Cr Z L9 Z Z Z) (V (Qk (f:=40) Z Z Z Z (hyb) ((by show _<10;omega)) Z BK) (AC ?_))))))));have hR6:=E.setPo (y':=Pm y) hy Z Z;refine AF (J (Ad Z Z (Ξ _ (by omega)) Z) (ch Z Z (AC ?_)));exact ⟨(j+1,{N5 with po:=N5.po.set j (Pm y)},_),⟨by show j+1<=_;omega,hR6,K,T,gw hj1 C hy⟩,by show N.po.length-(j+1)<N.po.length-j;omega,AR H [40,50,51] Z (Z) ⟨Z,Z,Z,Z,trivial⟩⟩
   .refine Aq (AD ?_);have hje:j=N.po.length:=by have h:=W;omega
    subst hje;rw[kV,List.drop_length,kY] at C;have hids5:Bf N5=a.map cl.id:=by unfold Bf at hids⊢;rw[K];exact hids
    refine AF (ch Z Z (AB Z Z (AB Z Z (AC (A4 ?_)))));exact ⟨_,[40,50,51],_,A2 Z,Z,Z,B,u,l,w,N5,M5,some (List.range (Gb l (a.map cl.id)).length,(Gb l (a.map cl.id)).length),Z,by rw[hids5];rfl,E,by rw[oh v s];exact f9 hT K C⟩
end Go.Proofs.YteifpcnphnhaoaaGreat
namespace Go.Proofs.YteifpcnphnhaoaaGreat
open Go.RowKit
variable{a:List cl}{c:List ey}{g:List (List Nat)}{f:Nat->Bool}{i:Nat}{h:hU}{j:List Int}{k:List (List (AW×Int))}{o:List AW}{w s:List Nat}{K:Nat->Nat}{t:Nat}{E:List (cl×Nat)}{u:Type}{x:I5}{N:jh}{y:Nat}{z:ey}{A:Nat}{B:Type}{C:Nat}{Q:List Int}{M:MF}{F:B->B->Int}{G:AW}{H:Nd}{I:List Nat}{L:List Int}{R:List B}{S:List ey}{T:List cl}{U:Nat}{W:cl}{X:List u}{Y:cl}
set_option maxRecDepth 100000
def E2(ds:List (List (AW×Int)))(on:Nat->Bool)(r:AW):Int:=((List.range ds.length).map λi=>if on i=true then Ds (ds.getD i []) r else 0).sum
def fu(on:Nat->Bool)(q:List Nat):Nat:=q.findIdx λi=>!on i
def ej(ds:List (List (AW×Int)))(on:Nat->Bool)(x:ey):Po:=⟨x.r,x.n,E2 ds on x.r,none,iX ds x.r,fu on (iX ds x.r)⟩
def Jb(rs:List AW)(its:List cl)(on:Nat->Bool)(i:Nat):Nd:={rq rs ((its.map dd).take i) (its.getD i ek) (dd (its.getD i ek)) with on:=on i}
def iW(ros:List ey)(its:List cl)(on:Nat->Bool):jh:=⟨(List.range its.length).map (Jb (ros.map ey.r) its on),ros.map (ej (its.map dd) on),none,none⟩
def BB(on:Nat->Bool)(i:Nat):Nat->Bool:=λj=>if j=i then false else on j
theorem ZG(q:List Nat):fu (λ_=>true) q=q.length:=by
 unfold fu
 simp
theorem dG(a:List (List (AW×Int)))(r:AW):E2 a (λ_=>true) r=(a.map λD=>Ds D r).sum:=by
 unfold E2
 congr 1
 apply lg (by simp)
 grind
theorem fc(p:hU):fe p=iW (j8 p) (hJ p) λ_=>true:=by
 unfold fe iW F5 LN;dsimp only;rw[jw]
 congr 1
 grind[kQ,θ,Pm,aj,ej,dG,ZG]
theorem TX{f g:ey->Po}(h:A<c.length){y:Po}(b:(c.map ey.r).Nodup)(o:y=g c[A])(l:∀x∈c,x.r≠c[A].r->f x=g x):(c.map f).set A y=c.map g:=by
 refine m0 λi=>?_;rw[nC]
 by_cases e:A=i
 .grind
 .rw[ν e,ς,ς]
  cases hi:c[i]? with
  | none=>rfl
  | some z=>
   have a:=φ.1 hi;show some _=some _
   rw[l z (ϖ hi) λs=>e (by
    have k:(c.map ey.r)[A]'(by simpa using h)=(c.map ey.r)[i]'(by simpa using a.1):=by
     grind
    exact (List.getElem_inj b).1 k)]
theorem OW(a:G∈c.map ey.r):∃b:(c.map ey.r).idxOf G<c.length,c[(c.map ey.r).idxOf G].r=G:=by
 have h:=mr a;have f:=nI h
 grind
theorem dI(l:(c.map ey.r).Nodup)(f:ey->Po):∀(D:List (AW×Int)),(D.map Prod.fst).Nodup->(mE (c.map ey.r) D).foldl Nu (c.map f)=c.map λx=>{f x with sum:=(f x).sum-Ds D x.r}:=by
 intro D
 induction D using cH with
 | h0=>
  intro _;show c.map f=_;refine kQ λx _=>?_;show f x={f x with sum:=(f x).sum-0}
  rw[Int.sub_zero]
 | h1 D d a=>
  intro g;rw[jy,m5] at g;have j:d.1∉D.map Prod.fst:=λh=>g.2.2 _ h _ (List.mem_singleton_self _) rfl;have a:=a g.1
  by_cases b:d.1∈c.map ey.r
  .rw[Xi b,List.foldl_append,a];obtain ⟨o,k⟩:=OW b
   grind[Nu,TX,ER,ES,Dk]
  .rw[T4 b,a];refine kQ λx i=>?_;have:Ds (D++ [d]) x.r=Ds D x.r:=Dk λe=>b (e▸Γ.2 ⟨x,i,Z⟩);rw[this]
theorem ft(w:(c.map ey.r).Nodup)(f:ey->Po)(k:List (List (AW×Int))):∀(D:List (AW×Int)),(D.map Prod.fst).Nodup->(lZ (c.map ey.r) k D).foldl Q9 (c.map f)=c.map λx=>{f x with mi:=if Ds D x.r<0 then min (f x).mi (iX k x.r).length else (f x).mi}:=by
 intro D
 induction D using cH with
 | h0=>
  intro _;show c.map f=_;refine kQ λx _=>?_;have z:Ds [] x.r=0:=rfl
  simp_all
 | h1 D d i=>
  intro o;rw[jy,m5] at o;have a:d.1∉D.map Prod.fst:=λh=>o.2.2 _ h _ (List.mem_singleton_self _) rfl;have i:=i o.1
  by_cases b:d.1∈c.map ey.r/\d.2<0
  .rw[er b.1 b.2,List.foldl_append,i];obtain ⟨v,j⟩:=OW b.1;show Q9 _ ((c.map ey.r).idxOf d.1,(iX k d.1).length)=_;rw[ZF (y:=(λx=>{f x with mi:=if Ds D x.r<0 then min (f x).mi (iX k x.r).length else (f x).mi}) c[(c.map ey.r).idxOf d.1]) (by rw[ς,ω v];rfl)];refine TX v w ?_ λx u g=>?_
   .dsimp only;have t:Ds (D++ [d]) c[(c.map ey.r).idxOf d.1].r=d.2:=by rw[j];exact ER a
    have s:Ds D c[(c.map ey.r).idxOf d.1].r=0:=by rw[j];exact ES a
    rw[t,s,ν (by omega),ϱ b.2,j]
   .rw[j] at g;have:Ds (D++ [d]) x.r=Ds D x.r:=Dk g;rw[this]
  .rw[Sp b,i];refine kQ λx u=>?_
   by_cases e:x.r=d.1
   .have l:d.1∈c.map ey.r:=e▸Γ.2 ⟨x,u,Z⟩;have t:Ds (D++ [d]) x.r=d.2:=by rw[e];exact ER a
    have s:Ds D x.r=0:=by rw[e];exact ES a
    rw[t,s,ν (by omega),ν (λh=>b ⟨l,h⟩)]
   .have:Ds (D++ [d]) x.r=Ds D x.r:=Dk e;rw[this]
theorem HE(h:A≠i):BB f i A=f A:=ν h
theorem J6:BB f i i=false:=ϱ rfl
theorem Ve(p:u->Bool)(l m:List u):(l++m).findIdx p=if l.findIdx p<l.length then l.findIdx p else m.findIdx p+l.length:=List.findIdx_append
theorem Pq{b:Type}{p q:b->Bool}:∀{l:List b},(∀x∈l,p x=q x)->l.findIdx p=l.findIdx q
 | [],_=>rfl
 | a::l,h=>by
  rw[List.findIdx_cons,List.findIdx_cons,h a (k7 ..),Pq λx c=>h x (kw _ c)]
theorem J8{n:Nat}(h:i<n):∃B:List Nat,List.range n=List.range i++i::B/\∀j∈B,i<j:=by
 refine ⟨List.range' (i+1) (n-i-1),?_,λj b=>?_⟩
 .rw[List.range_eq_range',List.range_eq_range'];have a:n=i+(1+(n-i-1)):=by omega
  conv=>lhs;rw[a]
  rw[<-List.range'_append_1,lU,Nat.add_comm 1 (n-i-1),List.range'_succ]
 grind
theorem LM(h:i<k.length)(r:AW):∃B:List Nat,iX k r=iX (k.take i) r++((if Ds (k.getD i []) r<0 then [i] else [])++B)/\(∀j∈iX (k.take i) r,j<i)/\∀j∈B,i<j:=by
 obtain ⟨B,c,b⟩:=J8 h;refine ⟨B.filter λi=>decide (Ds (k.getD i []) r<0),?_,λj a=>?_,λj a=>b j (Φ.1 a).1⟩
 all_goals (grind[iX,lr])
theorem oj(h:i<k.length)(a:Nat->Bool)(r:AW):fu (BB a i) (iX k r)=if Ds (k.getD i []) r<0 then min (fu a (iX k r)) (iX (k.take i) r).length else fu a (iX k r):=by
 obtain ⟨B,c,b,f⟩:=LM h r;rw[c]
 generalize iX (k.take i) r=A at b⊢
 grind[Pq,HE,fu,Ve,J6]
theorem dF(h:i<k.length)(b:f i=true)(r:AW):E2 k (BB f i) r=E2 k f r-Ds (k.getD i []) r:=by
 obtain ⟨B,a,c⟩:=J8 h;unfold E2;rw[a,jy,jy,k6,k6,mc,mc,lS,lS]
 grind[kQ,HE,J6]
theorem Y0:∀(l:List (Nat×Int)) (a:List Po),(l.foldl Nu a).map Cu=l.foldl Nu (a.map Cu)
 | [],_=>rfl
 | e::l,a=>by
  rw[List.foldl_cons,List.foldl_cons,Y0 l]
  congr 1
  unfold Nu;rw[ς]
  cases a[e.1]? with
  | none=>rfl
  | some y=>show (a.set e.1 _).map Cu=_;rw[List.map_set];rfl
theorem ZE:∀(l:List (Nat×Nat)) (a:List Po),(l.foldl Q9 a).map Cu=l.foldl Q9 (a.map Cu)
 | [],_=>rfl
 | e::l,a=>by
  rw[List.foldl_cons,List.foldl_cons,ZE l]
  congr 1
  unfold Q9;rw[ς]
  cases a[e.1]? with
  | none=>rfl
  | some y=>show (a.set e.1 _).map Cu=_;rw[List.map_set];rfl
theorem x9(t:(c.map ey.r).Nodup)(h:BE N=iW c a f)(g:i<a.length)(y:f i=true)(w:N.nd[i]? =some H):BE (vk N i H)=iW c a (BB f i):=by
 have o:N.nd.map FO=(List.range a.length).map (Jb (c.map ey.r) a f):=jq jh.nd h;have k:N.po.map Cu=c.map (ej (a.map dd) f):=jq jh.po h
 have b:FO H=Jb (c.map ey.r) a f i:=by
  have u:(N.nd.map FO)[i]? =some (FO H):=by rw[ς,w];rfl
  grind
 have s:H.ef=mE (c.map ey.r) (dd (a.getD i ek)):=jq Nd.ef b;have l:H.pl=lZ (c.map ey.r) ((a.map dd).take i) (dd (a.getD i ek)):=jq Nd.pl b;have kI:i<(a.map dd).length:=by simpa using g
 have r:(a.map dd).getD i []=dd (a.getD i ek):=by rw[Dy [] kI,Dy ek g,kT]
 unfold BE vk iW;dsimp only
 congr 1
 .rw[List.map_set,o]
  have:FO (FA H)=Jb (c.map ey.r) a (BB f i) i:=by
   have u:FO (FA H)=FA (FO H):=rfl;rw[u,b];unfold Jb FA BB;rw[ϱ rfl]
  rw[this];refine m0 λj=>?_;rw[nC]
  by_cases e:i=j
  .subst e;rw[ϱ Z,ϱ (by simpa using g),ς,mX g];rfl
  .rw[ν e,ς,ς]
   cases hj:(List.range a.length)[j]? with
   | none=>rfl
   | some z=>
    have v:=φ.1 hj;have:z=j:=by have:=v.2;simp at this;exact this.symm
    subst this;show some _=some _;unfold Jb BB;rw[ν (λh=>e h.symm)]
 .rw[ZE,Y0,k,s,l,dI t _ _ (cN _),ft t _ _ _ (cN _)];refine kQ λz _=>?_;unfold ej;dsimp only;rw[dF kI y,oj kI,r]
theorem GO(N:jh)(i:Nat):(BE N).nd.getD i CV=FO (N.nd.getD i CV):=by
 show (N.nd.map FO).getD i CV=_;rw[Ψ,Ψ,ς]
 cases N.nd[i]?<;>rfl
theorem JK(N:jh)(j:Nat):(BE N).po.getD j Cd=Cu (N.po.getD j Cd):=by
 show (N.po.map Cu).getD j Cd=_;rw[Ψ,Ψ,ς]
 cases N.po[j]?<;>rfl
theorem IE(N:jh):Bf (BE N)=Bf N:=by
 unfold Bf BE;rw[jw];rfl
theorem bV(N:jh)(x:Nd):G5 (BE N) (FO x)=G5 N x:=by
 have c:kt (BE N)=kt N:=funext λe=>by unfold kt;rw[JK];rfl
 have b:∀e,TY (BE N) (FO x) e=TY N x e:=λe=>by unfold TY;rw[JK,GO];rfl
 have a:je (BE N)=je N:=funext λe=>by unfold je;rw[GO,IE];rfl
 grind[G5,FO]
theorem VB(N:jh):Dj (BE N)=Dj N:=by
 have c:(BE N).nd.findSome? (Rg (BE N))=N.nd.findSome? (Rg N):=by
  show (N.nd.map FO).findSome? _=_;rw[List.findSome?_map]
  congr 1
  grind[Rg,FO,bV]
 have b:(BE N).po.findSome? (W9 (BE N))=N.po.findSome? (W9 N):=by
  show (N.po.map Cu).findSome? _=_;rw[List.findSome?_map]
  congr 1
  funext y
  show W9 (BE N) (Cu y)=W9 N y;have a:kS (BE N)=kS N:=funext λi=>by unfold kS;rw[GO];rfl
  have f:∀i,((BE N).nd.getD i CV).it.id=(N.nd.getD i CV).it.id:=λi=>by rw[GO];rfl
  unfold W9;rw[a];show (if Q4 y y.sum=true then (y.q.reverse.find? (kS N)).map λi=>(⟨((BE N).nd.getD i CV).it.id,0,y.r,-1⟩:I5) else none)=_
  grind
 unfold Dj;rw[c,b]
theorem gZ(h:G5 N H=some x):x.id=H.it.id:=by
 unfold G5 at h
 split at h
 .injection h with h;subst h;rfl
 grind
theorem OR(h:Dj N=some x):∃(i:Nat) (a:Nd),N.nd[i]? =some a/\a.on=true/\x.id=a.it.id:=by
 unfold Dj at h
 split at h
 .rename_i o j
  injection h with h;subst h
  obtain ⟨a,c,b⟩:=sU j;obtain ⟨i,g,k⟩:=kh c;unfold Rg at b
  split at b
  .rename_i f
   exact ⟨i,a,by rw[ω g,k],f,gZ b⟩
  .cases b
 .obtain ⟨y,l,b⟩:=sU h;unfold W9 at b
  split at b
  .cases hf:y.q.reverse.find? (kS N) with
   | none=>rw[hf] at b;cases b
   | some i=>
    grind[kS,CV]
  .cases b
structure vG (ros:List ey) (its:List cl):Prop where
 l:its.length<=30
 x:∀x∈its,YH x
 i:(its.map cl.id).Nodup
 a:∀x∈its,∀id∈x.af,id∈its.map cl.id
 r:(ros.map ey.r).Nodup
 n:∀x∈ros,-4000000000000000<=x.n/\x.n<=4000000000000000
 o:ros.length<=100
theorem qr(h:H∈(iW c a f).nd):∃i,i<a.length/\H=Jb (c.map ey.r) a f i:=by
 obtain ⟨i,b,e⟩:=Γ.1 h
 grind
theorem QQ(f:List ey)(c:List cl)(g:Nat->Bool):Bf (iW f c g)=c.map cl.id:=by
 unfold Bf iW;rw[jw]
 apply lg (by simp)
 intro i a b;simp only[kT,List.getElem_range,Function.comp];show (c.getD i ek).id=_
 grind
theorem p0{D:List (AW×Int)}{e:Nat×Int}(h:e∈mE o D):∃d∈D,e.2=d.2:=by
 obtain ⟨d,a,rfl⟩:=Γ.1 h
 grind
theorem oV{D:List (AW×Int)}{e:Nat×Nat}(h:e∈lZ o k D):∃d∈D,d.1∈o/\d.2<0/\e=(o.idxOf d.1,(iX k d.1).length):=by grind[lZ]
theorem sM(h:vG c a)(b:Nat->Bool)(r:AW): -30000000000000000<=E2 (a.map dd) b r/\E2 (a.map dd) b r<=30000000000000000:=by
 have f:∀l:List Nat,-(l.length*1000000000000000)<=(l.map λi=>if b i=true then Ds ((a.map dd).getD i []) r else 0).sum/\(l.map λi=>if b i=true then Ds ((a.map dd).getD i []) r else 0).sum<=l.length*1000000000000000:=by
  intro l
  induction l with
  | nil=>simp
  | cons i l s=>
   simp only[k6,lS,mH]
   have k:QY ((a.map dd).getD i []):=by
    rcases kj (l:=a.map dd) (d:=[]) i with g | g
    .grind[Lr]
    .rw[g];intro x j;cases j
   have o:=Zf k r;omega
 have o:=f (List.range (a.map dd).length);have t:=h.l
 grind[E2]
theorem yU(h:vG c a)(g:Nat->Bool):lR (iW c a g):=by
 have I:=h.l
 have k:∀y∈(iW c a g).po,y.q.length<=30/\y.mi<=30/\∃x∈c,y=ej (a.map dd) g x:=λy j=>by
  obtain ⟨x,b,e⟩:=Γ.1 j;subst e;have t:=LL (a.map dd) x.r;rw[χ] at t;have C:fu g (iX (a.map dd) x.r)<=(iX (a.map dd) x.r).length:=List.findIdx_le_length;exact ⟨by show (iX _ _).length<=_;omega,by show fu _ _<=_;omega,x,b,Z⟩
 refine ⟨by rw[QQ];exact h.i,λx b id v=>?_,λx b=>?_,λx b e z=>?_,λx b e z=>?_,λy j=>?_,λy j=>?_,?_,λy j=>?_⟩
 .obtain ⟨i,f,rfl⟩:=qr b;rw[QQ];refine h.a (a.getD i ek) (by rw[Dy ek f];exact ϑ f) id v
 .obtain ⟨i,f,rfl⟩:=qr b;have u:a.getD i ek∈a:=by rw[Dy ek f];exact ϑ f
  have t:=O3 (h.x _ u);have C:=ZZ (c.map ey.r) (dd (a.getD i ek));have K:=Yh (c.map ey.r) ((a.map dd).take i) (dd (a.getD i ek));have J:=(h.x _ u).2.2;exact ⟨by show (mE _ _).length<=_;omega,by show (lZ _ _ _).length<=_;omega,by show (a.getD i ek).af.length<=_;omega⟩
 .obtain ⟨i,f,rfl⟩:=qr b;obtain ⟨d,A,G⟩:=p0 z;have:=Lr _ d A;rw[G];omega
 .obtain ⟨i,f,rfl⟩:=qr b;obtain ⟨d,A,u,l,rfl⟩:=oV z;obtain ⟨F,D⟩:=OW u;have kI:i<(a.map dd).length:=by simpa using f
  have w:(a.map dd).getD i []=dd (a.getD i ek):=by rw[Dy [] kI,Dy ek f,kT]
  have s:Ds ((a.map dd).getD i []) d.1=d.2:=by rw[w];exact cR (cN _) A
  obtain ⟨B,H,M,L⟩:=LM kI d.1
  have E:((iW c a g).po.getD ((c.map ey.r).idxOf d.1) Cd).q=iX (a.map dd) d.1:=by
   show ((c.map _).getD _ Cd).q=_;rw[Dy Cd (by simpa using F),kT];show iX _ (c[(c.map ey.r).idxOf d.1]).r=_;rw[D]
  rw[E];dsimp only;have o:=jq List.length H;rw[ϱ (by rw[s];exact l),Δ,Δ,ζ] at o;have t:=LL ((a.map dd).take i) d.1;rw[η,χ] at t;omega
 .have:=k y j;omega
 .obtain ⟨_,_,x,b,rfl⟩:=k y j;have:=h.n x b;show -1000000000000000000<=x.n/\x.n<=1000000000000000000;omega
 .have t:(iW c a g).nd.length=a.length:=by unfold iW;simp
  have C:(iW c a g).po.length=c.length:=by unfold iW;simp
  have:=h.o;omega
 .have:=k y j;omega
theorem sL{N:jh}(h:lR (BE N)):lR N:=by
 have c:∀x∈N.nd,FO x∈(BE N).nd:=λx a=>Γ.2 ⟨x,a,Z⟩;have f:∀y∈N.po,Cu y∈(BE N).po:=λy b=>Γ.2 ⟨y,b,Z⟩;refine ⟨by rw[<-IE];exact h.i,λx a id g=>by rw[<-IE];exact h.a _ (c x a) id g,λx a=>h.l (FO x) (c x a),λx a=>h.e (FO x) (c x a),λx a e i=>?_,λy b=>h.m (Cu y) (f y b),λy b=>h.rm (Cu y) (f y b),?_,λy b=>h.ql (Cu y) (f y b)⟩
 .have:=h.p _ (c x a) e i;rw[JK] at this;exact this
 .have:=h.n
  grind[BE]
theorem uo(h:vG c a)(i:BE N=iW c a f):UK N.po 1000000000000000000:=λy g=>by
 have b:Cu y∈(BE N).po:=Γ.2 ⟨y,g,Z⟩;rw[i] at b;obtain ⟨x,k,e⟩:=Γ.1 b;have l:=sM h f x.r;have j:y.sum=E2 (a.map dd) f x.r:=jq Po.sum e.symm;rw[j];omega
def FF(ros:List ey)(its:List cl):Nat->(Nat->Bool)->List I5×(Nat->Bool)
 | 0,on=>([],on)
 | f+1,on=>match Dj (iW ros its on) with
  | none=>([],on)
  | some e=>(e::(FF ros its f (BB on ((its.map cl.id).idxOf e.id))).1,(FF ros its f (BB on ((its.map cl.id).idxOf e.id))).2)
def EW(n:Nat)(on:Nat->Bool):Nat:=((List.range n).filter on).length
def JJ(p:hU):List I5×(Nat->Bool):=FF (j8 p) (hJ p) (hJ p).length λ_=>true
def BS(its:List cl)(on:Nat->Bool)(k:Nat):List Int:=((List.range k).filter on).map λi=>(its.getD i ek).id
theorem H1{n:Nat}(a:i<n)(b:f i=true):EW n (BB f i)+1=EW n f:=by
 obtain ⟨B,g,c⟩:=J8 a
 grind[EW,BB,lr,HE]
theorem Fi[BEq u][LawfulBEq u](a:X.Nodup){i:Nat}(b:i<X.length):X.idxOf X[i]=i:=by grind
theorem Ky(h:Dj (iW c a f)=none):FF c a U f=([],f):=by
 cases U with
 | zero=>rfl
 | succ U=>unfold FF;rw[h]
theorem Kw(h:Dj (iW c a f)=some x):FF c a (U+1) f=(x::(FF c a U (BB f ((a.map cl.id).idxOf x.id))).1,(FF c a U (BB f ((a.map cl.id).idxOf x.id))).2):=by
 show (match Dj (iW c a f) with | none=>_ | some x=>_)=_;rw[h]
theorem MH(h:BE N=iW c a f)(k:N.nd[i]? =some H):i<a.length/\H.on=f i/\H.it=a.getD i ek:=by
 have b:(N.nd.map FO)[i]? =some (FO H):=by rw[ς,k];rfl
 rw[show N.nd.map FO=(List.range a.length).map (Jb (c.map ey.r) a f) from jq jh.nd h] at b;have g:i<a.length:=by have:=(φ.1 b).1;simpa using this
 rw[ς,mX g] at b;have j:FO H=Jb (c.map ey.r) a f i:=(Option.some.inj b).symm;exact ⟨g,jq Nd.on j,jq Nd.it j⟩
theorem PR(a:List cl)(b:Nat->Bool)(k:Nat):BS a b (k+1)=BS a b k++if b k=true then [(a.getD k ek).id] else []:=by grind[BS,ko]
theorem ar(a:List cl)(b:Nat->Bool)(k:Nat):(BS a b k).length<=k:=by grind[BS]
theorem xD(h:BE N=iW c a f):N.nd.length=a.length:=by grind[χ,BE,iW]
theorem Y6(c:CT h)(a:Ac h=0):vG (j8 h) (hJ h):=by
 refine ⟨jp (DW h) c.i,λx b=>c.x x (Ip b),F4 a,λx b id g=>?_,PB a,λx b=>?_,?_⟩
 .have f:hJ h=ea h.it:=ϱ a;have i:Qd (h.it.map cl.id) x=0:=JE (IL a).2.2 _ (Γ.2 ⟨x,Ip b,Z⟩)
  grind[Qd,Is,Js]
 .have f:x∈h.ro:=by
   grind[jS,j8]
  exact HI (IL a).1 x f
 .unfold j8;rw[χ,(jS _).length_eq,kp,χ];exact c.r
theorem Vg(p:hU)(c:CT p)(b:Ac p≠0):AI prog 95 [.d (BG p)] (.tup [.sl (some true) [],.sl (some true) [],AE (Ac p)]):=by
 have a:=bq p c b;refine As func95 Z Z ntmps95 Z Z Z λF f=>(AD (AF (V (B7 1 Z Z Z Z Z Z Z) (AB Z Z (AB Z Z (AB Z Z ?_))))));refine AC (Zh (AD (AF (J (Ap Z Z Bp Z Z Z) (V (FX a Z [] trivial Z Z Z Z Z Z Z Z Z) (ch Z Z (J (Cc Z Z Z) (J (Cc Z Z Z) ?_))))))));refine AB Z Z (AB Z Z (AC (AD (AD (AF (ch Z Z (J (DJ Z Z Z) (AC ?_))))))));refine CM Z ((by simpa using b)) (AD (AF (ch Z Z (AB Z Z (AB Z Z (AB Z Z (AC (A4 ?_))))))));exact ⟨_,[],[],A2 Z,Z,Z,Z,Z⟩
theorem Xf(p:hU)(hf:CT p)(hE:Ac p=0):AI prog 95 [.d (BG p)] (.tup [.sl none ((BS (hJ p) (JJ p).2 (hJ p).length).map AE),.sl none ((JJ p).1.map TZ),AE 0]):=by
 have G:=WQ p hf hE;have g:=Y6 hf hE;unfold JJ;rw[fc] at G
 obtain ⟨a,X⟩:∃a,hJ p=a:=⟨_,Z⟩
 obtain ⟨b,S⟩:∃b,j8 p=b:=⟨_,Z⟩
 rw[X,S] at G g⊢;have hl:=g.l;refine As func95 Z Z ntmps95 Z Z Z λF hF=>(AD (AF ?_));refine V (B7 1 Z Z Z Z Z Z Z) (AB Z Z (AB Z Z (AB Z Z (AC (Zh (AD (AF (J (Ap Z Z Bp Z Z Z) ?_))))))));refine DA (YB G Z [40,50,51] ⟨Z,Z,Z,trivial⟩ Z Z Z Z (λr H' ⟨_,_,_,_,_,_,_,e1,e2,_⟩=>by subst e1 e2;exact ⟨Z,Z,Z⟩) Z) Z ?_;rintro _ ⟨r,H',⟨wb,mv,nb,pb,N,M,bs,rfl,rfl,A,s⟩,rfl⟩;refine ch Z Z (J (Cc Z Z Z) (J (Cc Z Z Z) (AB Z Z (AB Z Z (AC ?_)))));refine AD (AD (AF (ch Z Z (J (DJ Z Z Z) (AC (Cq Z (Z) (AU (AD ?_))))))));have v:Bf N=a.map cl.id:=by rw[<-IE,s,QQ]
 rw[v];refine AF (AB Z Z (AC (AD (qa (AD (AX (IU 7 900 db Z Z Z Z (BC (α:=(Nat->Bool)×jh×MF×List I5×Nat) (λq=>⟨64,[(5,(.d (pD wb 0))),(7,(.own 900 0 q.2.2.2.1.length))],(900,[.rowD 245 9 (q.2.2.2.1.map TZ)])::HW mv bs (Gb nb (a.map cl.id)) q.2.2.1⟩) (λq=>Ca wb mv nb pb q.2.1 q.2.2.1/\BE q.2.1=iW b a q.1/\EW a.length q.1<=q.2.2.2.2/\q.2.2.2.1.length+q.2.2.2.2<=a.length/\q.2.2.2.1++(FF b a q.2.2.2.2 q.1).1=(FF b a a.length λ_=>true).1/\(FF b a q.2.2.2.2 q.1).2=(FF b a a.length λ_=>true).2) (λq=>q.2.2.2.2) ((λ_=>true,N,M,[],a.length)) (⟨A,s,by show ((List.range a.length).filter _).length<=_;exact jp (lE _ _) (by simp),by simp,Z,Z⟩) (AR hF [900,40,50,51] Z Z ⟨Z,Z,trivial⟩) ?_))))))));rintro ⟨o,N,M,l,f⟩ ⟨A,s,hc,hal,u,t⟩;dsimp only at A s hc hal u t⊢;refine AX (AD ?_);have K:=sL (N:=N) (by rw[s];exact yU g o);have O:=uo g s;have v:Bf N=a.map cl.id:=by rw[<-IE,s,QQ]
 have W:=tR bs A K O;rw[v] at W;refine AF (ch Z Z (V (FX W Z [40,50,51] ⟨Z,Z,Z,trivial⟩ Z Z Z Z Z Z Z Z Z) (ch Z Z ?_)))
 cases hne:Dj N
 .refine J (Cc Z Z Z) (J (Cc Z Z Z) (V (CP 2 KD Z Z Z Z) (V (Bi Z Z Z Z Z Z Z Kr) (AB Z Z (AC ?_)))));refine AD (AD (AF (ch Z Z (J (QX Z Z) (AC (CM Z (Z) (Aq (AD ?_))))))));have hro:FF b a f o=([],o):=Ky (by rw[<-s,VB,hne]);rw[hro] at u t;rw[kY] at u;dsimp only at t;have hwb:=A.w;have D:BX M N.nh en 1 ((List.range N.nd.length).map λi=>B4 (nb i)):=A.rs.1 .n;have U:=W4 D;rw[kp] at U;have hNl:=xD s;refine AF (AB Z Z (AC (AD (AD (AF (ch Z Z ?_))))));refine J (Dx Z Z) (J (Cr Z Jl Z Z Z) (J (FE (f:=40) Z Z (hwb) Z HQ Z) (J (YA U Z S1 Z) (ch Z Z (AC (AX (IU 10 901 Ao Z Z Z Z (BC (α:=Nat×List Int) (λq=>⟨64,[(7,(.own 900 0 l.length)),(10,(.own 901 0 q.2.length)),(43,(.d (ji N.nh N.nd.length))),(44,(.d (AE (N.nd.length:Int)))),(45,(.d (AE (q.1:Int))))],(901,[.rowD 3 1 (q.2.map AE)])::(900,[.rowD 245 9 (l.map TZ)])::HW mv bs (Gb nb (a.map cl.id)) M⟩) (λq=>q.1<=N.nd.length/\q.2=BS a o q.1) (λq=>N.nd.length-q.1) ((0,[])) (⟨κ _,Z⟩) (AR hF [901,900,40,50,51] Z Z ⟨Z,Z,Z,Z,Z,trivial⟩) ?_))))))));rintro ⟨k,B⟩ ⟨hk0,hI⟩;dsimp only at hk0 hI⊢;refine AD (AF (J (At Z Z Z) (AC (AD (A5 Z (λI=>?_) (λI=>?_))))))
  .have z:k<N.nd.length:=BF I;refine AU (AD (AX (AD ?_)))
   obtain ⟨x,C⟩:∃x,N.nd[k]? =some x:=⟨_,ω z⟩
   obtain ⟨w,c,E⟩:=MH s C;have L:=A.n k x C;obtain ⟨rb,rc,T⟩:=Wg D (j:=k) (by rw[kp];exact z);have R:=Tt D T;have hidl:B.length<=k:=by rw[hI];exact ar a o k
   refine AF (J (YF T (k) Z Z Z z S1 NU Z) (J (qj (f:=40) (e:=k) (off:=0) Z (by omega) Z (R) ((by rw[ς,mX z];rfl)) Z PS Z) ?_));refine AB Z Z ?_;refine AC (AD (AF (ch Z Z (J (Dx Z Z) (J (Cr Z F8 Z Z Z) (J (FE (f:=40) Z Z (L) Z tH Z) (AC (KB Z (λH=>?_) (λH=>?_)))))))))
   .refine AF (ch Z Z (ch Z Z (J (Dx Z Z) (J (Cr Z G7 Z Z Z) (J (Cr Z QW Z Z Z) ?_)))));refine J (FE (f:=40) Z Z (L) Z Ai Z) (V (CF 3 Ao Z Z Z Z Z Z Z Z) (V (DN (B) ([x.it.id]) Z Z Z Z Z Z Z Z Ao (by simp only[ζ];omega) Z Z Z Z) (AB Z Z (AC (AF (J (Ad Z Z (AJ (k+1) (by omega)) Z) (ch Z Z (AC ?_))))))));exact ⟨(k+1,_),⟨by show k+1<=_;omega,by show _=BS a o (k+1);rw[PR,ϱ (by rw[<-c];simpa using H),<-hI,<-E]⟩,by show N.nd.length-(k+1)<N.nd.length-k;omega,AR hF [901,900,40,50,51] Z (Z) ⟨Z,Z,Z,Z,Z,trivial⟩⟩
   .refine AU (AF (J (Ad Z Z (AJ (k+1) (by omega)) Z) (ch Z Z (AC ?_))));exact ⟨(k+1,_),⟨by show k+1<=_;omega,by show _=BS a o (k+1);rw[PR,ν (by rw[<-c];simpa using H),kY,<-hI]⟩,by show N.nd.length-(k+1)<N.nd.length-k;omega,AR hF [901,900,40,50,51] Z (Z) ⟨Z,Z,Z,Z,Z,trivial⟩⟩
  .refine Aq (AD ?_);have hke:k=a.length:=by have h:=I;omega
   refine Fb (emb:=TZ) 7 900 l Z Z Z Z Z Z Z ?_;refine Fb (emb:=AE) 10 901 B Z Z Z Z Z Z Z (AF (ch Z Z (ch Z Z (AB Z Z (AB Z Z (AB Z Z (AC (A4 ?_))))))));exact ⟨_,[],[],A2 Z,Z,Z,by rw[<-t,<-u,hI,hke],Z⟩
 .refine J (Cc Z Z Z) (J (Cc Z Z Z) (V (CP 4 KD Z Z Z Z) (V (Bi Z Z Z Z Z Z Z Kr) (AB Z Z (AC ?_)))));refine AD (AD (AF (ch Z Z (J (QX Z Z) (AC (Cq Z (Z) (AU (AD ?_))))))))
  rename_i e
  obtain ⟨i,x,C,hon,hid⟩:=OR hne;obtain ⟨w,c,E⟩:=MH s C;rw[hon] at c;have c:=c.symm;have Y:i<(a.map cl.id).length:=by rw[χ];exact w
  have hei:(a.map cl.id)[i]=e.id:=by rw[hid,E,kT,Dy ek w]
  have hby:=Tj (nb:=nb) g.i Y;rw[hei] at hby;have hcn:=H1 w c
  obtain ⟨f2,rfl⟩:∃f2,f=f2+1:=⟨f-1,by omega⟩
  have Q:FF b a (f2+1) o=(e::(FF b a f2 (BB o i)).1,(FF b a f2 (BB o i)).2):=by rw[Kw (by rw[<-s,VB,hne]),<-hei,Fi g.i Y]
  have y:=ϖ C;have hrm:=eM A C O (K.e x y) (K.l x y).1 (K.l x y).2.1 (λe he=>(K.p x y e he).2) K.m;refine Bq [[],[0],[0,1],[0,1,2],[],[4],rg 6,rg 7] mixed Z (B2 (A7 5 Z Z (AK [28] Z (Dx Z Z) ?_)));refine AK [29] Z (Cr Z OZ Z Z Z) (A1 [30] [40] Z Z (λ_=>Aa (FE (f:=40) Z Z (A.w) Z Yo Z)) (AK [8] Z (AM Z pM Z Z Z) (A1 [32] [4] Z Z (λ_=>Aa (AQ Z Z Z Ai Z)) (BV 6 Z Z Z (A0 7 Z Z (EN 31 51 0 Z Z (J (I8 (Gb nb (a.map cl.id)) e.id (.pointer none) (pV (nb i) 0) Z Z Z ZC I6 YK hby Z) (AC ⟨Z,?_⟩))))))));refine A0 8 Z Z ?_;refine DA (YB hrm Z [40] ⟨Z,trivial⟩ Z Z Z Z (λr H' ⟨e1,M',e2,_⟩=>by subst e1 e2;exact ⟨Z,Z,Z⟩) Z) Z ?_;rintro _ ⟨r,H',⟨rfl,M2,rfl,hR2⟩,rfl⟩;refine AC ⟨Z,?_⟩;refine Bb (AF (ch Z Z (J (Ap Z Z rW Z Z Z) (V (CF 5 db Z Z Z Z Z Z Z Z) (V (DN (l) ([e]) Z Z Z Z Z Z Z Z db (by simp only[ζ];omega) Z Z Z Z) (AB Z Z (AC ?_)))))));exact ⟨(BB o i,vk N i x,M2,l++ [e],f2),⟨hR2,x9 g.r s w c C,by show EW a.length (BB o i)<=f2;omega,by show (l++ [e]).length+f2<=_;rw[Δ];simp;omega,by show (l++ [e])++(FF b a f2 (BB o i)).1=_;rw[lh,<-u,Q];rfl,by show (FF b a f2 (BB o i)).2=_;rw[<-t,Q]⟩,by show f2<f2+1;omega,AR hF [900,40,50,51] Z (Z) ⟨Z,Z,trivial⟩⟩
theorem L0(l:List Int)(x:Int)(i:l.length<=140737488355328):AI prog 155 [.d (.sl none (l.map AE)),.d (AE x)] (.raw (.bool (decide (x∈l)))):=by
 refine As func155 Z Z ntmps155 Z Z Z λF j=>(AD (AF ?_));refine AB Z Z (AC (AD (AD (AF (AB Z Z (AC (AX (FQ (α:=Nat) (λk=>⟨18,[(0,.d (.sl none (l.map AE))),(1,.d (AE x)),(5,(.d (AE (k:Int))))],[]⟩) (λk=>k<=l.length/\x∉l.take k) (λk=>l.length-k) (0) (⟨κ _,by simp⟩) (Zn ⟨Z,Z,Z,trivial⟩) ?_))))))));rintro k ⟨g,f⟩;refine AD (AD (AF (ch Z Z (ch Z Z (J (BU Z E0 Z) (J (At Z Z Z) (AC (A5 Z (λc=>?_) (λc=>?_)))))))))
 .have a:k<l.length:=BF c;refine AU (AD (AX (AD ?_)));refine AF (ch Z Z (ch Z Z (J (Al (k) Z Z (Z) (AP a) E0 Z BK Z) (J (BZ Z Z Ai Z) (ch Z Z (J (Fa Z Z Z) (AC (A5 Z (λb=>?_) (λb=>?_)))))))))
  .refine AD (AF (AB Z Z (AC (A4 ?_))));exact ⟨_,[],[],A2 Z,Z,Z,Sk (by rw[<-b];exact ϑ a),Z⟩
  .refine AU (AF (ch Z Z (J (Ad Z Z (AJ (k+1) (by omega)) Z) (AB Z Z (AC ?_)))));exact ⟨k+1,⟨by show k+1<=_;omega,xB a f (λe=>b e.symm)⟩,by show l.length-(k+1)<l.length-k;omega,⟨Z,Z,λ_ _=>S3.get (l:=[(0,_),(1,_),(5,_)]) ⟨Z,Z,Z,trivial⟩⟩⟩
 .refine Aq (AD (AF (AB Z Z (AC (A4 ?_)))));exact ⟨_,[],[],A2 Z,Z,Z,Hh (FC (by have h:=c;omega) f),Z⟩
theorem PC.leO(h:PC F){x y z:B}(g:F x y<=0)(a:F y z<=0):F x z<=0:=by
 by_cases f:F x y=0
 .rw[h.eqv x y z f];exact a
 .by_cases i:F y z=0
  .have o:=h.anti y z;have b:F z y=0:=by omega
   have l:=h.eqv z y x b;have k:=h.anti z x;have j:=h.anti y x;omega
  .have:=h.trans x y z (by omega) (by omega);omega
theorem Nb{k:Type}{c:k->k->Int}(h:PC c){f:List k}{m:Nat}{x:k}(r:f.Pairwise λa b=>¬c b a<0)(w:∀y∈f.take m,c y x<0)(B:∀y,f[m]? =some y->¬c y x<0):((f.take m++ [x])++f.drop m).Pairwise λa b=>¬c b a<0:=by
 have u:∀y∈f.drop m,¬c y x<0:=λy g=>by
  cases hm:f[m]? with
  | none=>
   rw[mx (List.getElem?_eq_none_iff.1 hm)] at g;cases g
  | some z=>
   obtain ⟨j,s⟩:=φ.1 hm;rw[mM j] at g;have o:=B z hm;rcases jt.1 g with g | g
   .rw[g,s];exact o
   .have t:(f.drop m).Pairwise λa b=>¬c b a<0:=r.sublist (List.drop_sublist _ _);rw[mM j,lx] at t;have v:=t.1 y g;rw[s] at v;have A:=h.anti z x;have C:=h.anti y z;have E:=h.anti y x;have:=h.leO (x:=x) (y:=z) (z:=y) (by omega) (by omega);omega
 rw[rA];refine ⟨?_,r.sublist (List.drop_sublist _ _),λa i b l=>?_⟩
 .rw[rA];refine ⟨r.sublist (List.take_sublist _ _),List.pairwise_singleton _ _,λa i b l=>?_⟩;rw[ξ.1 l];have:=w a i;have A:=h.anti a x;omega
 .rcases υ.1 i with i | i
  .have v:=w a i;have D:=u b l;have A:=h.anti a b;have C:=h.anti b x;have:=h.leO (x:=a) (y:=x) (z:=b) (by omega) (by omega);omega
  .rw[ξ.1 i];exact u b l
theorem Rs{x:B}:((R.take y++ [x])++R.drop y).Perm (R++ [x]):=by
 have h:(R.take y++(x::R.drop y)).Perm (x::(R.take y++R.drop y)):=List.perm_middle;rw[mw] at h;rw[lh];exact h.trans (List.perm_append_singleton x R).symm
theorem du(f:B->AW){l m g:List B}(c:(l.map f).Nodup)(r:m.Perm l)(i:m.Pairwise λa b=>¬BT (f b) (f a)<0)(j:g.Perm l)(s:g.Pairwise λa b=>¬BT (f b) (f a)<0):g=m:=by
 have o:∀{k:List B},(k.map f).Nodup->(k.Pairwise λa b=>¬BT (f b) (f a)<0)->k.Pairwise λa b=>BT (f a) (f b)<0:=λ{k} c h=>by
  rw[List.Nodup,ky] at c;refine (h.and c).imp λ{a b} ⟨u,t⟩=>?_;have j:=NQ.anti (f a) (f b);have s:BT (f a) (f b)≠0:=λe=>t (Dq.1 e);omega
 exact sI (R:=λa b=>BT (f a) (f b)<0) (λx=>by rw[NQ.refl];omega) (λx y z=>NQ.trans _ _ _) (o ((j.map f).nodup_iff.2 c) s) (o ((r.map f).nodup_iff.2 c) i) λx=>by rw[j.mem_iff,r.mem_iff]
theorem Sd(f:List AW):(IP f).Pairwise λa b=>¬O5 f b a<0:=by
 have:=List.pairwise_mergeSort (le:=λi j=>decide (O5 f i j<=0)) (λa b c k l=>?_) (λa b=>?_) (List.range f.length)
 .refine List.Pairwise.imp (λ{a b} h=>?_) this;have k:=(SY f).anti a b
  grind
 .have o:O5 f a b<=0:=by simpa using k
  have g:O5 f b c<=0:=by simpa using l
  have:O5 f a c<=0:=by
   by_cases r:O5 f a b=0
   .rw[(SY f).eqv a b c r];exact g
   .by_cases t:O5 f b c=0
    .have w:=(SY f).anti b c;have s:=(SY f).eqv c b a (by omega);have v:=(SY f).anti a c;have u:=(SY f).anti a b;omega
    .have:=(SY f).trans a b c (by omega) (by omega);omega
  grind
 .have k:=(SY f).anti a b
  grind
theorem qg(p:hU):(j8 p).Perm p.ro:=by grind[j8,jS,χ,lg,Dy]
theorem NY(p:hU):(j8 p).Pairwise λa b=>¬BT b.r a.r<0:=by grind[j8,rB,Sd,jS,O5]
theorem RK(c:(h.ro.map ey.r).Nodup)(g:S.Perm h.ro)(f:S.Pairwise λa b=>¬BT b.r a.r<0):S=j8 h:=by grind[du,qg,NY]
theorem eA(c:Ac h=0)(g:S.Perm h.ro)(f:S.Pairwise λa b=>¬BT b.r a.r<0):S=j8 h:=RK (D6 c) g f
theorem QE:PC λx y:ey=>BT x.r y.r:=NQ.comap ey.r
theorem RL(p:hU)(B:(p.ro.map ey.r).Nodup)(E:p.ro.length<=100000):AI prog 153 [.d (BG p)] (.sl none ((j8 p).map BY)):=by
 refine As func153 Z Z ntmps153 Z Z Z λF u=>(AD (AF ?_));refine V (B7 1 Z Z Z Z Z Z Z) (AB Z Z (AC (AD (AF (AB Z Z (AC (AD (AD ?_))))))));refine JW 3 Z ?_;refine AF (AB Z Z (AC (AX (BC (α:=Nat×List ey) (λq=>⟨51,[(1,(.ptr 1 0 0)),(3,(.d (.sl none (q.2.map BY)))),(4,(.d (AE (q.1:Int))))],[(1,[B3 25 p])]⟩) (λq=>q.1<=p.ro.length/\q.2.Perm (p.ro.take q.1)/\q.2.Pairwise λa b=>¬BT b.r a.r<0) (λq=>p.ro.length-q.1) ((0,[])) (⟨κ _,by simp,List.Pairwise.nil⟩) (AR u [1] Z Z ⟨Z,Z,Z,trivial⟩) ?_))));rintro ⟨k,c⟩ ⟨x,t,v⟩;dsimp only at x t v⊢;refine AD ?_;refine AD (AF (ch Z Z (J (AM Z MD Z Z Z) (J (AQ Z Z Z E3 Z) (J (BU Z No Z) (J (At Z Z Z) (AC (A5 Z (λs=>?_) (λs=>?_)))))))))
 .have j:k<p.ro.length:=BF s;refine AU (AD (AX (AD ?_)));have D:c.length<=100000:=by rw[t.length_eq,η];omega
  refine AF (AB Z Z (AC (AD (AX (BC (α:=Nat) (λm=>⟨51,[(1,(.ptr 1 0 0)),(3,(.d (.sl none (c.map BY)))),(4,(.d (AE (k:Int)))),(5,(.d (AE (m:Int))))],[(1,[B3 25 p])]⟩) (λm=>m<=c.length/\∀y∈c.take m,BT y.r p.ro[k].r<0) (λm=>c.length-m) (0) (⟨κ _,by simp⟩) (AR u [1] Z Z ⟨Z,Z,Z,Z,trivial⟩) ?_)))));rintro m ⟨C,w⟩;refine AD (AD ?_);refine Bq [[],[],[1],[0,1,2],[0,1,2,3],rg 5,rg 5,rg 7,rg 8,rg 9,rg 5,[0,1,2,3,4,10],rg 5,[0,1,2,3,4,10,11,12],[0,1,2,3,4,10,11,12,13],[0,1,2,3,4,10,11,12,13,14],rg 16,rg 17,rg 18] mixed Z (B2 (A7 5 Z Z (A7 3 Z Z (AK [14] Z (BU Z No Z) (BV 3 Z Z Z (A0 4 Z Z (J (At Z Z Z) (AC ⟨Z,?_⟩))))))));refine A0 5 Z Z (ch Z Z (C7 17 Z (λl=>?_) (λl=>?_)))
  .refine AC ⟨Z,?_⟩;refine B2 ?_
   try have i:m<c.length:=BF l
   refine A1 [3,17] [] Z Z (λ_=>BR Z Z Z (FW Z Z)) (A1 [5,17] [] Z Z (λ_=>BR Z Z Z (FW Z Z)) (A1 [18,19,17] [] Z Z (λ_=>BR Z Z Z (Al (m) Z Z (Z) (AP i) No Z Bc Z)) (A1 [20,17] [] Z Z (λ_=>BR Z Z Z (KL Z Qh Z Z Z)) (A1 [21,17] [] Z Z (λ_=>BR Z Z Z (CY Z Z Cf Z)) (A1 [1,17] [] Z Z (λ_=>BR Z Z Z (AM Z MD Z Z Z)) (Ay [23,17] Z Z (λ_=>BR Z Z Z (AQ Z Z Z E3 Z)) ?_))))));refine A1 [4,17] [] Z Z (λ_=>BR Z Z Z (FW Z Z)) (A1 [24,25,17] [] Z Z (λ_=>BR Z Z Z (Al (k) Z Z (Z) (AP j) No Z Bc Z)) (A1 [26,17] [] Z Z (λ_=>BR Z Z Z (KL Z Qh Z Z Z)) (A1 [27,17] [] Z Z (λ_=>BR Z Z Z (CY Z Z Cf Z)) (BV 16 Z Z Z (A0 17 Z Z (AT Z Z Z (J (Aj (Hi c[m].r p.ro[k].r) Z Z) (AC ⟨Z,?_⟩))))))));refine A0 18 Z Z (AT Z Z Z (J (At Z Z Z) (AC ⟨Z,?_⟩)));refine A0 19 Z Z (J (B8 Z Z Z Z) (AC ⟨Z,?_⟩));refine Bb (A5 Z (λo=>?_) (λo=>?_))
   .refine AU (AX (AF (ch Z Z (J (Ad Z Z (AJ (m+1) (by omega)) Z) (AB Z Z (AC ?_))))));exact ⟨m+1,⟨by show m+1<=_;omega,by rw[ψ i];intro y f;rcases υ.1 f with f | f;exact w y f;rw[ξ.1 f];exact o⟩,by show c.length-(m+1)<c.length-m;omega,AR u [1] Z (Z) ⟨Z,Z,Z,Z,trivial⟩⟩
   .refine Aq ?_;have g:∀y,c[m]? =some y->¬BT y.r p.ro[k].r<0:=by first | (intro y f;have z:=(φ.1 f).1;exact absurd z (by have h:=l;omega)) | (intro y f;rw[ω i] at f;injection f with f;rw[<-f];exact o)
    refine Bq [[],[],[],[1,2],[0,1,2,3],[],[5],[],[5,6,7],[5,6,7,8],[5,6,7,8,9],rg 11,[],[],[12,13],rg 15,rg 16] mixed Z (B2 (Cv [] [20] [(34,_)] Z Z (λ_=>Cg (CF 20 Fx Z Z Z Z Z Z Z Z)) (.inr ⟨34,_,Z,Z,Z,Z,Z⟩) Z Z Z Z Z (A7 3 Z Z ?_)));refine A7 5 Z Z (AK [35,36] Z (YD (c) (m) Z Z Z (Z) (by omega) No Bc (λ_=>rfl) Z) (Cv [34,37] [20] [(38,_)] Z Z (λ_=>Cg (Jr (([]:List ey)) (c.take m) Z Z Z Z Z Z (λ_=>rfl) Fx (by simp only[lT,η];omega) Z Z Z Z)) (.inr ⟨38,_,Z,Z,Z,Z,Z⟩) Z Z Z Z Z (AK [1] Z (AM Z MD Z Z Z) (A1 [39] [1] Z Z (λ_=>Aa (AQ Z Z Z E3 Z)) (A7 4 Z Z (AK [40,41] Z (Al (k) Z Z (Z) (AP j) No Z Bc Z) (AK [42] Z (CY Z Z RE Z) (Cv [43] [21] [(44,_)] Z Z (λ_=>Cg (CF 21 Fx Z Z Z Z Z Z Z Z)) (.inr ⟨44,_,Z,Z,Z,Z,Z⟩) Z Z Z Z Z ?_))))))));refine Kj [34] [38,44] [20,21] [(45,_)] Z Z (λ_=>Cg (DN (([]++c.take m)) ([p.ro[k]]) Z Z Z Z Z Z Z Z Fx (by simp only[kN,ζ,η];omega) Z Z Z Z)) (.inr ⟨45,_,Z,Z,Z,Z,Z⟩) Z Z Z Z Z ?_;refine A7 3 Z Z (A7 5 Z Z (AK [46,47] Z (cT (c) (m) Z Z Z (Z) (by omega) No Bc (λ_=>rfl) Z) (BV 15 Z Z Z (A0 16 Z Z ?_))));refine V (Jr ((([]++c.take m)++ [p.ro[k]])) (c.drop m) Z Z Z Z Z Z (λ_=>rfl) Fx (by simp only[kN,Δ,ζ,η,lX];omega) Z Z Z Z) ?_;refine AC ⟨Z,?_⟩;refine A0 17 Z Z (AB Z Z (AC ⟨Z,?_⟩));refine Bb (Fb (emb:=BY) 3 20 ((([]++c.take m)++ [p.ro[k]])++c.drop m) Z Z Z Z Z Z Z (AF (ch Z Z (J (Ad Z Z (AJ (k+1) (by omega)) Z) (AB Z Z (AC ?_))))));exact ⟨(k+1,_),⟨by show k+1<=_;omega,by show (((([]++c.take m)++ [p.ro[k]])++c.drop m):List ey).Perm (p.ro.take (k+1));rw[ψ j,kN];exact Rs.trans (t.append_right _),by show (((([]++c.take m)++ [p.ro[k]])++c.drop m):List ey).Pairwise _;rw[kN];exact Nb QE v w g⟩,by show p.ro.length-(k+1)<p.ro.length-k;omega,AR u [1] Z (Z) ⟨Z,Z,Z,trivial⟩⟩
  .refine AC ⟨Z,?_⟩;refine B2 ?_
   try have i:m<c.length:=BF l
   refine A1 [3,17] [] Z Z (λ_=>Bw Z Z Z Z) (A1 [5,17] [] Z Z (λ_=>Bw Z Z Z Z) (A1 [18,19,17] [] Z Z (λ_=>Bw Z Z Z Z) (A1 [20,17] [] Z Z (λ_=>Bw Z Z Z Z) (A1 [21,17] [] Z Z (λ_=>Bw Z Z Z Z) (A1 [1,17] [] Z Z (λ_=>Bw Z Z Z Z) ?_)))));refine A1 [23,17] [] Z Z (λ_=>Bw Z Z Z Z) (A1 [4,17] [] Z Z (λ_=>Bw Z Z Z Z) (A1 [24,25,17] [] Z Z (λ_=>Bw Z Z Z Z) (A1 [26,17] [] Z Z (λ_=>Bw Z Z Z Z) (A1 [27,17] [] Z Z (λ_=>Bw Z Z Z Z) (BV 16 Z Z Z (A0 17 Z Z (AN Z Z Z Z (AC ⟨Z,?_⟩))))))));refine A0 18 Z Z (AN Z Z Z Z (AC ⟨Z,?_⟩));refine A0 19 Z Z (J (Bx Z Z Z Z) (AC ⟨Z,?_⟩));refine Bb (Cq Z Z (Aq ?_));have g:∀y,c[m]? =some y->¬BT y.r p.ro[k].r<0:=by first | (intro y f;have z:=(φ.1 f).1;exact absurd z (by have h:=l;omega)) | (intro y f;rw[ω i] at f;injection f with f;rw[<-f];exact o)
   refine Bq [[],[],[],[1,2],[0,1,2,3],[],[5],[],[5,6,7],[5,6,7,8],[5,6,7,8,9],rg 11,[],[],[12,13],rg 15,rg 16] mixed Z (B2 (Cv [] [20] [(34,_)] Z Z (λ_=>Cg (CF 20 Fx Z Z Z Z Z Z Z Z)) (.inr ⟨34,_,Z,Z,Z,Z,Z⟩) Z Z Z Z Z (A7 3 Z Z ?_)));refine A7 5 Z Z (AK [35,36] Z (YD (c) (m) Z Z Z (Z) (by omega) No Bc (λ_=>rfl) Z) (Cv [34,37] [20] [(38,_)] Z Z (λ_=>Cg (Jr (([]:List ey)) (c.take m) Z Z Z Z Z Z (λ_=>rfl) Fx (by simp only[lT,η];omega) Z Z Z Z)) (.inr ⟨38,_,Z,Z,Z,Z,Z⟩) Z Z Z Z Z (AK [1] Z (AM Z MD Z Z Z) (A1 [39] [1] Z Z (λ_=>Aa (AQ Z Z Z E3 Z)) (A7 4 Z Z (AK [40,41] Z (Al (k) Z Z (Z) (AP j) No Z Bc Z) (AK [42] Z (CY Z Z RE Z) (Cv [43] [21] [(44,_)] Z Z (λ_=>Cg (CF 21 Fx Z Z Z Z Z Z Z Z)) (.inr ⟨44,_,Z,Z,Z,Z,Z⟩) Z Z Z Z Z ?_))))))));refine Kj [34] [38,44] [20,21] [(45,_)] Z Z (λ_=>Cg (DN (([]++c.take m)) ([p.ro[k]]) Z Z Z Z Z Z Z Z Fx (by simp only[kN,ζ,η];omega) Z Z Z Z)) (.inr ⟨45,_,Z,Z,Z,Z,Z⟩) Z Z Z Z Z ?_;refine A7 3 Z Z (A7 5 Z Z (AK [46,47] Z (cT (c) (m) Z Z Z (Z) (by omega) No Bc (λ_=>rfl) Z) (BV 15 Z Z Z (A0 16 Z Z ?_))));refine V (Jr ((([]++c.take m)++ [p.ro[k]])) (c.drop m) Z Z Z Z Z Z (λ_=>rfl) Fx (by simp only[kN,Δ,ζ,η,lX];omega) Z Z Z Z) ?_;refine AC ⟨Z,?_⟩;refine A0 17 Z Z (AB Z Z (AC ⟨Z,?_⟩));refine Bb (Fb (emb:=BY) 3 20 ((([]++c.take m)++ [p.ro[k]])++c.drop m) Z Z Z Z Z Z Z (AF (ch Z Z (J (Ad Z Z (AJ (k+1) (by omega)) Z) (AB Z Z (AC ?_))))));exact ⟨(k+1,_),⟨by show k+1<=_;omega,by show (((([]++c.take m)++ [p.ro[k]])++c.drop m):List ey).Perm (p.ro.take (k+1));rw[ψ j,kN];exact Rs.trans (t.append_right _),by show (((([]++c.take m)++ [p.ro[k]])++c.drop m):List ey).Pairwise _;rw[kN];exact Nb QE v w g⟩,by show p.ro.length-(k+1)<p.ro.length-k;omega,AR u [1] Z (Z) ⟨Z,Z,Z,trivial⟩⟩
 .refine Aq (AD (AF (ch Z Z (AB Z Z (AC (A4 ?_))))));exact ⟨_,[],[],A2 Z,Z,Z,by rw[RK B (by have A:=t;rw[θ (by have h:=s;omega)] at A;exact A) v],Z⟩
theorem a9(p:hU)(a:Ac p=0)(b:p.ro.length<=100000):AI prog 153 [.d (BG p)] (.sl none ((j8 p).map BY)):=RL p (D6 a) b
theorem Na(p:hU)(b:CT p)(c:Ac p≠0):AI prog 39 [.d (BG p)] (.tup [.sl (some true) [],AE (Ac p)]):=by
 have a:=Vg p b c;refine As func39 Z Z ntmps39 Z Z Z λF f=>(AD (AF (V (B7 1 Z Z Z Z Z Z Z) (AB Z Z (AB Z Z (AC (AD (AF ?_))))))));refine J (Ap Z Z Bp Z Z Z) (J (Aj (a) Z Z) (ch Z Z (J (Cc Z Z Z) (J (Cc Z Z Z) (J (Cc Z Z Z) (AB Z Z (AB Z Z (AB Z Z ?_))))))));refine AC (AD (AF (ch Z Z (ch Z Z (AB Z Z (AB Z Z (AC (A4 ?_))))))));exact ⟨_,[],[],A2 Z,Z,Z,Z,Z⟩
def fl(p:hU):List Int:=BS (hJ p) (JJ p).2 (hJ p).length
theorem K6(p:hU)(b:CT p)(c:Ac p=0):AI prog 39 [.d (BG p)] (.tup [.sl none ((fl p).map AE),AE 0]):=by
 have a:=Xf p b c;refine As func39 Z Z ntmps39 Z Z Z λF f=>(AD (AF (V (B7 1 Z Z Z Z Z Z Z) (AB Z Z (AB Z Z (AC (AD (AF ?_))))))));refine J (Ap Z Z Bp Z Z Z) (J (Aj (a) Z Z) (ch Z Z (J (Cc Z Z Z) (J (Cc Z Z Z) (J (Cc Z Z Z) (AB Z Z (AB Z Z (AB Z Z ?_))))))));refine AC (AD (AF (ch Z Z (ch Z Z (AB Z Z (AB Z Z (AC (A4 ?_))))))));exact ⟨_,[],[],A2 Z,Z,Z,Z,Z⟩
theorem R8(p:hU)(s:p.it.length<=1000):AI prog 54 [.d (BG p)] (.sl none (((ea p.it).map cl.id).map AE)):=by
 have c:=Dg p.it s;have j:=Nr p.it
 obtain ⟨S,r⟩:∃S,ea p.it=S:=⟨_,Z⟩
 rw[r] at c j⊢;refine As func54 Z Z ntmps54 Z Z Z λF l=>(AD (AF (V (B7 1 Z Z Z Z Z Z Z) (AB Z Z (AC (AD ?_))))));refine AF (J (AM Z I7 Z Z Z) (J (AQ Z Z Z Cz Z) (J (Aj (c) Z Z) (AB Z Z (AC (AD (AF (AB Z Z ?_))))))));refine AC (AD (AD (IU 4 900 Ao Z Z Z Z (AF (AB Z Z (AC (AX (BC (α:=Nat×List Int) (λq=>⟨24,[(3,(.d (.sl none (S.map Ah)))),(4,(.own 900 0 q.2.length)),(5,(.d (AE (q.1:Int))))],[(900,[.rowD 3 1 (q.2.map AE)])]⟩) (λq=>q.1<=S.length/\q.2=(S.take q.1).map cl.id) (λq=>S.length-q.1) ((0,[])) (⟨κ _,Z⟩) (AR l [900] Z Z ⟨Z,Z,Z,trivial⟩) ?_))))))));rintro ⟨k,b⟩ ⟨i,g⟩;dsimp only at i g⊢;refine AD (AD (AF (ch Z Z (ch Z Z (J (BU Z F0 Z) (J (At Z Z Z) (AC (A5 Z (λa=>?_) (λa=>?_)))))))))
 .have f:k<S.length:=BF a;refine AU (AD (AX ?_));have o:b.length<=1000:=by rw[g,χ,η];omega
  refine AF (ch Z Z (ch Z Z (ch Z Z (J (Al (k) Z Z (Z) (AP f) F0 Z CL Z) (J (Gw Z QP Z Z Z) (J (BZ Z Z Ai Z) ?_))))));refine V (CF 2 Ao Z Z Z Z Z Z Z Z) (V (DN (b) ([S[k].id]) Z Z Z Z Z Z Z Z Ao (by simp only[ζ];omega) Z Z Z Z) (AB Z Z (AC (AF (ch Z Z (J (Ad Z Z (AJ (k+1) (by omega)) Z) (AB Z Z (AC ?_))))))));exact ⟨(k+1,_),⟨by show k+1<=_;omega,by show _=(S.take (k+1)).map cl.id;rw[EB f,g]⟩,by show S.length-(k+1)<S.length-k;omega,AR l [900] Z (Z) ⟨Z,Z,Z,trivial⟩⟩
 .refine Aq (AD (Fb (emb:=AE) 4 900 b Z Z Z Z Z Z Z (AF (ch Z Z (AB Z Z (AC (A4 ?_)))))));exact ⟨_,[],[],A2 Z,Z,Z,by rw[g,θ (by have h:=a;omega)],Z⟩
def BP(l:List Int)(x:Int):List Int:=l.filter λy=>decide (y≠x)
theorem Qp(l:List Int)(x:Int)(r:l.length<=1000):AI prog 105 [.d (.sl none (l.map AE)),.d (AE x)] (.sl none ((BP l x).map AE)):=by
 refine As func105 Z Z ntmps105 Z Z Z λF j=>(AD (AF (AB Z Z (AC (AD (AF (AB Z Z ?_)))))));refine AC (AD (AD (IU 5 900 Ao Z Z Z Z (AF (AB Z Z (AC (AX (BC (α:=Nat×List Int) (λq=>⟨27,[(0,.d (.sl none (l.map AE))),(1,.d (AE x)),(5,(.own 900 0 q.2.length)),(6,(.d (AE (q.1:Int))))],[(900,[.rowD 3 1 (q.2.map AE)])]⟩) (λq=>q.1<=l.length/\q.2=BP (l.take q.1) x) (λq=>l.length-q.1) ((0,[])) (⟨κ _,Z⟩) (AR j [900] Z Z ⟨Z,Z,Z,Z,trivial⟩) ?_))))))));rintro ⟨k,f⟩ ⟨i,g⟩;dsimp only at i g⊢;refine AD (AD (AF (ch Z Z (ch Z Z (J (BU Z E0 Z) (J (At Z Z Z) (AC (A5 Z (λc=>?_) (λc=>?_)))))))))
 .have a:k<l.length:=BF c;refine AU (AD (AX (AD ?_)));have o:f.length<=1000:=by rw[g];unfold BP;have:=lE (λy=>decide (y≠x)) (l.take k);rw[η] at this;omega
  refine AF (ch Z Z (ch Z Z (J (Al (k) Z Z (Z) (AP a) E0 Z BK Z) (J (BZ Z Z Ai Z) (ch Z Z (J (DJ Z Z Z) (AC (A5 Z (λb=>?_) (λb=>?_)))))))))
  .refine AF (ch Z Z (ch Z Z (ch Z Z (J (Al (k) Z Z (Z) (AP a) E0 Z BK Z) (J (BZ Z Z Ai Z) ?_)))));refine V (CF 1 Ao Z Z Z Z Z Z Z Z) (V (DN (f) ([l[k]]) Z Z Z Z Z Z Z Z Ao (by simp only[ζ];omega) Z Z Z Z) (AB Z Z (AC (AF (ch Z Z (J (Ad Z Z (AJ (k+1) (by omega)) Z) (AB Z Z (AC ?_))))))));exact ⟨(k+1,_),⟨by show k+1<=_;omega,by show _=BP (l.take (k+1)) x;unfold BP;rw[cO a,ϱ (by simpa using b),g];rfl⟩,by show l.length-(k+1)<l.length-k;omega,AR j [900] Z (Z) ⟨Z,Z,Z,Z,trivial⟩⟩
  .refine AU (AF (ch Z Z (J (Ad Z Z (AJ (k+1) (by omega)) Z) (AB Z Z (AC ?_)))));exact ⟨(k+1,_),⟨by show k+1<=_;omega,by show _=BP (l.take (k+1)) x;unfold BP;rw[cO a,ν (by simpa using b),kY,g];rfl⟩,by show l.length-(k+1)<l.length-k;omega,AR j [900] Z (Z) ⟨Z,Z,Z,Z,trivial⟩⟩
 .refine Aq (AD (Fb (emb:=AE) 5 900 f Z Z Z Z Z Z Z (AF (ch Z Z (AB Z Z (AC (A4 ?_)))))));exact ⟨_,[],[],A2 Z,Z,Z,by rw[g,θ (by have h:=c;omega)],Z⟩
def CO(its:List cl)(x:ey)(l:List Int):Int:=max x.n 0+((its.filter λi=>decide (i.id∈l)).map λi=>BO i x.r).sum
theorem XV(b:t<a.length)(x:ey)(l:List Int):CO (a.take (t+1)) x l=CO (a.take t) x l+if a[t].id∈l then BO a[t] x.r else 0:=by grind[CO,cO]
theorem Ls(i:cl)(r:AW): -1000000000000000<=BO i r/\BO i r<=1000000000000000:=by
 unfold BO
 split
 .simp[*,O6]
 .omega
theorem R6(a:List cl)(x:ey)(l:List Int):max x.n 0-a.length*1000000000000000<=CO a x l/\CO a x l<=max x.n 0+a.length*1000000000000000:=by
 unfold CO
 induction a with
 | nil=>simp
 | cons i a b=>
  have c:=Ls i x.r
  grind
theorem fC(p:hU)(x:ey)(l:List Int)(y:p.it.length<=30)(w: -100000000000000000<=x.n/\x.n<=100000000000000000)(z:l.length<=1000)(u:∀i∈p.it,YH i):AI prog 107 [.d (BG p),.d (BY x),.d (.sl none (l.map AE))] (AE (max 0 (-(CO p.it x l)))):=by
 have o:(if 0>x.n then 0 else x.n)=max x.n 0:=by rw[Int.max_def];split<;>split<;>omega
 refine As func107 Z Z ntmps107 Z Z Z λF s=>(AD (AF (V (B7 1 Z Z Z Z Z Z Z) (V (B7 2 Z Z Z Z Z Z Z) (AB Z Z (AC ?_))))));refine AD (AF (J (AM Z Jn Z Z Z) (J (AQ Z Z Z FJ Z) (J (MR Z Z (Z) Z) (AB Z Z (AC (AD (AD ?_))))))));have r:max x.n 0=CO (p.it.take 0) x l:=by unfold CO;simp
 rw[o,r];refine AF (AB Z Z (AC (AX (BC (α:=Nat) (λk=>⟨40,[(2,.d (.sl none (l.map AE))),(3,(.ptr 1 0 0)),(4,(.ptr 2 0 0)),(7,(.d (AE (CO (p.it.take k) x l)))),(8,(.d (AE (k:Int))))],[(1,[.blk 25 [.d (.sl none (p.ro.map BY)),.d (.sl none (p.it.map Ah))]]),(2,[.blk 100 [.d (AE x.r.k),.d (Ak x.r.acc.o),.d (AE x.r.acc.k),.d (Ak x.r.acc.a),.d (Ak x.r.f),.d (Ak x.r.t),.d (AE x.n)]])]⟩) (λk=>k<=p.it.length) (λk=>p.it.length-k) (0) (κ _) (AR s [1,2] Z Z ⟨Z,Z,Z,Z,Z,trivial⟩) ?_))));rintro k t;refine AD ?_;refine AD (AF (ch Z Z (J (AM Z I7 Z Z Z) (J (AQ Z Z Z Cz Z) (J (BU Z F0 Z) (J (At Z Z Z) (AC (A5 Z (λg=>?_) (λg=>?_)))))))))
 .have a:k<p.it.length:=BF g;refine AU (AD (AX (AD ?_)));have c:=u _ (ϑ a);have b:=XV a x l;have j:=R6 (p.it.take k) x l;rw[η] at j;have v:=Ls p.it[k] x.r;refine AF (ch Z Z ?_);refine J (AM Z I7 Z Z Z) (J (AQ Z Z Z Cz Z) (ch Z Z (J (Al (k) Z Z (Z) (AP a) F0 Z CL Z) (J (Gw Z QP Z Z Z) (J (BZ Z Z Ai Z) (J (Aj (L0 l p.it[k].id (by omega)) Z Z) (AC (A5 Z (λf=>?_) (λf=>?_)))))))));refine Bq [[],[],[1],[],[1,2,3],[1,2,3,4],[],[6],[1,2,3,4,5,6,7],rg 9,rg 10] mixed Z (B2 (A7 7 Z Z (AK [3] Z (AM Z I7 Z Z Z) (A1 [28] [1] Z Z (λ_=>Aa (AQ Z Z Z Cz Z)) (A7 8 Z Z ?_)))));refine AK [29,30] Z (Al (k) Z Z (Z) (AP a) F0 Z CL Z) (AK [31] Z (CY Z Z F1 Z) (AK [4] Z (AM Z Qh Z Z Z) (A1 [33] [2] Z Z (λ_=>Aa (Ap Z Z Cf Z Z Z)) (AK [32,34] Z (Aj (E9 p.it[k] x.r (by have h:=c.1;omega) (by have h:=c.2.1;omega) (by have h:=c.2.2;omega)) Z Z) (BV 9 Z Z Z (A0 10 Z Z (J (Ad Z Z (Ξ _ (by omega)) Z) (AC ⟨Z,?_⟩))))))));refine A0 11 Z Z (AB Z Z (AC ⟨Z,?_⟩));refine Bb ?_
  rotate_left
  refine AU ?_
  all_goals
   first | rw[ϱ (by simpa using f)] at b | rw[ν (by simpa using f),Int.add_zero] at b
   rw[<-b];refine AF (ch Z Z (J (Ad Z Z (AJ (k+1) (by omega)) Z) (AB Z Z (AC ?_))));exact ⟨k+1,(by show k+1<=_;omega),by show p.it.length-(k+1)<p.it.length-k;omega,AR s [1,2] Z (Z) ⟨Z,Z,Z,Z,Z,trivial⟩⟩
 .refine Aq (AD ?_);have j:=R6 p.it x l;rw[θ (by have h:=g;omega)];refine AF (ch Z Z (J (Wv Z (Ξ _ (by omega)) Z) (J (MR Z Z (Z) Z) (AB Z Z (AC (A4 ?_))))));exact ⟨_,[],[],A2 Z,Z,Z,by rw[show (max 0 (-(CO p.it x l)):Int)=if 0-CO p.it x l>0 then 0-CO p.it x l else 0 by rw[Int.max_def];split<;>split<;>omega],Z⟩
theorem tF(p:hU)(x:ey)(l:List Int)(a:p.it.length<=30)(f: -4000000000000000<=x.n/\x.n<=4000000000000000)(b:l.length<=1000)(c:∀i∈p.it,YH i):AI prog 107 [.d (BG p),.d (BY x),.d (.sl none (l.map AE))] (AE (max 0 (-(CO p.it x l)))):=fC p x l a (by omega) b c
abbrev iE(o:Option I5):D:= .tup [TZ (o.getD Ny),Am o.isSome]
abbrev Xg(e:I5):AL:= .blk 197 [.d (AE e.id),.d (AE e.re),.d (AE e.r.k),.d (Ak e.r.acc.o),.d (AE e.r.acc.k),.d (Ak e.r.acc.a),.d (Ak e.r.f),.d (Ak e.r.t),.d (AE e.by_)]
def kF(its:List cl)(l:List Int)(id:Int)(x:ey):Option I5:=if id∈hY its x.r then (((hY its x.r).takeWhile λa=>decide (a≠id)).find? λa=>decide (a∉l)).map λa=>⟨id,1,x.r,a⟩ else none
def B6(p:hU)(l:List Int)(id:Int):Option I5:=match (j8 p).findSome? (kF (ea p.it) l id) with
 | some e=>some e
 | none=>((hG p id).af.find? λa=>decide (a∉l)).map λa=>⟨id,2,F2,a⟩
theorem OF{b:Type}{p:b->Bool}:∀{l:List b} {m:Nat} (c:m<l.length),(∀a∈l.take m,p a=true)->p l[m]=false->l.takeWhile p=l.take m
 | a::l,0,_,_,h=>by simp at h;simp[h]
 | a::l,m+1,c,f,h=>by
  have j:p a=true:=f a (by simp);have g:=OF (l:=l) (m:=m) (by simpa using c) (λx i=>f x (by simp[i])) (by simpa using h);rw[List.takeWhile_cons,j,List.take_succ_cons,<-g];rfl
theorem YM{f:Type}{p q:f->Bool}:∀{l:List f} {m:Nat} (g:m<l.length),(∀a∈l.take m,p a=true/\q a=false)->p l[m]=true->q l[m]=true->(l.takeWhile p).find? q=some l[m]
 | a::l,0,_,_,c,b=>by simp at c b;simp[c,b]
 | a::l,m+1,g,i,c,b=>by
  have h:=i a (by simp);have j:=YM (l:=l) (m:=m) (by simpa using g) (λx k=>i x (by simp[k])) (by simpa using c) (by simpa using b);rw[List.takeWhile_cons,h.1];simp only[if_true,List.find?_cons,h.2]
  simpa using j
theorem iy{id:Int}(f:hY T z.r=Q)(b:id∈Q)(c:y<Q.length)(h:∀a∈Q.take y,a≠id/\a∈j)(g:Q[y]=id):kF T j id z=none:=by grind[kF,OF]
theorem iw{id:Int}(h:hY T z.r=Q)(b:id∈Q)(g:y<Q.length)(f:∀a∈Q.take y,a≠id/\a∈j)(k:Q[y]≠id)(i:Q[y]∉j):kF T j id z=some ⟨id,1,z.r,Q[y]⟩:=by
 unfold kF;rw[h,ϱ b,YM g (λa c=>⟨by simpa using (f a c).1,by simpa using (f a c).2⟩) (by simpa using k) (by simpa using i)];rfl
theorem u6{id:Int}(b:id∈Q)(c:y<Q.length)(g:∀a∈Q.take y,a≠id)(f:Q[y]≠id):y+1<Q.length:=by
 rcases Nat.lt_or_ge (y+1) Q.length with h | h
 .exact h
 .exfalso
  have e:Q.take (y+1)=Q:=θ h
  grind[ψ]
theorem ST(p:hU)(Y:CT p)(hE:(p.ro.map ey.r).Nodup)(l:List Int)(id:Int)(hl:l.length<=1000)(hid:id∈p.it.map cl.id):AI prog 106 [.d (BG p),.d (.sl none (l.map AE)),.d (AE id)] (iE (B6 p l id)):=by
 have K:=RL p hE (by have:=Y.r;omega);have z:∀e,(j8 p).findSome? (kF (ea p.it) l id)=some e->B6 p l id=some e:=λe h=>by unfold B6;rw[h]
 have A:(j8 p).findSome? (kF (ea p.it) l id)=none->B6 p l id=((hG p id).af.find? λa=>decide (a∉l)).map λa=>⟨id,2,F2,a⟩:=λh=>by unfold B6;rw[h]
 have hrl:(j8 p).length<=100:=by rw[(qg p).length_eq];exact Y.r
 have hil:=Y.i;have O:=λ(r:AW)=>KS p r (by omega) (λi hi=>by have h:=Y.x i ((Js p.it).mem_iff.1 hi);omega);have M:∀r,(hY (ea p.it) r).length<=30:=λr=>by unfold hY;rw[χ];have:=lE (λi=>decide (BO i r<0)) (ea p.it);rw[Nr] at this;omega
 obtain ⟨T,hfi,U,_⟩:=Zj hid;have W:=Pk p id (by omega);rw[hfi] at W;have hai:=Y.x (hG p id) (by rw[U];exact ϑ T)
 obtain ⟨b,I⟩:∃b,j8 p=b:=⟨_,Z⟩
 obtain ⟨S,hS⟩:∃S,ea p.it=S:=⟨_,Z⟩
 rw[I] at K z A hrl;rw[hS] at z A O M;refine As func106 Z Z ntmps106 Z Z Z λF B=>(AD ?_);refine AF (V (B7 1 Z Z Z Z Z Z Z) (V (CP 2 Ia Z Z Z Z) (AB Z Z (AC (AD (AF (J (Ap Z Z By Z Z Z) (J (Aj (K) Z Z) ?_))))))));refine AB Z Z (AC (AD (AD (AF (AB Z Z (AC (AX (BC (α:=Nat) (λk=>⟨89,[(1,.d (.sl none (l.map AE))),(2,.d (AE id)),(3,(.ptr 1 0 0)),(6,(.ptr 2 0 0)),(8,(.d (.sl none (b.map BY)))),(9,(.d (AE (k:Int))))],[(1,[B3 25 p]),(2,[Xg Ny])]⟩) (λk=>k<=b.length/\∀x∈b.take k,kF S l id x=none) (λk=>b.length-k) (0) (⟨κ _,by simp⟩) (AR B [1,2] Z Z ⟨Z,Z,Z,Z,Z,Z,trivial⟩) ?_))))))));rintro k ⟨hk0,o⟩;refine AD (AD (AF (ch Z Z (ch Z Z (J (BU Z No Z) (J (At Z Z Z) (AC (A5 Z (λH=>?_) (λH=>?_)))))))))
 .have s:k<b.length:=BF H;refine AU (AD (AX (AD ?_)))
  obtain ⟨Q,hQ⟩:∃Q,hY S b[k].r=Q:=⟨_,Z⟩
  have N:=O b[k].r;have L:=M b[k].r;rw[hQ] at N L;refine Bq [[],[],[],[1,2],[1,2,3],[1,2,3,4],rg 6,rg 7] mixed Z (B2 (A1 [3] [1] Z Z (λ_=>Aa (Ap Z Z By Z Z Z)) ?_));refine A7 8 Z Z (A7 9 Z Z (AK [23,24] Z (Al (k) Z Z (Z) (AP s) No Z Bc Z) (AK [25] Z (KL Z Qh Z Z Z) (AK [26] Z (CY Z Z Cf Z) (BV 6 Z Z Z (A0 7 Z Z (J (Aj (N) Z Z) (AC ⟨Z,?_⟩))))))));refine A0 8 Z Z (AB Z Z (AC ⟨Z,?_⟩));refine Bb ?_;refine AD (AD (AF (ch Z Z (ch Z Z (J (Aj (L0 Q id (by omega)) Z Z) (J (Jq Z Z) (AC (A5 Z (λG=>?_) (λG=>?_)))))))))
  .refine Aq (AF (ch Z Z (J (Ad Z Z (AJ (k+1) (by omega)) Z) (AB Z Z (AC ?_)))));exact ⟨k+1,⟨by show k+1<=_;omega,by rw[ψ s];intro e c;rcases υ.1 c with c | c;exact o e c;rw[ξ.1 c];unfold kF;rw[hQ,ν (by simpa using G)]⟩,by show b.length-(k+1)<b.length-k;omega,AR B [1,2] Z (Z) ⟨Z,Z,Z,Z,Z,Z,trivial⟩⟩
  .refine AU (AD ?_);have g:id∈Q:=by simpa using G
   refine AF (AB Z Z (AC (AX (BC (α:=Nat) (λm=>⟨89,[(1,.d (.sl none (l.map AE))),(2,.d (AE id)),(3,(.ptr 1 0 0)),(6,(.ptr 2 0 0)),(8,(.d (.sl none (b.map BY)))),(9,(.d (AE (k:Int)))),(10,(.d (.sl none (Q.map AE)))),(11,(.d (AE (m:Int))))],[(1,[B3 25 p]),(2,[Xg Ny])]⟩) (λm=>m<Q.length/\∀a∈Q.take m,a≠id/\a∈l) (λm=>Q.length-m) (0) (⟨List.length_pos_of_mem g,by simp⟩) (AR B [1,2] Z Z ⟨Z,Z,Z,Z,Z,Z,Z,Z,trivial⟩) ?_))));rintro m ⟨f,u⟩;refine AD (AD ?_);refine AF (ch Z Z (ch Z Z (J (Al (m) Z Z (Z) (AP f) E0 Z BK Z) (J (BZ Z Z Ai Z) (ch Z Z (J (DJ Z Z Z) (AC (A5 Z (λt=>?_) (λt=>?_)))))))))
   .refine AU (AD (AX (AD (AF ?_))));refine ch Z Z (ch Z Z (ch Z Z (J (Al (m) Z Z (Z) (AP f) E0 Z BK Z) (J (BZ Z Z Ai Z) (J (Aj (L0 l Q[m] (by omega)) Z Z) (J (Jq Z Z) (AC (A5 Z (λE=>?_) (λE=>?_)))))))))
    .refine AD (Bq [[],[],[],[1,2],[1,2,3],[1,2,3,4],[],[],[6,7],[6,7,8],rg 10,rg 11,rg 12] mixed Z (B2 (A7 2 Z Z (A7 8 Z Z (A7 9 Z Z (AK [49,50] Z (Al (k) Z Z (Z) (AP s) No Z Bc Z) (AK [51] Z (KL Z Qh Z Z Z) ?_)))))));refine AK [52] Z (CY Z Z Cf Z) (A7 10 Z Z (A7 11 Z Z (AK [54,55] Z (Al (m) Z Z (Z) (AP f) E0 Z BK Z) (AK [56] Z (BZ Z Z Ai Z) (BV 10 Z Z Z (A0 11 Z Z (J (Dz Ia Uh Z Z Z) (AC ⟨Z,?_⟩))))))));refine A0 12 Z Z (V (Bi Z Z Z Z Z Z Z Id) (AC ⟨Z,?_⟩));refine A0 13 Z Z (AB Z Z (AC ⟨Z,?_⟩));refine Bb (A4 ?_);exact ⟨_,[],[],A2 Z,Z,Z,by rw[z _ (Do s o (iw hQ g f u (by simpa using t) (by simpa using E)))];rfl,Z⟩
    .refine AU (AF (ch Z Z (J (Ad Z Z (AJ (m+1) (by omega)) Z) (AB Z Z (AC ?_)))));exact ⟨m+1,⟨u6 g f (λa ha=>(u a ha).1) (by simpa using t),by rw[ψ f];intro e c;rcases υ.1 c with c | c;exact u e c;rw[ξ.1 c];exact ⟨by simpa using t,by simpa using E⟩⟩,by show Q.length-(m+1)<Q.length-m;omega,AR B [1,2] Z (Z) ⟨Z,Z,Z,Z,Z,Z,Z,Z,trivial⟩⟩
   .refine Aq (AF (ch Z Z (J (Ad Z Z (AJ (k+1) (by omega)) Z) (AB Z Z (AC ?_)))));exact ⟨k+1,⟨by show k+1<=_;omega,by rw[ψ s];intro e c;rcases υ.1 c with c | c;exact o e c;rw[ξ.1 c];exact iy hQ g f u (by simpa using t)⟩,by show b.length-(k+1)<b.length-k;omega,AR B [1,2] Z (Z) ⟨Z,Z,Z,Z,Z,Z,trivial⟩⟩
 .refine Aq (AD ?_);have y:=A (Dn (by have e:k=b.length:=(by have h:=H;omega);rw[e,kV] at o;exact o));have R:(p.it.map Ah)[List.idxOf id (p.it.map cl.id)]? =some (Ah (hG p id)):=by rw[AP T,U]
  obtain ⟨X,hX⟩:∃X,hG p id=X:=⟨_,Z⟩
  rw[hX] at R y hai;refine Bq [[],[0],[],[],[2,3],rg 5,rg 6,[],rg 8] mixed Z (B2 (AK [3] Z (AM Z I7 Z Z Z) (A1 [59] [1] Z Z (λ_=>Aa (AQ Z Z Z Cz Z)) (A1 [3] [1] Z Z (λ_=>Aa (Ap Z Z By Z Z Z)) ?_))));refine A7 2 Z Z (AK [61,62] Z (Aj (W) Z Z) (AK [60,63] Z (Al (List.idxOf id (p.it.map cl.id)) Z Z (Z) (R) F0 Z CL Z) (AK [64] Z (CY Z Z F1 Z) (Cv [] [3] [(12,_)] Z Z (λ_=>Cg (CP 3 Zv Z Z Z Z)) (.inr ⟨12,_,Z,Z,Z,Z,Z⟩) Z Z Z Z Z (BV 8 Z Z Z (A0 9 Z Z (V (Bi Z Z Z Z Z Z Z CL) (AC ⟨Z,?_⟩))))))));refine Bb (AD (AD (AF (AB Z Z (AC (AX (BC (α:=Nat) (λj=>⟨89,[(1,.d (.sl none (l.map AE))),(2,.d (AE id)),(6,(.ptr 2 0 0)),(12,(.ptr 3 0 0)),(13,(.d (AE (j:Int))))],[(2,[Xg Ny]),(3,[.blk 93 [.d (AE X.id),.d (AE X.pr),.d (AE X.sq),.d (.sl none (X.po.map Bd)),.d (.sl none (X.pa.map Cy)),.d (.sl none (X.af.map AE))]])]⟩) (λj=>j<=X.af.length/\∀a∈X.af.take j,a∈l) (λj=>X.af.length-j) (0) (⟨κ _,by simp⟩) (AR B [2,3] Z Z ⟨Z,Z,Z,Z,Z,trivial⟩) ?_)))))));rintro j ⟨hj0,v⟩;refine AD ?_;refine AD (AF (ch Z Z (J (AM Z DD Z Z Z) (J (AQ Z Z Z BL Z) (J (BU Z E0 Z) (J (At Z Z Z) (AC (A5 Z (λD=>?_) (λD=>?_)))))))))
  .have w:j<X.af.length:=BF D;refine AU (AD (AX (AD (AF (ch Z Z ?_)))));refine J (AM Z DD Z Z Z) (J (AQ Z Z Z BL Z) (ch Z Z (J (Al (j) Z Z (Z) (AP w) E0 Z BK Z) (J (BZ Z Z Ai Z) (J (Aj (L0 l X.af[j] (by omega)) Z Z) (J (Jq Z Z) (AC (A5 Z (λC=>?_) (λC=>?_)))))))))
   .refine AD (AF (ch Z Z (J (AM Z DD Z Z Z) ?_)));refine J (AQ Z Z Z BL Z) (ch Z Z (J (Al (j) Z Z (Z) (AP w) E0 Z BK Z) (J (BZ Z Z Ai Z) (J (Dz Ia Uh Z Z Z) (V (Bi Z Z Z Z Z Z Z Id) (AB Z Z (AC (A4 ?_))))))));exact ⟨_,[],[],A2 Z,Z,Z,by rw[y,Jj w (λx hx=>by simpa using v x hx) (by simpa using C)];rfl,Z⟩
   .refine AU (AF (ch Z Z (J (Ad Z Z (AJ (j+1) (by omega)) Z) (AB Z Z (AC ?_)))));exact ⟨j+1,⟨by show j+1<=_;omega,by rw[ψ w];intro e c;rcases υ.1 c with c | c;exact v e c;rw[ξ.1 c];simpa using C⟩,by show X.af.length-(j+1)<X.af.length-j;omega,AR B [2,3] Z (Z) ⟨Z,Z,Z,Z,Z,trivial⟩⟩
  .refine Aq (AD (AF (J (Dz Ia Uh Z Z Z) (V (Bi Z Z Z Z Z Z Z Id) (AB Z Z (AC (A4 ?_)))))));exact ⟨_,[],[],A2 Z,Z,Z,by rw[y,HU (λx hx=>by have e:j=X.af.length:=(by have h:=D;omega);rw[e,kV] at v;simpa using v x hx)];rfl,Z⟩
theorem bt(p:hU)(c:CT p)(f:Ac p=0)(l:List Int)(id:Int)(b:l.length<=1000)(a:id∈p.it.map cl.id):AI prog 106 [.d (BG p),.d (.sl none (l.map AE)),.d (AE id)] (iE (B6 p l id)):=ST p c (D6 f) l id b a
def In(its its0:List cl)(l:List Int)(x:ey):Option I5:=if CO its0 x l<0 then ((hY its x.r).reverse.find? λa=>decide (a∈l)).map λa=>⟨a,0,x.r,-1⟩ else none
def EQ(p:hU)(l:List Int):Option I5:=match l.findSome? (B6 p l) with
 | some e=>some e
 | none=>(j8 p).findSome? (In (ea p.it) p.it l)
theorem eB{p:u->Bool}{Q:List u}(b:y<Q.length)(f:∀a∈Q.drop (y+1),p a=false)(c:p Q[y]=true):Q.reverse.find? p=some Q[y]:=by
 have e:Q.reverse=(Q.drop (y+1)).reverse++(Q[y]::(Q.take y).reverse):=by
  simp
 grind
theorem f8(p:hU)(y:CT p)(hE:Ac p=0)(l:List Int)(hl:l.length<=1000)(W:∀id∈l,id∈p.it.map cl.id):AI prog 104 [.d (BG p),.d (.sl none (l.map AE))] (iE (EQ p l)):=by
 have K:=a9 p hE (by have:=y.r;omega);have hbr:∀e,l.findSome? (B6 p l)=some e->EQ p l=some e:=λe h=>by unfold EQ;rw[h]
 have z:l.findSome? (B6 p l)=none->EQ p l=(j8 p).findSome? (In (ea p.it) p.it l):=λh=>by unfold EQ;rw[h]
 have Y:(j8 p).length<=100:=by rw[(qg p).length_eq];exact y.r
 have I:∀x∈j8 p,-4000000000000000<=x.n/\x.n<=4000000000000000:=(Y6 y hE).n;have hil:=y.i;have O:=λ(r:AW)=>KS p r (by omega) (λi hi=>by have h:=y.x i ((Js p.it).mem_iff.1 hi);omega);have M:∀r,(hY (ea p.it) r).length<=30:=λr=>by unfold hY;rw[χ];have:=lE (λi=>decide (BO i r<0)) (ea p.it);rw[Nr] at this;omega
 obtain ⟨b,H⟩:∃b,j8 p=b:=⟨_,Z⟩
 obtain ⟨S,hS⟩:∃S,ea p.it=S:=⟨_,Z⟩
 rw[H] at K z Y I;rw[hS] at z O M;refine As func104 Z Z ntmps104 Z Z Z λF A=>(AD (AF (V (B7 1 Z Z Z Z Z Z Z) (V (CP 2 Ia Z Z Z Z) ?_))));refine AB Z Z (AC (AD (AD (AF (AB Z Z (AC (AX (BC (α:=Nat) (λk=>⟨78,[(1,.d (.sl none (l.map AE))),(2,(.ptr 1 0 0)),(4,(.ptr 2 0 0)),(6,(.d (AE (k:Int))))],[(1,[B3 25 p]),(2,[Xg Ny])]⟩) (λk=>k<=l.length/\∀x∈l.take k,B6 p l x=none) (λk=>l.length-k) (0) (⟨κ _,by simp⟩) (AR A [1,2] Z Z ⟨Z,Z,Z,Z,trivial⟩) ?_))))))));rintro k ⟨hk0,t⟩;refine AD (AD (AF (ch Z Z (ch Z Z (J (BU Z E0 Z) (J (At Z Z Z) (AC (A5 Z (λG=>?_) (λG=>?_)))))))))
 .have u:k<l.length:=BF G;refine AU (AD (AX (AD ?_)));have hbl:=bt p y hE l l[k] hl (W _ (ϑ u));refine Bq [[],[],[],[],[2,3],[2,3,4],rg 6,rg 7,rg 8,rg 8,[],[0,1,2,3,4,5,6,7,8,10],rg 12] mixed Z (B2 (A1 [2] [1] Z Z (λ_=>Aa (Ap Z Z By Z Z Z)) (A7 1 Z Z (A7 1 Z Z (A7 6 Z Z (AK [22,23] Z (Al (k) Z Z (Z) (AP u) E0 Z BK Z) (AK [24] Z (BZ Z Z Ai Z) (AK [20,21,25] Z (Aj (hbl) Z Z) ?_))))))));refine A7 26 Z Z (AK [19] Z (Cc Z Z Z) (AK [19] Z (Cc Z Z Z) (Cv [] [3] [(7,_)] Z Z (λ_=>Cg (CP 3 Ia Z Z Z Z)) (.inr ⟨7,_,Z,Z,Z,Z,Z⟩) Z Z Z Z Z (Cv [7,27] [3] [] Z Z (λ_=>Cg (Bi Z Z Z Z Z Z Z Id)) (.inl ⟨Z,Z⟩) Z Z Z Z Z (BV 12 Z Z Z (A0 13 Z Z (AB Z Z (AC ⟨Z,?_⟩))))))));refine Bb (AD (AF ?_))
  cases hbk:B6 p l l[k]
  .refine ch Z Z (AC (Cq Z (Z) (AU (AF (ch Z Z (J (Ad Z Z (AJ (k+1) (by omega)) Z) (AB Z Z (AC ?_))))))));exact ⟨k+1,⟨by show k+1<=_;omega,by rw[ψ u];intro e f;rcases υ.1 f with f | f;exact t e f;rw[ξ.1 f];exact hbk⟩,by show l.length-(k+1)<l.length-k;omega,AR A [1,2] Z (Z) ⟨Z,Z,Z,Z,trivial⟩⟩
  .refine ch Z Z ?_;refine AC (CM Z (Z) (AD (AF (J (Ap Z Z dm Z Z Z) (V (Bi Z Z Z Z Z Z Z Id) (AB Z Z (AC (A4 ?_))))))));exact ⟨_,[],[],A2 Z,Z,Z,by rw[hbr _ (Do u t hbk)];rfl,Z⟩
 .refine Aq (AD ?_);have U:=z (Dn (by have e:k=l.length:=(by have h:=G;omega);rw[e,kV] at t;exact t));refine AF (J (Ap Z Z By Z Z Z) (J (Aj (K) Z Z) ?_));refine AB Z Z (AC (AD (AD (AF (AB Z Z (AC (AX (BC (α:=Nat) (λj=>⟨78,[(1,.d (.sl none (l.map AE))),(2,(.ptr 1 0 0)),(4,(.ptr 2 0 0)),(9,(.d (.sl none (b.map BY)))),(10,(.d (AE (j:Int))))],[(1,[B3 25 p]),(2,[Xg Ny])]⟩) (λj=>j<=b.length/\∀x∈b.take j,In S p.it l x=none) (λj=>b.length-j) (0) (⟨κ _,by simp⟩) (AR A [1,2] Z Z ⟨Z,Z,Z,Z,Z,trivial⟩) ?_))))))));rintro j ⟨hj0,o⟩;refine AD (AD (AF (ch Z Z (ch Z Z (J (BU Z No Z) (J (At Z Z Z) (AC (A5 Z (λE=>?_) (λE=>?_)))))))))
  .have g:j<b.length:=BF E;refine AU (AD (AX (AD (AD ?_))));have X:=I _ (ϑ g);have R:=tF p b[j] l hil X hl (λi hi=>y.x i hi);refine Bq [[],[],[],[1,2],[1,2,3],[],rg 6,rg 7] mixed Z (B2 (A1 [2] [1] Z Z (λ_=>Aa (Ap Z Z By Z Z Z)) ?_));refine A7 9 Z Z (A7 10 Z Z (AK [40,41] Z (Al (j) Z Z (Z) (AP g) No Z Bc Z) (AK [42] Z (CY Z Z RE Z) (A7 1 Z Z (BV 6 Z Z Z (A0 7 Z Z (J (Aj (R) Z Z) (AC ⟨Z,?_⟩))))))));refine A0 8 Z Z (J (Fa Z Z Z) (AC ⟨Z,?_⟩));refine Bb (A5 Z (λD=>?_) (λD=>?_))
   .refine Aq (AF (ch Z Z (J (Ad Z Z (AJ (j+1) (by omega)) Z) (AB Z Z (AC ?_)))));exact ⟨j+1,⟨by show j+1<=_;omega,by rw[ψ g];intro e f;rcases υ.1 f with f | f;exact o e f;rw[ξ.1 f];unfold In;rw[ν (by have h:=D;rw[Int.max_def] at h;split at h<;>omega)]⟩,by show b.length-(j+1)<b.length-j;omega,AR A [1,2] Z (Z) ⟨Z,Z,Z,Z,Z,trivial⟩⟩
   .refine AU (AD ?_);have T:CO p.it b[j] l<0:=by have h:=D;rw[Int.max_def] at h;split at h<;>omega
    obtain ⟨Q,hQ⟩:∃Q,hY S b[j].r=Q:=⟨_,Z⟩
    have N:=O b[j].r;have L:=M b[j].r;rw[hQ] at N L;refine Bq [[],[],[],[1,2],[1,2,3],[1,2,3,4],rg 6,rg 7] mixed Z (B2 (A1 [2] [1] Z Z (λ_=>Aa (Ap Z Z By Z Z Z)) ?_));refine A7 9 Z Z (A7 10 Z Z (AK [48,49] Z (Al (j) Z Z (Z) (AP g) No Z Bc Z) (AK [50] Z (KL Z Qh Z Z Z) (AK [51] Z (CY Z Z Cf Z) (BV 6 Z Z Z (A0 7 Z Z (J (Aj (N) Z Z) (AC ⟨Z,?_⟩))))))));refine A0 8 Z Z (AB Z Z (AC ⟨Z,?_⟩));refine Bb ?_;refine AD (AF (ch Z Z (J (BU Z E0 Z) (J (ME Z Z (Ξ _ (by omega)) Z) (AB Z Z (AC (AX (BC (α:=Nat) (λc=>⟨78,[(1,.d (.sl none (l.map AE))),(2,(.ptr 1 0 0)),(4,(.ptr 2 0 0)),(9,(.d (.sl none (b.map BY)))),(10,(.d (AE (j:Int)))),(11,(.d (.sl none (Q.map AE)))),(12,(.d (AE ((c:Int)-1))))],[(1,[B3 25 p]),(2,[Xg Ny])]⟩) (λc=>c<=Q.length/\∀a∈Q.drop c,a∉l) (λc=>c) (Q.length) (⟨Θ _,by simp⟩) (AR A [1,2] Z Z ⟨Z,Z,Z,Z,Z,Z,Z,trivial⟩) ?_))))))));rintro c ⟨hc0,v⟩;refine AD (AD (AF (ch Z Z (J (EE Z Z Z) (AC (A5 Z (λC=>?_) (λC=>?_)))))))
    .obtain ⟨m,rfl⟩:∃m,c=m+1:=⟨c-1,by have h:=C;omega⟩
     refine AU (AD (AX (AD ?_)));have s:m<Q.length:=by omega
     have hmc:((m+1:Nat):Int)-1=(m:Int):=by omega
     rw[hmc];refine AF (ch Z Z (ch Z Z (ch Z Z (J (Al (m) Z Z (Z) (AP s) E0 Z BK Z) (J (BZ Z Z Ai Z) (J (Aj (L0 l Q[m] (by omega)) Z Z) (AC (A5 Z (λB=>?_) (λB=>?_)))))))))
     .refine AD (Bq [[],[],[0,1],[0,1,2],[],[],[4,5],[4,5,6],[4,5,6,7],rg 9,rg 10,rg 11] mixed Z (B2 (A7 11 Z Z (A7 12 Z Z (AK [67,68] Z (Al (m) Z Z (Z) (AP s) E0 Z BK Z) (AK [69] Z (BZ Z Z Ai Z) ?_))))));refine A7 9 Z Z (A7 10 Z Z (AK [71,72] Z (Al (j) Z Z (Z) (AP g) No Z Bc Z) (AK [73] Z (KL Z Qh Z Z Z) (AK [74] Z (CY Z Z Cf Z) (BV 9 Z Z Z (A0 10 Z Z (J (Dz Ia Uh Z Z Z) (AC ⟨Z,?_⟩))))))));refine A0 11 Z Z (V (Bi Z Z Z Z Z Z Z Id) (AC ⟨Z,?_⟩));refine A0 12 Z Z (AB Z Z (AC ⟨Z,?_⟩));refine Bb (A4 ?_);exact ⟨_,[],[],A2 Z,Z,Z,by rw[U,Do g o (by unfold In;rw[ϱ T,hQ,eB s (λa w=>by simpa using v a w) (by simpa using B)];rfl)];rfl,Z⟩
     .refine AU (AF (ch Z Z (J (ME Z Z (Ξ _ (by omega)) Z) (AB Z Z (AC ?_)))));exact ⟨m,⟨by omega,by rw[mM s];intro a w;rcases jt.1 w with w | w;rw[w];simpa using B;exact v a w⟩,by show m<m+1;omega,AR A [1,2] Z (Z) ⟨Z,Z,Z,Z,Z,Z,Z,trivial⟩⟩
    .refine Aq (AF (ch Z Z (J (Ad Z Z (AJ (j+1) (by omega)) Z) (AB Z Z (AC ?_)))));exact ⟨j+1,⟨by show j+1<=_;omega,by rw[ψ g];intro e f;rcases υ.1 f with f | f;exact o e f;rw[ξ.1 f];unfold In;rw[ϱ T,hQ,HU (λa w=>by have h0:c=0:=(by have h:=C;omega);subst h0;rw[List.drop_zero] at v;simpa using v a (List.mem_reverse.1 w))];rfl⟩,by show b.length-(j+1)<b.length-j;omega,AR A [1,2] Z (Z) ⟨Z,Z,Z,Z,Z,trivial⟩⟩
  .refine Aq (AD (AF (J (Dz Ia Uh Z Z Z) (V (Bi Z Z Z Z Z Z Z Id) (AB Z Z (AC (A4 ?_)))))));exact ⟨_,[],[],A2 Z,Z,Z,by rw[U,Dn (by have e:j=b.length:=(by have h:=E;omega);rw[e,kV] at o;exact o)];rfl,Z⟩
def KR(p:hU):Nat->List Int->List I5×List Int
 | 0,l=>([],l)
 | f+1,l=>match EQ p l with
  | none=>([],l)
  | some e=>(e::(KR p f (BP l e.id)).1,(KR p f (BP l e.id)).2)
def Vi(p:hU):List I5×List Int:=KR p (ea p.it).length ((ea p.it).map cl.id)
theorem MW(a:EQ h j=none):KR h U j=([],j):=by
 cases U with
 | zero=>rfl
 | succ U=>unfold KR;rw[a]
theorem RG{f:Nat}(a:EQ h j=some x):KR h (f+1) j=(x::(KR h f (BP j x.id)).1,(KR h f (BP j x.id)).2):=by
 show (match EQ h j with | none=>_ | some x=>_)=_;rw[a]
theorem SU{id:Int}(c:B6 h j id=some x):x.id=id:=by
 unfold B6 at c
 split at c
 .rename_i i g
  injection c with c;subst c
  obtain ⟨b,_,f⟩:=sU g;unfold kF at f
  split at f
  .obtain ⟨a,_,rfl⟩:=Option.map_eq_some_iff.1 f;rfl
  .cases f
 .obtain ⟨a,_,rfl⟩:=Option.map_eq_some_iff.1 c;rfl
theorem az(c:EQ h j=some x):x.id∈j:=by
 unfold EQ at c
 split at c
 .rename_i o i
  injection c with c;subst c
  obtain ⟨b,g,f⟩:=sU i;rw[SU f];exact g
 .obtain ⟨b,_,f⟩:=sU c;unfold In at f
  split at f
  .obtain ⟨a,k,rfl⟩:=Option.map_eq_some_iff.1 f
   grind
  .cases f
theorem UB{x:Int}(h:x∈j):(BP j x).length+1<=j.length:=by
 unfold BP
 have:(j.filter λy=>decide (y≠x)).length<j.length:=by
  simp_all
 omega
theorem NT{x y:Int}(h:y∈BP j x):y∈j:=(Φ.1 h).1
theorem Vh(p:hU)(B:CT p)(G:Ac p=0):AI prog 52 [.d (BG p)] (.tup [.sl none ((Vi p).2.map AE),.sl none ((Vi p).1.map TZ)]):=by
 have D:=B.i;have r:=R8 p (by omega);have t:=λ(l:List Int) (I:l.length<=1000) (H:∀id∈l,id∈p.it.map cl.id)=>f8 p B G l I H;have v:=Nr p.it;have g:∀id∈(ea p.it).map cl.id,id∈p.it.map cl.id:=λid h=>((Js p.it).map cl.id).mem_iff.1 h;unfold Vi
 obtain ⟨S,E⟩:∃S,ea p.it=S:=⟨_,Z⟩
 rw[E] at r v g⊢;have x:=t (S.map cl.id) (by rw[χ];omega) g;refine As func52 Z Z ntmps52 Z Z Z λF A=>(AD (AF (V (B7 1 Z Z Z Z Z Z Z) (AB Z Z (AB Z Z ?_)))));refine AC (AD (AF (J (Ap Z Z By Z Z Z) (J (Aj (r) Z Z) (AB Z Z (AC (AD (AF ?_))))))));refine AB Z Z (AC (AD (AD (AF (J (Ap Z Z By Z Z Z) (ch Z Z (J (Aj (x) Z Z) (ch Z Z ?_))))))));refine J (Cc Z Z Z) (J (Cc Z Z Z) (V (CP 2 Ia Z Z Z Z) (V (Bi Z Z Z Z Z Z Z Id) (AB Z Z (AC (AX (IU 5 900 df Z Z Z Z (BC (α:=List Int×List I5×Nat×Option I5) (λq=>⟨34,[(1,(.ptr 1 0 0)),(4,(.d (.sl none (q.1.map AE)))),(5,(.own 900 0 q.2.1.length)),(6,(.ptr 2 0 0)),(7,(.d (Am q.2.2.2.isSome)))],[(1,[B3 25 p]),(2,[Xg (q.2.2.2.getD Ny)]),(900,[.rowD 197 9 (q.2.1.map TZ)])]⟩) (λq=>EQ p q.1=q.2.2.2/\q.1.length<=q.2.2.1/\q.2.1.length+q.2.2.1<=30/\(∀id∈q.1,id∈p.it.map cl.id)/\q.2.1++(KR p q.2.2.1 q.1).1=(KR p S.length (S.map cl.id)).1/\(KR p q.2.2.1 q.1).2=(KR p S.length (S.map cl.id)).2) (λq=>q.2.2.1) ((S.map cl.id,[],S.length,EQ p (S.map cl.id))) (⟨Z,by show (S.map cl.id).length<=S.length;rw[χ];exact Θ _,by show 0+S.length<=30;omega,g,Z,Z⟩) (AR A [1,2,900] Z Z ⟨Z,Z,Z,Z,Z,trivial⟩) ?_))))))));rintro ⟨l,a,f,o⟩ ⟨u,y,z,i,c,b⟩;dsimp only at u y z i c b⊢;refine AD (AD (AF (ch Z Z (AC (KB Z (λj=>?_) (λj=>?_))))))
 .obtain ⟨e,rfl⟩:∃e,o=some e:=Option.isSome_iff_exists.1 (by simpa using j);refine AU (AD (AX ?_));have C:=UB (az u)
  obtain ⟨f2,rfl⟩:∃f2,f=f2+1:=⟨f-1,by omega⟩
  have k:=RG (f:=f2) u;have w:=t (BP l e.id) (by omega) (λid h=>i id (NT h));refine Bq [[],[],[1],[0,1,2],[],[],[5],rg 7,rg 8,rg 9] mixed Z (B2 (A7 4 Z Z (AK [6] Z (AM Z pQ Z Z Z) ?_)));refine A1 [24] [2] Z Z (λ_=>Aa (AQ Z Z Z Ai Z)) (AK [23,25] Z (Aj (Qp l e.id (by omega)) Z Z) (A7 5 Z Z (A1 [6] [2] Z Z (λ_=>Aa (Ap Z Z dm Z Z Z)) (Cv [28] [5] [(29,_)] Z Z (λ_=>Cg (CF 5 df Z Z Z Z Z Z Z Z)) (.inr ⟨29,_,Z,Z,Z,Z,Z⟩) Z Z Z Z Z (BV 7 Z Z Z (A0 8 Z Z (V (DN (a) ([e]) Z Z Z Z Z Z Z Z df (by simp only[ζ];omega) Z Z Z Z) (AC ⟨Z,?_⟩))))))));refine A0 9 Z Z (AB Z Z (AC ⟨Z,?_⟩));refine A0 10 Z Z (AB Z Z (AC ⟨Z,?_⟩));refine Bb (AD (AD (AF (J (Ap Z Z dm Z Z Z) (AC ?_)))));refine uh [1,900] A Z Z ?_;refine AF (V (CP 2 Ia Z Z Z Z) (V (Bi Z Z Z Z Z Z Z Id) (AC (AF ?_))));refine J (Ap Z Z By Z Z Z) (ch Z Z (J (Aj (w) Z Z) (ch Z Z (J (Cc Z Z Z) (J (Cc Z Z Z) (V (Bi Z Z Z Z Z Z Z Id) (AB Z Z (AC ?_))))))));exact ⟨(BP l e.id,a++ [e],f2,EQ p (BP l e.id)),⟨Z,by show (BP l e.id).length<=f2;omega,by show (a++ [e]).length+f2<=30;rw[Δ];simp;omega,λid h=>i id (NT h),by show (a++ [e])++(KR p f2 (BP l e.id)).1=_;rw[lh,<-c,k];rfl,by show (KR p f2 (BP l e.id)).2=_;rw[<-b,k]⟩,by show f2<f2+1;omega,AR A [1,2,900] Z (Z) ⟨Z,Z,Z,Z,Z,trivial⟩⟩
 .refine Aq (AD ?_);have s:EQ p l=none:=by rw[u];simpa using j
  rw[MW s,kY] at c;rw[MW s] at b;refine Fb (emb:=TZ) 5 900 a Z Z Z Z Z Z Z (AF (ch Z Z (ch Z Z (AB Z Z (AB Z Z (AC (A4 ?_)))))));exact ⟨_,[],[],A2 Z,Z,Z,by rw[<-c,<-b],Z⟩
theorem GL{b:Type}{p q:b->Bool}:∀{l:List b},(∀x∈l,p x=q x)->l.find? p=l.find? q
 | [],_=>rfl
 | a::l,h=>by
  rw[List.find?_cons,List.find?_cons,h a (k7 ..),GL λx c=>h x (kw _ c)]
theorem L1{b c:Type}{f g:b->Option c}:∀{l:List b},(∀x∈l,f x=g x)->l.findSome? f=l.findSome? g
 | [],_=>rfl
 | a::l,h=>by
  rw[qz,qz,h a (k7 ..),L1 λx i=>h x (kw _ i)]
theorem Mv{b g:Type}{f:b->Option g}{p:b->Bool}:∀{l:List b},(∀x∈l,p x=false->f x=none)->(l.filter p).findSome? f=l.findSome? f
 | [],_=>rfl
 | a::l,h=>by
  have c:=Mv (f:=f) (p:=p) (l:=l) λx i=>h x (kw _ i);rw[l5]
  cases hp:p a with
  | true=>rw[ϱ Z,qz,qz,c]
  | false=>rw[ν (by simp),c,qz,h a (k7 ..) hp]
theorem Nj{c b f:Type}{g:c->b}{p:b->Bool}{h:b->f}:∀{l:List c},((l.map g).find? p).map h=l.findSome? λx=>if p (g x)=true then some (h (g x)) else none
 | []=>rfl
 | a::l=>by
  rw[k6,List.find?_cons,qz]
  cases hp:p (g a) with
  | true=>rw[ϱ rfl];rfl
  | false=>rw[ν (by simp),<-Nj (l:=l)]
theorem Tm{x:cl}(h:Aw x=0)(b:CD G=0):Ds (dd x) G=BO x G:=by
 have a:dd x=NE (js x):=ϱ h;have c:BO x G=Ag (js x) G:=ϱ ⟨h,b⟩;rw[a,c]
 by_cases f:Ag (js x) G=0
 .grind[ES,HX,ED]
 .refine cR (by rw[<-a];exact cN x) ?_
  grind[HX,ED,G9]
theorem KG{l:List ey}(h:D7 l=0):∀x∈l,CD x.r=0:=λx b=>by
 have f:=Tu.1 h;obtain ⟨j,a,rfl⟩:=kh b;have:=f j (Ω.2 a);unfold Il at this;rw[Dy IY a] at this
 split at this
 .contradiction
 .rename_i c
  exact Classical.byContradiction λh=>c h
theorem Et{l:List cl}(h:FK l=0):∀x∈l,Aw x=0:=λx b=>by
 have f:=Tu.1 h;obtain ⟨j,a,rfl⟩:=kh b;have:=f j (Ω.2 a);unfold K8 at this;rw[Dy ek a] at this
 split at this
 .contradiction
 .rename_i c
  exact Classical.byContradiction λh=>c h
theorem eW(b:∀x∈a,Aw x=0)(c:CD G=0):hY a G=(iX (a.map dd) G).map λi=>(a.getD i ek).id:=by
 unfold hY iX
 have e:a=(List.range a.length).map λi=>a.getD i ek:=by
  apply lg (by simp)
  grind
 conv=>lhs;rw[e]
 rw[List.filter_map,jw,χ]
 congr 1
 grind[lr,Tm]
theorem Me(g:(a.map cl.id).Nodup)(c:Nat->Bool)(f:i<a.length):(a.getD i ek).id∈BS a c a.length↔c i=true:=by
 unfold BS;rw[Γ]
 constructor
 .rintro ⟨j,h,e⟩;obtain ⟨l,o⟩:=Φ.1 h;have b:=Ω.1 l;rw[Dy ek f,Dy ek b] at e
  have:j=i:=by
   have k:(a.map cl.id)[j]'(by simpa using b)=(a.map cl.id)[i]'(by simpa using f):=by
    grind
   exact (List.getElem_inj g).1 k
  grind
 grind
theorem xg{m:List Int}(h:j.Perm m):j.sum=m.sum:=by
 induction h with
 | nil=>rfl
 | cons x _ a=>rw[lS,lS,a]
 | swap x y j=>simp only[lS];omega
 | trans _ _ c b=>rw[c,b]
theorem YY{b:Type}{p:b->Bool}{f:b->Int}:∀{l:List b},((l.filter p).map f).sum=(l.map λi=>if p i=true then f i else 0).sum
 | []=>rfl
 | a::l=>by
  rw[l5,k6,lS,<-YY (l:=l)]
  cases hp:p a with
  | true=>rw[ϱ Z,ϱ Z,k6,lS]
  | false=>rw[ν (by simp),ν (by simp),Int.zero_add]
theorem Tq(h:i<a.length):(iW c a f).nd.getD i CV=Jb (c.map ey.r) a f i:=by
 show ((List.range a.length).map _).getD i CV=_
 grind
theorem OS(h:i∈iX k G):i<k.length:=Ω.1 (Φ.1 h).1
theorem HT(a:List cl):a=(List.range a.length).map λi=>a.getD i ek:=by
 apply lg (by simp)
 grind
structure mS (p:hU) (ros:List ey) (its:List cl):Prop where
 e:Ac p=0
 f:CT p
 s:vG ros its
 hr:j8 p=ros
 hi:ea p.it=its
 v:∀x∈its,Aw x=0
 w:∀x∈ros,CD x.r=0
 up:ros.Pairwise λa b=>BT a.r b.r<0
theorem eX(c:Ac h=0)(j:CT h):mS h (j8 h) (ea h.it):=by
 have k:hJ h=ea h.it:=ϱ c;have g:=Y6 j c;rw[k] at g;refine ⟨c,j,g,Z,Z,λx f=>Et (IL c).2.1 x ((Js h.it).mem_iff.1 f),λx f=>KG (IL c).1 x ((qg h).mem_iff.1 f),?_⟩;have i:=g.r;rw[List.Nodup,ky] at i;refine ((NY h).and i).imp λ{a b} ⟨r,l⟩=>?_;have k:=NQ.anti a.r b.r;have o:BT a.r b.r≠0:=λe=>l (Dq.1 e);omega
theorem Ul(b:mS h c a)(j:Nat->Bool)(s:z∈c):CO h.it z (BS a j a.length)=max z.n 0+E2 (a.map dd) j z.r:=by
 unfold CO
 congr 1
 have u:h.it.Perm a:=by rw[<-b.hi];exact (Js h.it).symm
 rw[xg ((u.filter _).map _)]
 obtain ⟨l,r⟩:∃l,BS a j a.length=l:=⟨_,Z⟩
 rw[r]
 have e:((a.filter λi=>decide (i.id∈l)).map λi=>BO i z.r).sum=((List.range a.length).map λi=>if decide ((a.getD i ek).id∈l)=true then BO (a.getD i ek) z.r else 0).sum:=by
  conv=>lhs;rw[HT a]
  rw[List.filter_map,jw,YY];rfl
 have k:(a.map dd).length=a.length:=by simp
 rw[e];unfold E2;rw[k]
 congr 1
 refine kQ λi v=>?_;have f:=Ω.1 v;have g:=Me b.s.i j f;rw[r] at g;have t:=Tm (b.v (a.getD i ek) (by rw[Dy ek f];exact ϑ f)) (b.w z s);have w:(a.map dd).getD i []=dd (a.getD i ek):=by rw[Dy [] (by simpa using f),Dy ek f,kT]
 rw[w,t]
 by_cases o:j i=true
 .rw[ϱ o,ϱ (Υ (g.2 o))]
 .rw[ν o,ν (by simpa using λb=>o (g.1 b))]
theorem o0(b:mS h c a)(g:Nat->Bool)(o:z∈c):In a h.it (BS a g a.length) z=W9 (iW c a g) (ej (a.map dd) g z):=by
 unfold In W9;rw[Ul b g o]
 have k:(Q4 (ej (a.map dd) g z) (ej (a.map dd) g z).sum=true)↔max z.n 0+E2 (a.map dd) g z.r<0:=by
  unfold Q4 jK ej;rw[l6];dsimp only;have:(0:Int)<=max z.n 0:=Int.le_max_right _ _;omega
 by_cases l:max z.n 0+E2 (a.map dd) g z.r<0
 .rw[ϱ l,ϱ (k.2 l),eW b.v (b.w z o),<-List.map_reverse,List.find?_map];show Option.map _ (Option.map _ _)=Option.map _ ((iX (a.map dd) z.r).reverse.find? _)
  have e:(iX (a.map dd) z.r).reverse.find? ((λf=>decide (f∈BS a g a.length))∘λi=>(a.getD i ek).id)=(iX (a.map dd) z.r).reverse.find? (kS (iW c a g)):=GL λi r=>by
   have j:=OS (List.mem_reverse.1 r);rw[χ] at j;show decide ((a.getD i ek).id∈_)=kS _ i;unfold kS;rw[Tq j];show _=g i;have:=Me b.s.i g j
   cases ho:g i with
   | true=>exact Υ (this.2 ho)
   | false=>exact kC λb=>by rw[this.1 b] at ho;cases ho
  rw[e]
  cases hf:(iX (a.map dd) z.r).reverse.find? (kS (iW c a g)) with
  | none=>rfl
  | some i=>
   have j:=OS (List.mem_reverse.1 (List.mem_of_find?_eq_some hf));rw[χ] at j;show some _=some _
   congr 1
   have s:(iW c a g).nd.getD i CV=Jb (c.map ey.r) a g i:=Tq j;show I5.mk (a.getD i ek).id 0 z.r (-1)=I5.mk ((iW c a g).nd.getD i CV).it.id 0 z.r (-1);rw[s];rfl
 .rw[ν l,ν λb=>l (k.1 b)]
theorem Vb{b:Type}(p:b->Bool):∀(A:List b),A.find? p=A[A.findIdx p]?
 | []=>rfl
 | a::A=>by
  rw[List.find?_cons,List.findIdx_cons]
  cases hp:p a with
  | true=>rfl
  | false=>rw[Vb p A];rfl
theorem pc(X:cl):(dd X).Pairwise λa b=>BT a.1 b.1<0:=by
 unfold dd
 split
 .exact Lt (js X)
 .exact List.Pairwise.nil
theorem r6(f:mS h c a)(k:List (List (AW×Int)))(X:cl):lZ (c.map ey.r) k (dd X)=(c.filter λx=>decide (Ds (dd X) x.r<0)).map λx=>((c.map ey.r).idxOf x.r,(iX k x.r).length):=by
 have l:((dd X).filter λd=>decide (d.1∈c.map ey.r) && decide (d.2<0)).map Prod.fst=(c.filter λx=>decide (Ds (dd X) x.r<0)).map ey.r:=by
  refine sI (R:=λg b=>BT g b<0) (λx=>by rw[NQ.refl];omega) (λx y z=>NQ.trans x y z) ?_ ?_ λr=>?_
  .rw[ky];exact List.Pairwise.filter _ (pc X)
  .rw[ky];exact List.Pairwise.filter _ f.up
  .constructor
   .intro s;obtain ⟨d,j,rfl⟩:=Γ.1 s;obtain ⟨t,i⟩:=Φ.1 j;rw[kO,l6,l6] at i;obtain ⟨x,o,e⟩:=Γ.1 i.1;refine Γ.2 ⟨x,Φ.2 ⟨o,?_⟩,e⟩;have:Ds (dd X) d.1=d.2:=cR (cN X) t;rw[e,this];exact Υ i.2
   .intro s;obtain ⟨x,o,rfl⟩:=Γ.1 s;obtain ⟨t,i⟩:=Φ.1 o;have i:=lK i
    have v:x.r∈(dd X).map Prod.fst:=Classical.byContradiction λu=>by
     have:Ds (dd X) x.r=0:=ES u;omega
    obtain ⟨d,j,e⟩:=Γ.1 v;have:Ds (dd X) d.1=d.2:=cR (cN X) j;rw[e] at this;refine Γ.2 ⟨d,Φ.2 ⟨j,?_⟩,e⟩;rw[kO,l6,l6];exact ⟨by rw[e];exact Γ.2 ⟨x,t,Z⟩,by omega⟩
 have w:lZ (c.map ey.r) k (dd X)=(((dd X).filter λd=>decide (d.1∈c.map ey.r) && decide (d.2<0)).map Prod.fst).map λr=>((c.map ey.r).idxOf r,(iX k r).length):=by
  unfold lZ;rw[jw];rfl
 rw[w,l,jw];rfl
theorem ei(b:mS h c a)(g:Nat->Bool)(i:z∈c):(iW c a g).po.getD ((c.map ey.r).idxOf z.r) Cd=ej (a.map dd) g z:=by
 obtain ⟨j,k,rfl⟩:=kh i;have f:j<(c.map ey.r).length:=by simpa using k
 have e:(c.map ey.r).idxOf c[j].r=j:=by
  have:=Fi b.s.r f
  grind
 rw[e];show (c.map _).getD j Cd=_
 grind
theorem Mp(f:(a.map cl.id).Nodup){i j:Nat}(c:i<a.length)(b:j<a.length)(h:(a.getD i ek).id=(a.getD j ek).id):i=j:=by
 rw[Dy ek c,Dy ek b] at h
 have g:(a.map cl.id)[i]'(by simpa using c)=(a.map cl.id)[j]'(by simpa using b):=by
  grind
 exact (List.getElem_inj f).1 g
theorem Ze(b:mS h c a)(g:Nat->Bool)(D:i<a.length)(C:z∈c):
  kF a (BS a g a.length) (a.getD i ek).id z=if Ds (dd (a.getD i ek)) z.r<0 then (if kt (iW c a g) ((c.map ey.r).idxOf z.r,(iX ((a.map dd).take i) z.r).length)=true then some (TY (iW c a g) (Jb (c.map ey.r) a g i) ((c.map ey.r).idxOf z.r,(iX ((a.map dd).take i) z.r).length)) else none) else none:=by
 have kI:i<(a.map dd).length:=by simpa using D
 have N:(a.map dd).getD i []=dd (a.getD i ek):=by rw[Dy [] kI,Dy ek D,kT]
 have M:=eW b.v (b.w z C);obtain ⟨B,t,E,T⟩:=LM kI z.r;rw[N] at t
 have y:(a.getD i ek).id∈hY a z.r↔Ds (dd (a.getD i ek)) z.r<0:=by
  rw[M,Γ]
  constructor
  .rintro ⟨j,u,e⟩;have k:=OS u;rw[χ] at k;have:=Mp b.s.i k D e;subst this;have:=(Φ.1 u).2;rw[N] at this;exact lK this
  .intro l;refine ⟨i,?_,Z⟩;rw[t,ϱ l];simp
 unfold kF
 by_cases l:Ds (dd (a.getD i ek)) z.r<0
 .rw[ϱ (y.2 l),ϱ l];rw[ϱ l] at t
  obtain ⟨A,Q⟩:∃A,iX ((a.map dd).take i) z.r=A:=⟨_,Z⟩
  rw[Q] at t E⊢
  have L:hY a z.r=A.map (λj=>(a.getD j ek).id)++((a.getD i ek).id::B.map λj=>(a.getD j ek).id):=by
   rw[M,t,jy,List.singleton_append,k6]
  have s:(A.map λj=>(a.getD j ek).id).length=A.length:=χ _;have w:A.length<(hY a z.r).length:=by rw[L,Δ,s];simp
  have v:(hY a z.r).take A.length=A.map λj=>(a.getD j ek).id:=by rw[L,<-s,List.take_left'];rfl
  have K:(hY a z.r)[A.length]=(a.getD i ek).id:=by
   have:(hY a z.r)[A.length]? =some (a.getD i ek).id:=by
    rw[L,qw (by omega),s,Nat.sub_self];rfl
   rw[ω w] at this;exact Option.some.inj this
  rw[OF w (λf l=>by
   rw[v] at l;obtain ⟨j,u,rfl⟩:=Γ.1 l;have:=E j u
   exact Υ λe=>by have:=Mp b.s.i (by omega) D e;omega) (by rw[K];simp),v,List.find?_map]
  have S:A.find? ((λf=>decide (f∉BS a g a.length))∘λj=>(a.getD j ek).id)=A.find? λj=>!g j:=GL λj u=>by
   have k:j<a.length:=by have:=E j u;omega
   have:=Me b.s.i g k;show decide ((a.getD j ek).id∉_)=!g j
   cases ho:g j with
   | true=>exact kC λH=>H (this.2 ho)
   | false=>exact Υ λH=>by rw[this.1 H] at ho;cases ho
  rw[S,Vb]
  have I:((iW c a g).po.getD ((c.map ey.r).idxOf z.r) Cd).mi=if A.findIdx (λj=>!g j)<A.length then A.findIdx λj=>!g j else (([i]:List Nat)++B).findIdx (λj=>!g j)+A.length:=by
   rw[ei b g C];show fu g (iX (a.map dd) z.r)=_;unfold fu;rw[t,Ve]
  have G:((iW c a g).po.getD ((c.map ey.r).idxOf z.r) Cd).q=iX (a.map dd) z.r:=by rw[ei b g C];rfl
  have F:((iW c a g).po.getD ((c.map ey.r).idxOf z.r) Cd).r=z.r:=by rw[ei b g C];rfl
  unfold kt TY;dsimp only;rw[I,G,F]
  by_cases o:A.findIdx (λj=>!g j)<A.length
  .rw[ϱ o,ϱ (Υ o),ω o];have J:=ϑ o;have k:A[A.findIdx λj=>!g j]<a.length:=by have:=E _ J;omega
   have R:(iX (a.map dd) z.r).getD (A.findIdx λj=>!g j) 0=A[A.findIdx λj=>!g j]:=by
    rw[t,Ψ,nT o,ω o];rfl
   rw[R,Tq k];rfl
  .rw[ν o,ν (by simp),mL (by omega)];rfl
 .rw[ν (λO=>l (y.1 O)),ν l]
theorem iu(b:mS h c a)(g:Nat->Bool)(t:i<a.length):B6 h (BS a g a.length) (a.getD i ek).id=G5 (iW c a g) (Jb (c.map ey.r) a g i):=by
 have k:a.getD i ek∈a:=by rw[Dy ek t];exact ϑ t
 have r:a.getD i ek∈h.it:=by rw[<-b.hi] at k;rw[<-b.hi];exact (Js h.it).mem_iff.1 k
 have E:c.findSome? (kF a (BS a g a.length) (a.getD i ek).id)=((lZ (c.map ey.r) ((a.map dd).take i) (dd (a.getD i ek))).find? (kt (iW c a g))).map (TY (iW c a g) (Jb (c.map ey.r) a g i)):=by
  rw[r6 b,Nj,<-Mv (p:=λx=>decide (Ds (dd (a.getD i ek)) x.r<0)) (λx u v=>by rw[Ze b g t u,ν (of_decide_eq_false v)])]
  grind[L1,Ze]
 have D:hG h (a.getD i ek).id=a.getD i ek:=by
  obtain ⟨y,_,B,A⟩:=Zj (p:=h) (id:=(a.getD i ek).id) (Γ.2 ⟨_,r,Z⟩);refine OX (YE (IL b.e).2.1) (by rw[B];exact ϑ y) r A
 have C:(a.getD i ek).af.find? (λf=>decide (f∉BS a g a.length))=(a.getD i ek).af.find? (je (iW c a g)):=GL λf z=>by
  have w:=b.s.a _ k f z;have s:=mr w;have l:=nI s;unfold je;rw[QQ]
  generalize (a.map cl.id).idxOf f=j at s l⊢
  have o:j<a.length:=by simpa using s
  rw[kT] at l;rw[Tq o];show _=!g j;have:=Me b.s.i g o
  grind
 unfold B6;rw[b.hr,b.hi,E,D,C];unfold G5
 show _=match (lZ (c.map ey.r) ((a.map dd).take i) (dd (a.getD i ek))).find? (kt (iW c a g)) with
  | some e=>some (TY (iW c a g) (Jb (c.map ey.r) a g i) e)
  | none=>match (a.getD i ek).af.find? (je (iW c a g)) with
   | some id=>some ⟨(a.getD i ek).id,2,F2,id⟩
   | none=>none
 cases (lZ (c.map ey.r) ((a.map dd).take i) (dd (a.getD i ek))).find? (kt (iW c a g)) with
 | some e=>rfl
 | none=>
  show ((a.getD i ek).af.find? (je (iW c a g))).map _=_
  cases (a.getD i ek).af.find? (je (iW c a g))<;>rfl
theorem Su(b:mS h c a)(g:Nat->Bool):EQ h (BS a g a.length)=Dj (iW c a g):=by
 have u:(BS a g a.length).findSome? (B6 h (BS a g a.length))=(iW c a g).nd.findSome? (Rg (iW c a g)):=by
  show (((List.range a.length).filter g).map λi=>(a.getD i ek).id).findSome? _=((List.range a.length).map _).findSome? _;rw[List.findSome?_map,List.findSome?_map]
  rw[<-Mv (p:=g) (l:=List.range a.length) (f:=Rg (iW c a g)∘Jb (c.map ey.r) a g) (λi _ k=>by
   show Rg _ (Jb _ _ _ i)=none;unfold Rg;rw[ν];show ¬(g i=true)
   rw[k];simp)]
  refine L1 λi o=>?_;obtain ⟨s,r⟩:=Φ.1 o;show B6 h _ (a.getD i ek).id=Rg _ (Jb _ _ _ i);rw[iu b g (Ω.1 s)];unfold Rg;rw[ϱ];exact r
 have t:c.findSome? (In a h.it (BS a g a.length))=(iW c a g).po.findSome? (W9 (iW c a g)):=by
  show _=(c.map _).findSome? _;rw[List.findSome?_map];exact L1 λx j=>o0 b g j
 unfold EQ Dj;rw[b.hr,b.hi,u,t]
 grind
theorem NS(c:(a.map cl.id).Nodup)(b:Nat->Bool)(f:i<a.length):BP (BS a b a.length) (a.getD i ek).id=BS a (BB b i) a.length:=by
 unfold BP BS;rw[List.filter_map,List.filter_filter]
 grind[lr,J6,Mp,HE]
theorem dt{p:hU}{b:List ey}{a:List cl}(h:mS p b a):∀(f:Nat) (c:Nat->Bool),KR p f (BS a c a.length)=((FF b a f c).1,BS a (FF b a f c).2 a.length)
 | 0,c=>rfl
 | f+1,c=>by
  cases hne:Dj (iW b a c) with
  | none=>rw[MW (by rw[Su h,hne]),Ky hne]
  | some e=>
   obtain ⟨i,x,s,t,l⟩:=OR hne
   have u:BE (iW b a c)=iW b a c:=by
    unfold BE iW;dsimp only;rw[jw,jw];rfl
   obtain ⟨o,_,k⟩:=MH u s;have j:(a.getD i ek).id=e.id:=by rw[l,k]
   have g:(a.map cl.id).idxOf e.id=i:=by
    have r:=Fi h.s.i (i:=i) (by simpa using o);rw[kT] at r;rw[<-j,Dy ek o];exact r
   rw[RG (by rw[Su h,hne]),Kw hne,g,<-j,NS h.s.i c o,dt h f]
theorem pZ(b:Ac h=0)(c:CT h):Vi h=((JJ h).1,fl h):=by
 have a:=eX b c;have g:hJ h=ea h.it:=ϱ b
 have f:(ea h.it).map cl.id=BS (ea h.it) (λ_=>true) (ea h.it).length:=by
  conv=>lhs;rw[HT (ea h.it)]
  unfold BS;rw[jw,qy.2 (λ_ _=>rfl)];rfl
 unfold Vi fl JJ;rw[g,f,dt a]
def yN(p:hU)(n:Nat):Prop:=p.it.length<=n/\p.ro.length<=30/\∀i∈p.it,i.po.length<=8/\i.pa.length<=8/\i.af.length<=8
instance (p:hU) (n:Nat):Decidable (yN p n):=inferInstanceAs (Decidable (_/\_/\∀i∈p.it,_))
def DY(p:hU)(l:List Int):Prop:=(∀id∈l,B6 p l id=none)/\∀x∈p.ro,¬CO p.it x l<0
noncomputable instance (p:hU) (l:List Int):Decidable (DY p l):=Classical.propDecidable _
theorem TW(p:hU)(w:CT p)(M:(p.ro.map ey.r).Nodup)(z:∀x∈p.ro,-100000000000000000<=x.n/\x.n<=100000000000000000)(l:List Int)(D:l.length<=1000)(u:∀id∈l,id∈p.it.map cl.id):AI prog 55 [.d (BG p),.d (.sl none (l.map AE))] (Am (decide (DY p l))):=by
 have A:=w.i;have H:=w.r;refine As func55 Z Z ntmps55 Z Z Z λF y=>(AD (AF (V (B7 1 Z Z Z Z Z Z Z) ?_)));refine AB Z Z (AC (AD (AD (AF (AB Z Z (AC (AX (BC (α:=Nat) (λk=>⟨42,[(1,.d (.sl none (l.map AE))),(2,(.ptr 1 0 0)),(5,(.d (AE (k:Int))))],[(1,[B3 25 p])]⟩) (λk=>k<=l.length/\∀x∈l.take k,B6 p l x=none) (λk=>l.length-k) (0) (⟨κ _,by simp⟩) (AR y [1] Z Z ⟨Z,Z,Z,trivial⟩) ?_))))))));rintro k ⟨I,f⟩;refine AD (AD (AF (ch Z Z (ch Z Z (J (BU Z E0 Z) (J (At Z Z Z) (AC (A5 Z (λr=>?_) (λr=>?_)))))))))
 .have b:k<l.length:=BF r;refine AU (AD (AX (AD ?_)));have B:=ST p w M l l[k] D (u _ (ϑ b));refine Bq [[],[],[],[],[2,3],[2,3,4],rg 6,rg 7,rg 8,rg 8,[],[0,1,2,3,4,5,6,7,8,10],rg 12] mixed Z (B2 (A1 [2] [1] Z Z (λ_=>Aa (Ap Z Z By Z Z Z)) (A7 1 Z Z (A7 1 Z Z (A7 5 Z Z (AK [18,19] Z (Al (k) Z Z (Z) (AP b) E0 Z BK Z) (AK [20] Z (BZ Z Z Ai Z) (AK [16,17,21] Z (Aj (B) Z Z) ?_))))))));refine A7 22 Z Z (AK [15] Z (Cc Z Z Z) (AK [15] Z (Cc Z Z Z) (Cv [] [2] [(6,_)] Z Z (λ_=>Cg (CP 2 Ia Z Z Z Z)) (.inr ⟨6,_,Z,Z,Z,Z,Z⟩) Z Z Z Z Z (Cv [6,23] [2] [] Z Z (λ_=>Cg (Bi Z Z Z Z Z Z Z Id)) (.inl ⟨Z,Z⟩) Z Z Z Z Z (BV 12 Z Z Z (A0 13 Z Z (AB Z Z (AC ⟨Z,?_⟩))))))));refine Bb (AD (AF ?_))
  cases hbk:B6 p l l[k]
  .refine ch Z Z (AC (Cq Z (Z) (AU (AF (ch Z Z (J (Ad Z Z (AJ (k+1) (by omega)) Z) (AB Z Z (AC ?_))))))));exact ⟨k+1,⟨by show k+1<=_;omega,by rw[ψ b];intro e a;rcases υ.1 a with a | a;exact f e a;rw[ξ.1 a];exact hbk⟩,by show l.length-(k+1)<l.length-k;omega,AR y [1] Z (Z) ⟨Z,Z,Z,trivial⟩⟩
  .refine ch Z Z (AC (CM Z (Z) (AD (AF (AB Z Z (AC (A4 ?_)))))));exact ⟨_,[],[],A2 Z,Z,Z,Hh (λh=>by have C:=h.1 _ (ϑ b);rw[hbk] at C;cases C),Z⟩
 .refine Aq (AD (AD ?_));have v:∀id∈l,B6 p l id=none:=by have e:k=l.length:=(by have h:=r;omega);rw[e,kV] at f;exact f
  refine AF (AB Z Z (AC (AX (BC (α:=Nat) (λj=>⟨42,[(1,.d (.sl none (l.map AE))),(2,(.ptr 1 0 0)),(8,(.d (AE (j:Int))))],[(1,[B3 25 p])]⟩) (λj=>j<=p.ro.length/\∀x∈p.ro.take j,¬CO p.it x l<0) (λj=>p.ro.length-j) (0) (⟨κ _,by simp⟩) (AR y [1] Z Z ⟨Z,Z,Z,trivial⟩) ?_))));rintro j ⟨K,t⟩;refine AD ?_;refine AD (AF (ch Z Z (J (AM Z MD Z Z Z) (J (AQ Z Z Z E3 Z) (J (BU Z No Z) (J (At Z Z Z) (AC (A5 Z (λo=>?_) (λo=>?_)))))))))
  .have c:j<p.ro.length:=BF o;refine AU (AD (AX (AD ?_)));have s:=fC p p.ro[j] l A (z _ (ϑ c)) D (λi L=>w.x i L);refine Bq [[],[],[1],[],[1,2,3],[1,2,3,4],[],rg 7,rg 8] mixed Z (B2 (A1 [2] [1] Z Z (λ_=>Aa (Ap Z Z By Z Z Z)) (AK [2] Z (AM Z MD Z Z Z) ?_)));refine A1 [34] [1] Z Z (λ_=>Aa (AQ Z Z Z E3 Z)) (A7 8 Z Z (AK [35,36] Z (Al (j) Z Z (Z) (AP c) No Z Bc Z) (AK [37] Z (CY Z Z RE Z) (A7 1 Z Z (BV 7 Z Z Z (A0 8 Z Z (J (Aj (s) Z Z) (AC ⟨Z,?_⟩))))))));refine A0 9 Z Z (J (H4 Z Z Z) (AC ⟨Z,?_⟩));refine Bb (A5 Z (λg=>?_) (λg=>?_))
   .refine AD (AF (AB Z Z (AC (A4 ?_))));exact ⟨_,[],[],A2 Z,Z,Z,Hh (λh=>by have C:=h.2 _ (ϑ c);have E:=g;rw[Int.max_def] at E;split at E<;>omega),Z⟩
   .refine AU (AF (ch Z Z (J (Ad Z Z (AJ (j+1) (by omega)) Z) (AB Z Z (AC ?_)))));exact ⟨j+1,⟨by show j+1<=_;omega,by rw[ψ c];intro e a;rcases υ.1 a with a | a;exact t e a;rw[ξ.1 a];have h:=g;rw[Int.max_def] at h;split at h<;>omega⟩,by show p.ro.length-(j+1)<p.ro.length-j;omega,AR y [1] Z (Z) ⟨Z,Z,Z,trivial⟩⟩
  .refine Aq (AD (AF (AB Z Z (AC (A4 ?_)))));exact ⟨_,[],[],A2 Z,Z,Z,Sk ⟨v,λx G=>t x (by rw[θ (by have h:=o;omega)];exact G)⟩,Z⟩
theorem fb(a:List ey)(b:List cl)(c:Nat->Bool):BE (iW a b c)=iW a b c:=by
 unfold BE iW;dsimp only;rw[jw,jw];rfl
theorem og(t:(a.map cl.id).Nodup)(h:Dj (iW c a f)=some x):∃i,i<a.length/\f i=true/\(a.getD i ek).id=x.id/\(a.map cl.id).idxOf x.id=i:=by
 obtain ⟨i,b,r,g,k⟩:=OR h;obtain ⟨o,s,j⟩:=MH (fb c a f) r;have l:(a.getD i ek).id=x.id:=by rw[k,j]
 refine ⟨i,o,by rw[<-s];exact g,l,?_⟩;have u:=Fi t (i:=i) (by simpa using o)
 grind
theorem i9(n:Nat)(a:Nat->Bool):EW n a<=n:=by grind[EW]
theorem Xs{id:Int}(g:∀x∈L,x∈j)(a:B6 h L id=none):B6 h j id=none:=by
 unfold B6 at a⊢
 cases h1:(j8 h).findSome? (kF (ea h.it) L id) with
 | some e=>rw[h1] at a;cases a
 | none=>
  rw[h1] at a
  have f:(j8 h).findSome? (kF (ea h.it) j id)=none:=Dn λx b=>by
   have c:=List.findSome?_eq_none_iff.1 h1 x b;unfold kF at c⊢
   simp_all
  rw[f]
  simp_all
theorem Um{x:ey}{l t:List Int}(g:∀y∈t,y∈l):∀{its:List cl},(∀i∈its,i.id∈l->i.id∉t->0<=BO i x.r)->CO its x t<=CO its x l
 | [],_=>Int.le_refl _
 | a::its,h=>by
  have f:=Um g (its:=its) λi j=>h i (kw _ j);have k:=h a (k7 ..);unfold CO at f⊢;rw[l5,l5]
  by_cases b:a.id∈t
  .rw[ϱ (Υ b),ϱ (Υ (g _ b))];simp only[k6,lS];omega
  .rw[ν (by simpa using b)]
   by_cases c:a.id∈l
   .rw[ϱ (Υ c)];have:=k c b;simp only[k6,lS];omega
   .rw[ν (by simpa using c)];exact f
theorem fW{p:hU}(U:Ac p=0){l t:List Int}(F:DY p t)(J:∀y∈t,y∈l){e:I5}(r:EQ p l=some e):e.id∉t:=λg=>by
 unfold EQ at r
 split at r
 .rename_i X k
  injection r with r;subst r
  obtain ⟨id,O,f⟩:=sU k;have o:=SU f;rw[o] at g;rw[Xs J (F.1 id g)] at f;cases f
 .obtain ⟨x,I,f⟩:=sU r;have D:=(qg p).mem_iff.1 I;unfold In at f
  split at f
  .rename_i W
   obtain ⟨a,T,rfl⟩:=Option.map_eq_some_iff.1 f;dsimp only at g;obtain ⟨S,u,v,E,L⟩:=List.find?_eq_some_iff_append.1 T
   have s:hY (ea p.it) x.r=v.reverse++a::u.reverse:=by
    have:=jq List.reverse E;rw[List.reverse_reverse,List.reverse_append,List.reverse_cons,lh] at this;exact this
   have C:(hY (ea p.it) x.r).Nodup:=by
    have k:((ea p.it).map cl.id).Nodup:=((Js p.it).map cl.id).nodup_iff.2 (YE (IL U).2.1);unfold hY;exact k.sublist ((lj).map cl.id)
   have G:a∉v.reverse:=λM=>by
    rw[s,m5] at C;exact C.2.2 _ M _ (k7 ..) rfl
   have h:=F.1 a g
   have B:∀b∈v.reverse,b∈t:=λb R=>by
    unfold B6 at h
    cases k:(j8 p).findSome? (kF (ea p.it) t a) with
    | some e=>rw[k] at h;cases h
    | none=>
     have o:=List.findSome?_eq_none_iff.1 k x I;unfold kF at o;rw[ϱ (by rw[s];simp)] at o;have A:v.reverse.length<(hY (ea p.it) x.r).length:=by rw[s,Δ];simp
     have w:(hY (ea p.it) x.r).take v.reverse.length=v.reverse:=by rw[s,List.take_left'];rfl
     have H:(hY (ea p.it) x.r)[v.reverse.length]=a:=by
      have:(hY (ea p.it) x.r)[v.reverse.length]? =some a:=by
       rw[s,qw (Θ _),Nat.sub_self];rfl
      rw[ω A] at this;exact Option.some.inj this
     rw[OF A (λc K=>by rw[w] at K;exact Υ λe=>G (e▸K)) (by rw[H];simp),w] at o
     have V:v.reverse.find? (λa=>decide (a∉t))=none:=by
      cases hf:v.reverse.find? (λa=>decide (a∉t)) with
      | none=>rfl
      | some c=>rw[hf] at o;cases o
     have:=List.find?_eq_none.1 V b R
     simpa using this
   have N:=Um (x:=x) J (its:=p.it) λi Q k f=>Classical.byContradiction λz=>by
    have j:i.id∈hY (ea p.it) x.r:=Γ.2 ⟨i,Φ.2 ⟨(Js p.it).mem_iff.2 Q,by simpa using z⟩,Z⟩;rw[s] at j;rcases υ.1 j with j | j
    .exact f (B _ j)
    .rcases jt.1 j with j | j
     .rw[j] at f;exact f g
     .have:=L _ (List.mem_reverse.1 j)
      simp at this
      exact this k
   exact F.2 x D (by omega)
  .cases f
theorem bL(k:Ac h=0)(w:CT h)(u:DY h L)(z:∀y∈L,y∈h.it.map cl.id):∀y∈L,y∈fl h:=by
 have a:=eX k w;have A:hJ h=ea h.it:=ϱ k
 have o:∀(f:Nat) (b:Nat->Bool),(∀y∈L,y∈BS (ea h.it) b (ea h.it).length)->∀y∈L,y∈BS (ea h.it) (FF (j8 h) (ea h.it) f b).2 (ea h.it).length:=by
  intro f
  induction f with
  | zero=>intro b c;exact c
  | succ f r=>
   intro b c
   cases hne:Dj (iW (j8 h) (ea h.it) b) with
   | none=>rw[Ky hne];exact c
   | some e=>
    obtain ⟨i,v,_,j,s⟩:=og a.s.i hne;rw[Kw hne,s];refine r (BB b i) λy l=>?_;have g:=fW k u c (by rw[Su a];exact hne);rw[<-NS a.s.i b v,j];exact Φ.2 ⟨c y l,Υ λx=>g (x▸l)⟩
 grind[fl,JJ,BS,HT,Js]
def j1(p:hU):List AW:=p.ro.map ey.r
def dR(rs:List AW)(i:cl):List (AW×Int):=(dd i).filter λd=>decide (d.1∈rs)
theorem Vv(a:List AW)(i:cl):((dR a i).map Prod.fst).Nodup:=List.Nodup.sublist (List.Sublist.map _ lj) (cN i)
theorem Ed{b:Type}[DecidableEq u]{O:List (u×b)}{x:u}{v:b}(h:x∉O.map Prod.fst):B1 O x v=O++ [(x,v)]:=by
 induction O with
 | nil=>rfl
 | cons a l c=>
  grind[B1]
theorem Hm{x y:Au}:Bh (Bh M C x) C y=Bh M C y:=by grind[H3,IV]
theorem Rk{x:Au}(h:M C=some x):Bh M C x=M:=by grind[H3,IV]
theorem OT(a:X.Nodup)(b:A<X.length):X[A]∉X.take A:=by grind[mw]
abbrev WF:FuncId:=119
structure KC (N:MF) (b:Nat) (l:List Int):Prop where
 ex:∃m,N b=some (.cells 137 [mD m])/\N m=some (.map none (Bg AE Am (Av l)))
abbrev Zx(b:Nat):D:= .fn WF [] [pD b 0]
theorem Gy(l:List Int)(j:l.Nodup)(v:l.length<=1000000):AO prog 66 [.d (.sl none (l.map AE))] [] λr t=>∃b N,r= .d (Zx b)/\t=[(41,[.multi N])]/\KC N b l:=by
 refine As func66 Z Z ntmps66 Z Z Z λF h=>(AD (AF (AB Z Z (AC ?_))));refine AD (IK 41 Z Z Z (AF (V (S2 1 Z Z Z Z) (Rd 6 1 41 h Z Z Z Z Z Z Z Z Z Z (λ_=>rfl) λm u=>(OQ 41 m Z (H3 _ _ _) Z (V (CP 2 rF Z Z Z Z) (V (Bi Z Z Z Z Z Z Z rN) (AC ?_))))))));refine AD (AD (AF (ch Z Z (J (BU Z E0 Z) (ch Z Z (AC (AX (BC (α:=Nat×MF) (λq=>⟨17,[(3,(.ptr 2 0 0)),(7,(.d (.sl none (l.map AE)))),(8,(.d (AE (l.length:Int)))),(9,(.d (AE (q.1:Int))))],[(2,[.blk 137 [.d (mD m)]]),(41,[.multi q.2])]⟩) (λq=>q.1<=l.length/\q.2 m=some (.map none (Bg AE Am (Av (l.take q.1))))) (λq=>l.length-q.1) ((0,_)) (⟨κ _,H3 _ _ _⟩) (AR h [2,41] Z Z ⟨Z,Z,Z,Z,trivial⟩) ?_))))))));rintro ⟨k,N⟩ ⟨o,g⟩;dsimp only at o g⊢;refine AD (AF (J (At Z Z Z) (AC (AD (A5 Z (λc=>?_) (λc=>?_))))))
 .refine AU (AD (AX (AD ?_)));have a:k<l.length:=BF c;refine AF (J (Al (k) Z Z (Z) (AP a) E0 Z BK Z) (J (BZ Z Z Ai Z) (AB Z Z (AC ?_))));refine AF (J (AQ Z Z Z Uq Z) (ch Z Z (V (UQ (f:=41) (Av (l.take k)) l[k] true Z Z g Z FU I6 Z Z) (AC (AF (J (Ad Z Z (AJ (k+1) (by omega)) Z) (ch Z Z (AC ?_))))))));exact ⟨(k+1,_),⟨a,by show Bh _ _ _ _=_;rw[H3,ψ a,jT (OT j a)]⟩,by show l.length-(k+1)<l.length-k;omega,AR h [2,41] Z (Z) ⟨Z,Z,Z,Z,trivial⟩⟩
 .refine Aq (AD ?_);have i:k=l.length:=by have:=c;omega
  rw[i,kV] at g;refine EZ (ds:=[mD m]) 3 2 41 h Z Z Z Z Z Z Z Z Z Z Z (λ_=>rfl) λb s=>(AF (J (cQ (ds:=[]) (es:=[pD b 0]) Z Z Z Z Z) (AB Z Z (AC (A4 ?_)))));exact ⟨_,[41],_,A2 Z,Z,Z,b,_,Z,Z,⟨m,H3 _ _ _,by rw[IV (λe=>by rw[e,s] at g;cases g)];exact g⟩⟩
theorem J0{N:MF}(h:KC N C j)(id:Int):AO prog WF [.d (AE id),.d (pD C 0)] [(41,[.multi N])] λr g=>r= .d (Am (decide (id∈j)))/\g=[(41,[.multi N])]:=by
 obtain ⟨m,c,a⟩:=h;refine As func119 Z Z ntmps119 Z Z Z λF i=>(AD (AF (AB Z Z ?_)));refine AC (AD (AF (J (FE (f:=41) Z Z c Z Uq Z) (ch Z Z (J (US (f:=41) (Av j) id false _ Z Z a Z FU I6 W8 (Zl j id) Z) (AB Z Z (AC (A4 ?_))))))));exact ⟨_,[41],_,A2 Z,Z,Z,Z,Z⟩
theorem bp(p:hU)(l:List Int)(c:Ek p)(b:l.length<=100000)(a:p.it.length<=1000):AI prog 64 [.d (BG p),.d (.sl none (l.map AE))] (AE (EX p l)):=by
 refine As func64 Z Z ntmps64 Z Z Z λF f=>(AD (AF (V (B7 1 Z Z Z Z Z Z Z) (AB Z Z ?_))));refine AC (AD (AF (J (Ap Z Z Bp Z Z Z) (ch Z Z (J (Aj (cq p l c b a) Z Z) (ch Z Z (J (Cc Z Z Z) (J (Cc Z Z Z) ?_))))))));refine AB Z Z (AB Z Z (AC (AD (AF (ch Z Z (AB Z Z (AC (A4 ?_))))))));exact ⟨_,[],[],A2 Z,Z,Z,Z,Z⟩
abbrev DL(e:cl×Nat):D:= .agg [AE e.1.id,AE e.1.pr,AE e.1.sq,.sl none (e.1.po.map Bd),.sl none (e.1.pa.map Cy),.sl none (e.1.af.map AE),mD e.2]
abbrev Nx(m:List (AW×Int)):List (D×D):=Bg Bm AE m
def YI(rs:List AW)(M:MF)(E:List (cl×Nat)):Prop:=∀e∈E,M e.2=some (.map none (Nx (dR rs e.1)))
theorem YI.add(h:YI o M E)(a:M C=none):YI o (Bh M C (.map none (Nx (dR o W)))) (E++ [(W,C)]):=by grind[YI,Bh]
def dK(rs:List AW)(i:cl)(j:Nat):List (AW×Int):=((dd i).take j).filter λd=>decide (d.1∈rs)
theorem uX(a:List AW)(i:cl):dK a i (dd i).length=dR a i:=by unfold dK dR;rw[kV]
theorem uW(g:A<(dd W).length)(h:((dd W)[A]).1∈o):B1 (dK o W A) ((dd W)[A]).1 ((dd W)[A]).2=dK o W (A+1):=by
 have f:=cN W
 have k:((dd W)[A]).1∉(dK o W A).map Prod.fst:=λa=>by
  obtain ⟨d,b,e⟩:=Γ.1 a;have c:d∈(dd W).take A:=(Φ.1 b).1;have l:((dd W)[A]).1∈((dd W).map Prod.fst).take A:=by rw[<-List.map_take,<-e];exact m9 c
  grind[OT]
 grind[Ed,dK,ψ]
theorem pf(a:A<(dd W).length)(h:((dd W)[A]).1∉o):dK o W (A+1)=dK o W A:=by
 unfold dK;rw[ψ a,lv]
 simp[h]
def Vn(a b:cl):Int:=if Eb a b<0 then -1 else 1
theorem Vm{b:cl}:Vn Y b<0↔Eb Y b<0:=by grind[Vn]
theorem iL:Go.Sort.SWO (ltOf Vn):=by
 have e:ltOf Vn=ltOf Eb:=by
  funext a b
  exact decide_eq_decide.2 Vm
 rw[e];exact EM.swo
theorem Xh(a b:cl):AI prog 116 [.d (Ah a),.d (Ah b)] (AE (Vn a b)):=by
 refine As func116 Z Z ntmps116 Z Z Z λF f=>(AD (AF (V (B7 1 Z Z Z Z Z Z Z) (V (B7 2 Z Z Z Z Z Z Z) (AB Z Z ?_)))));refine AC (AD (AD (AF (J (Ap Z Z Cb Z Z Z) (J (Ap Z Z Cb Z Z Z) (J (Aj (jA a b) Z Z) (AC (A5 Z (λc=>?_) (λc=>?_)))))))))
 .refine AD (AF (AB Z Z (AC (A4 ?_))));exact ⟨_,[],[],A2 Z,Z,Z,Ae (by unfold Vn;rw[ϱ c]),Z⟩
 .refine AU (AD (AF (AB Z Z (AC (A4 ?_)))));exact ⟨_,[],[],A2 Z,Z,Z,Ae (by unfold Vn;rw[ν c]),Z⟩
theorem bk(l:List cl)(c:l.length<=1000000):AO prog 114 [.d (.sl none (l.map Ah))] [] λr b=>r= .own 20 0 l.length/\b=[(20,[.rowD 55 6 (l.map Ah)])]:=by
 refine As func114 Z Z ntmps114 Z Z Z λF f=>(AD (AF (AB Z Z ?_)));skip;refine AC (AD (AD (AF (ch Z Z (GF 3 Z (λa=>?_) ?_)))))
 .refine J (Ep Qs Z Z) (AC (CM Z (Z) (AD (AF (AB Z Z (Yv 2 20 Q1 Z Z Z Z (AC (A4 ?_))))))));exact ⟨_,[20],_,A2 Z,Z,Z,by rw[List.map_eq_nil_iff.1 a];rfl,by rw[List.map_eq_nil_iff.1 a];rfl⟩
 .refine J (Ep Qs Z Z) ?_;refine AC (Cq Z (Z) (AU (AD (AF (V (CF 20 Q1 Z Z Z Z Z Z Z Z) (ch Z Z (V (Jr (([]:List cl)) (l) Z Z Z Z Z Z (λ_=>rfl) Q1 (by simp only[lT];omega) Z Z Z Z) (AB Z Z ?_))))))));skip;refine AC (A4 ?_);exact ⟨_,[20],_,A2 Z,Z,Z,by simp,Z⟩
theorem sw(a:(j1 h).Nodup)(b:t<h.ro.length):B1 (Av ((j1 h).take t)) h.ro[t].r true=Av ((j1 h).take (t+1)):=by grind[j1,jT,OT,ψ]
theorem ND(p:hU)(hE:Ac p=0)(hf:CT p)(g:FuncId)(o:List D)(N:MF)(I:Int->Bool)(hq:∀id,AO prog g (.d (AE id)::dL o) [(41,[.multi N])] λr H'=>r= .d (Am (I id))/\H'=[(41,[.multi N])]):
  AO prog 65 [.d (BG p),.d (.fn g [] o)] [(41,[.multi N])] λr H'=>∃E M,r= .d (.sl none (E.map DL))/\H'=[(41,[.multi N]),(40,[.multi M])]/\YI (j1 p) M E/\E.map Prod.fst=(hJ p).filter λi=>I i.id:=by
 have hO:hJ p=ea p.it:=ϱ hE;rw[hO]
 obtain ⟨c,s⟩:∃c,ea p.it=c:=⟨_,Z⟩
 have Y:c.length=p.it.length:=by rw[<-s];exact Nr p.it
 have K:∀i∈c,i∈p.it:=λi hi=>by rw[<-s] at hi;exact (Js p.it).mem_iff.1 hi
 have hi30:=hf.i;have T:=hf.r;have R:(j1 p).Nodup:=D6 hE;have S:(j1 p).length=p.ro.length:=χ _;have Q:=JB (IL hE).2.1;rw[s];refine As func65 Z Z ntmps65 Z Z Z λF w=>(AD (AF ?_));refine V (B7 1 Z Z Z Z Z Z Z) (AB Z Z (AC (AD (AF (V (S2 50 Z Z Z Z) (AB Z Z (AC (AD ?_))))))));refine AD (AF (J (AM Z Gp Z Z Z) (J (AQ Z Z Z Uo Z) (J (BU Z b0 Z) (ch Z Z (AC (AX (BC (α:=Nat) (λk=>⟨76,[(1,.d (.fn g [] o)),(2,(.ptr 1 0 0)),(5,(.map 50 0)),(19,(.d (.sl none (p.ro.map BY)))),(20,(.d (AE (p.ro.length:Int)))),(21,(.d (AE (k:Int))))],[(1,[.blk 39 [.d (.sl none (p.ro.map BY)),.d (.sl none (p.it.map Ah))]]),(50,[B5 Bm Am (Av ((j1 p).take k))]),(41,[.multi N])]⟩) (λk=>k<=p.ro.length) (λk=>p.ro.length-k) (0) (κ _) (AR w [1,50,41] Z Z ⟨Z,Z,Z,Z,Z,Z,trivial⟩) ?_))))))));rintro k hk;refine AD (AF (J (At Z Z Z) (AC (AD (A5 Z (λH=>?_) (λH=>?_))))))
 .refine AU (AD (AX (AD ?_)));have l:k<p.ro.length:=BF H;refine AF (J (Al (k) Z Z (Z) (AP l) b0 Z Q0 Z) ?_);refine J (CY Z Z dj Z) (V (CP 2 Tx Z Z Z Z) (V (Bi Z Z Z Z Z Z Z Q0) (AC (AF (ch Z Z (J (AM Z GM Z Z Z) (J (Ap Z Z Cw Z Z Z) (V (Wf (Av ((j1 p).take k)) (p.ro[k].r) (true) Z Z Z ZD Ck Z Z) ?_))))))));rw[sw R l];refine AC (AF (J (Ad Z Z (AJ (k+1) (by omega)) Z) (ch Z Z (AC ?_))));exact ⟨k+1,l,by omega,AR w [1,50,41] Z (Z) ⟨Z,Z,Z,Z,Z,Z,trivial⟩⟩
 .refine Aq (AD ?_);have z:k=p.ro.length:=by have:=H;omega
  rw[z,<-S,kV];refine AF (AB Z Z (AC (AD (AF (J (AM Z FN Z Z Z) (J (AQ Z Z Z Mf Z) (V (FX (bk p.it (by omega)) Z [20] ⟨Z,trivial⟩ Z Z Z Z Z Z Z Z Z) (AB Z Z ?_))))))));refine AC (AD (AF (ch Z Z (V (OJ ry (k:=6) (by decide) isAgg55 sizeOf55 func116 Z Z VU Vn iL p.it c (by omega) (λx _ y _=>Xh x y) (λys g1 g2=>by rw[<-s];exact Sr Q g1 (g2.imp λ{a b} h h2=>h (Vm.2 h2))) Z Z Z NB Z Z Z Z Z) (AC (AD (AD (Fb (emb:=Ah) 9 20 c Z Z Z Y.symm Z Z Z ?_))))))));refine IK 40 Z Z Z (AF (ch Z Z (J (BU Z Qs Z) (ch Z Z (AC (AX (IU 8 30 dc Z Z Z Z (BC (α:=Nat×List (cl×Nat)×MF) (λq=>⟨76,[(1,.d (.fn g [] o)),(2,(.ptr 1 0 0)),(5,(.map 50 0)),(8,(.own 30 0 q.2.1.length)),(34,(.d (.sl none (c.map Ah)))),(35,(.d (AE (c.length:Int)))),(36,(.d (AE (q.1:Int))))],[(50,[B5 Bm Am (Av (j1 p))]),(41,[.multi N]),(30,[.rowD 131 7 (q.2.1.map DL)]),(40,[.multi q.2.2])]⟩) (λq=>q.1<=c.length/\YI (j1 p) q.2.2 q.2.1/\q.2.1.map Prod.fst=(c.take q.1).filter λi=>I i.id) (λq=>c.length-q.1) ((0,[],_)) (⟨κ _,(λe he=>by cases he),Z⟩) (AR w [50,41,30,40] Z Z ⟨Z,Z,Z,Z,Z,Z,Z,trivial⟩) ?_))))))));rintro ⟨k,E,M⟩ ⟨hk,O,t⟩;dsimp only at hk O t⊢;refine AD (AF (J (At Z Z Z) (AC (AD (A5 Z (λG=>?_) (λG=>?_))))))
  .refine AU (AD (AX (AD ?_)));have l:k<c.length:=BF G;have W:=K _ (ϑ l);have U:=hf.x _ W;have hEl:E.length<=30:=by have h1:(E.map Prod.fst).length<=c.length:=(by rw[t];exact jp (lE _ _) (by rw[η];omega));rw[χ] at h1;omega
   refine AF (J (Al (k) Z Z (Z) (AP l) Qs Z DP Z) (J (CY Z Z Cb Z) (V (CP 2 Fm Z Z Z Z) (V (Bi Z Z Z Z Z Z Z DP) (AC (AD ?_))))));refine AD (AF (ch Z Z (J (AM Z QW Z Z Z) (J (AQ Z Z Z Ai Z) (V (cM (hq c[k].id) Z [41] ⟨Z,trivial⟩ Z Z Z Z Z Z Z Z Z) (J (QX Z Z) (AC (KB Z (λC=>?_) (λC=>?_)))))))))
   .have u:¬I c[k].id=true:=by simpa using C
    refine Aq (AF (J (Ad Z Z (AJ (k+1) (by omega)) Z) (ch Z Z (AC ?_))));exact ⟨(k+1,E,M),⟨l,O,by show _=(c.take (k+1)).filter _;rw[ψ l,lv,t,l5,ν u];simp⟩,by show c.length-(k+1)<c.length-k;omega,AR w [50,41,30,40] Z (Z) ⟨Z,Z,Z,Z,Z,Z,Z,trivial⟩⟩
   .have u:I c[k].id=true:=by simpa using C
    refine AU (AD (AF (J (Ap Z Z Cb Z Z Z) (V (S2 51 Z Z Z Z) (Rd 46 51 40 w Z Z Z Z Z Z Z Z Z Z (λ_=>rfl) λL hb=>(OQ 40 L Z (H3 _ _ _) Z ?_))))));rw[Hm];refine J (Dz Oa wF Z Z Z) (V (CP 3 Oa Z Z Z Z) (V (Bi Z Z Z Z Z Z Z IN) (AC (AD ?_))));refine AF (J (Ap Z Z Cb Z Z Z) (J (Aj (Vt c[k] (by omega) (by omega) (by omega)) Z Z) (ch Z Z (J (Cc Z Z Z) (J (Cc Z Z Z) (AB Z Z (AB Z Z (AC ?_))))))));refine AD (AD (AF (ch Z Z (J (BU Z underlying215 Z) (ch Z Z (AC (AX (BC (α:=Nat) (λj=>⟨76,[(1,.d (.fn g [] o)),(2,(.ptr 1 0 0)),(5,(.map 50 0)),(8,(.own 30 0 E.length)),(12,(.ptr 3 0 0)),(34,(.d (.sl none (c.map Ah)))),(35,(.d (AE (c.length:Int)))),(36,(.d (AE (k:Int)))),(53,(.d (.sl none ((dd c[k]).map Qe)))),(54,(.d (AE ((dd c[k]).length:Int)))),(55,(.d (AE (j:Int))))],[(3,[.blk 131 [.d (AE c[k].id),.d (AE c[k].pr),.d (AE c[k].sq),.d (.sl none (c[k].po.map Bd)),.d (.sl none (c[k].pa.map Cy)),.d (.sl none (c[k].af.map AE)),.d (mD L)]]),(50,[B5 Bm Am (Av (j1 p))]),(41,[.multi N]),(30,[.rowD 131 7 (E.map DL)]),(40,[.multi (Bh M L (.map none (Nx (dK (j1 p) c[k] j))))])]⟩) (λj=>j<=(dd c[k]).length) (λj=>(dd c[k]).length-j) (0) (κ _) (AR w [3,50,41,30,40] Z Z ⟨Z,Z,Z,Z,Z,Z,Z,Z,Z,Z,Z,trivial⟩) ?_))))))));rintro j hj;refine AD (AF (J (At Z Z Z) (AC (AD (A5 Z (λB=>?_) (λB=>?_))))))
    .refine AU (AD (AX (AD ?_)));have hdl:=O3 (x:=c[k]) U;have v:j<(dd c[k]).length:=BF B;refine AF (J (Al (j) Z Z (Z) (AP v) underlying215 Z YV Z) (J (CY Z Z rY Z) (V (CP 4 cY Z Z Z Z) (V (Bi Z Z Z Z Z Z Z YV) ?_))));refine AC (AD (AF (ch Z Z (J (AM Z L7 Z Z Z) (J (Ap Z Z Cw Z Z Z) (J (I8 (Av (j1 p)) ((dd c[k])[j]).1 false _ Z Z Z ZD Ck W8 (Zl _ _) Z) (AC (A5 Z (λA=>?_) (λA=>?_)))))))))
     .refine AF (J (AM Z O0 Z Z Z) (J (AQ Z Z Z Yr Z) (J (AM Z L7 Z Z Z) (J (Ap Z Z Cw Z Z Z) (J (AM Z ZX Z Z Z) (J (AQ Z Z Z FJ Z) (V (UQ (f:=40) (dK (j1 p) c[k] j) ((dd c[k])[j]).1 ((dd c[k])[j]).2 Z Z (H3 _ _ _) Z C4 Ck Z Z) ?_)))))));rw[Hm,uW v A];refine AC (AF (J (Ad Z Z (AJ (j+1) (by omega)) Z) (ch Z Z (AC ?_))));exact ⟨j+1,v,by omega,AR w [3,50,41,30,40] Z (Z) ⟨Z,Z,Z,Z,Z,Z,Z,Z,Z,Z,Z,trivial⟩⟩
     .refine AU (AF (J (Ad Z Z (AJ (j+1) (by omega)) Z) (ch Z Z (AC ?_))));exact ⟨j+1,v,by omega,AR w [3,50,41,30,40] Z (by simp only[pf v A];rfl) ⟨Z,Z,Z,Z,Z,Z,Z,Z,Z,Z,Z,trivial⟩⟩
    .refine Aq ?_;have X:j=(dd c[k]).length:=by have:=B;omega
     rw[X,uX];refine AF (ch Z Z ?_);refine J (Ap Z Z NW Z Z Z) (V (CF 31 dc Z Z Z Z Z Z Z Z) (V (DN (E) ([(c[k],L)]) Z Z Z Z Z Z Z Z dc (by simp only[ζ];omega) Z Z Z Z) (AB Z Z (AC (AF (J (Ad Z Z (AJ (k+1) (by omega)) Z) (ch Z Z (AC ?_))))))));exact ⟨(k+1,E++ [(c[k],L)],_),⟨l,O.add hb,by show _=(c.take (k+1)).filter _;rw[ψ l,lv,jy,t,l5,ϱ u];rfl⟩,by show c.length-(k+1)<c.length-k;omega,AR w [50,41,30,40] Z (Z) ⟨Z,Z,Z,Z,Z,Z,Z,trivial⟩⟩
  .refine Aq (AD ?_);have z:k=c.length:=by have:=G;omega
   rw[z,kV] at t;refine Fb (emb:=DL) 8 30 E Z Z Z Z Z Z Z (AF (ch Z Z (AB Z Z (AC (A4 ?_)))));exact ⟨_,[41,40],_,A2 Z,Z,Z,E,M,Z,Z,O,t⟩
abbrev AY(n:Nat):D:=AE (n:Int)
abbrev j0(l:List Nat):D:= .sl none (l.map AY)
theorem Pi(h:t<s.length):(s.map AY)[t]? =some (AY (gs s t)):=by rw[AP h,Qi h]
theorem eqv{a b:D}(h:a=b):AV.d a=AV.d b:=by rw[h]
theorem xZ{j:List Nat}{a:Nat}(f:a<s.length)(c:C<s.length):((s++j).set a (gs s C)).set C (gs s a)=NV s a C++j:=by
 rw[List.set_append_left _ _ f,List.set_append_left _ _ (by simpa using c)];rfl
theorem rJ(l j:List Nat){x:Nat}:((l++j).map AY).take l.length++ [AY x].take 1=(l++ [x]).map AY:=by
 rw[<-List.map_take,List.take_left];simp
theorem xh{j:List Nat}(h:0<s.length):s.take (s.length-1)++([gs s (s.length-1)]++j)=s++j:=by grind[mw,mM,Qi]
theorem xf(j:Nat):Int.tdiv ((j:Int)-1) 2=(((j-1) / 2:Nat):Int):=by grind
theorem AO.top{P:Program}{f:FuncId}{a:List AV}{k j:Hp}(h:AO P f a k λr c=>(∃b:Bool,r= .d (Am b))/\c=j):AO P f a k λr c=>r= .top/\c=j:=
 ⟨h.1,λF l o y x i w u t=>(h.2 F l o y x i w u t).mono λe B ⟨v,r,c,g,A,⟨_,z⟩,_,s⟩=>⟨v,.top,c,g,A,⟨Z,z⟩,.top,s⟩⟩
theorem yF{p q:Prop}[Decidable p][Decidable q](h:p↔q):AV.d (Am (decide p))=AV.d (Am (decide q)):=by rw[decide_eq_decide.2 h]
theorem vr:F3 prog 3=true:=by kernel_rfl
theorem eY:F3 prog 321=true:=by kernel_rfl
theorem wX:Kl prog 321 "Len" 223:=λb w=>by kernel_rfl
theorem fy:Kl prog 321 "Less" 296:=λb w=>by kernel_rfl
theorem fx:Kl prog 321 "Swap" 299:=λb w=>by kernel_rfl
theorem wW:Kl prog 321 "Push" 298:=λb w=>by kernel_rfl
theorem xu:Kl prog 321 "Pop" 297:=λb w=>by kernel_rfl
abbrev Mr(g:List (List Nat)):D:= .sl none (g.map j0)
structure GB (g:List (List Nat)):Prop where
 n:g.length<=65536
 e:∀l∈g,l.length<=1048576
 lt:∀l∈g,∀x∈l,x<g.length
theorem Fu(h:i<g.length):gf g i=g[i]:=by simp[gf,h]
theorem bb(h:i<g.length):(g.map j0)[i]? =some (j0 (gf g i)):=by rw[AP h,Fu h]
theorem GB.len(h:GB g){i:Nat}(a:i<g.length):(gf g i).length<=1048576:=by rw[Fu a];exact h.e _ (ϑ a)
theorem GB.suc(h:GB g){x:Nat}(b:i<g.length)(a:x∈gf g i):x<g.length:=by rw[Fu b] at a;exact h.lt _ (ϑ b) x a
def T9(g:List (List Nat))(i j:Nat):Nat:=((List.range i).map λa=>(gf g a).count j).sum
theorem SK(g:List (List Nat))(i j:Nat):T9 g (i+1) j=T9 g i j+(gf g i).count j:=by
 unfold T9;rw[ko,jy,mc];simp
theorem Z7{g:List (List Nat)}(h:GB g)(j:Nat):∀i,i<=g.length->T9 g i j<=i*1048576
 | 0,_=>by simp[T9]
 | i+1,b=>by
  have:=Z7 h j i (by omega);have:=List.count_le_length (a:=j) (l:=gf g i);have:=h.len (i:=i) (by omega);rw[SK];omega
theorem i8(g:List (List Nat))(j:Nat):T9 g g.length j=NF g [] j:=by
 unfold T9 NF
 congr 1
theorem Wo(h:t<s.length)(j:Nat):(s.take (t+1)).count j=(s.take t).count j+if gs s t=j then 1 else 0:=by grind[ψ,Qi]
theorem iU(h:t<s.length):s.drop t=gs s t::s.drop (t+1):=by rw[Qi h];exact mM h
theorem vm(n:Nat):List.replicate n (D.raw (.int .i64 0))=(List.replicate n 0).map AY:=by rw[List.map_replicate];rfl
theorem oe(n k:Nat):gs (List.replicate n 0) k=0:=by
 unfold gs;rw[Ψ,List.getElem?_replicate];split<;>rfl
theorem uI{y v:Nat}(h:y<w.length):((w.set y v).map AY)[y]? =some (AY v):=by grind
theorem pe(h:GB g)(done:List Nat)(j:Nat):NF g done j<=g.length*1048576:=by
 have b:∀n,n<=g.length->((List.range n).map λi=>if i∈done then 0 else (gf g i).count j).sum<=n*1048576:=by
  intro n
  induction n with
  | zero=>intro _;exact κ _
  | succ n c=>
   intro s;have r:=c (by omega);have o:=List.count_le_length (a:=j) (l:=gf g n);have k:=h.len (i:=n) (by omega)
   have f:(if n∈done then 0 else (gf g n).count j)<=1048576:=by
    by_cases e:n∈done
    .rw[ϱ e];exact κ _
    .rw[ν e];exact jp o k
   rw[ko,jy,mc,nU,List.sum_singleton,Nat.succ_mul];exact Nat.add_le_add r f
 exact b _ (Θ _)
theorem tJ{q b:List Nat}{y:Nat}(c:GB g)(h:OI g K w q I (y::b))(f:y<g.length)(j:b.length<=1048576):gs w y<=69000000000:=by
 have o:=pe c I y;have k:=c.n;have i:=List.count_le_length (a:=y) (l:=y::b);rw[h.deg y f];rw[mH] at i;omega
theorem tK{q:List Nat}{x:Nat}(h:OI g K w q I ((gf g x).drop t))(e:t=(gf g x).length):OI g K w q I []:=by
 rw[e,List.drop_length] at h;exact h
noncomputable def kr(g:List (List Nat))(K:Nat->Nat):List Nat:=Classical.epsilon λout=>S4 g K out/\∀y,¬DZ g out y
theorem o5(i:∀a b,a<g.length->b<g.length->K a=K b->a=b)(f:S4 g K I)(c:∀y,¬DZ g I y):kr g K=I:=by
 have h:S4 g K (kr g K)/\∀y,¬DZ g (kr g K) y:=Classical.epsilon_spec (p:=λI=>S4 g K I/\∀y,¬DZ g I y) ⟨I,f,c⟩;exact gn i h.1 f h.2 c
structure FI (K:Nat->Nat) (w:List Nat) (i:Nat) (l:List Nat):Prop where
 nd:l.Nodup
 mem:∀x,x∈l↔x<i/\gs w x=0
 hp:JY K l
theorem FI.le(h:FI K w i s):s.length<=i:=by
 have:=cP h.nd (m:=List.range i) λx a=>Ω.2 ((h.mem x).1 a).1
 grind
theorem pI(K:Nat->Nat)(w:List Nat):FI K w 0 []:=⟨.nil,λx=>by simp,λi b a=>by simp at a⟩
theorem pK(h:FI K w i s)(c:gs w i=0):FI K w (i+1) (Nf K s i):=by
 have a:=Pd K s i;refine ⟨a.nodup_iff.2 (nA.2 ⟨λb=>ml _ ((h.mem i).1 b).1,h.nd⟩),λx=>?_,Pe h.hp i⟩;rw[a.mem_iff,jt,h.mem]
 grind
theorem pJ(h:FI K w i s)(a:gs w i≠0):FI K w (i+1) s:=by
 refine ⟨h.nd,λx=>?_,h.hp⟩;rw[h.mem]
 grind
structure CW (g:List (List Nat)) (i k:Nat) (w:List Nat):Prop where
 len:w.length=g.length
 val:∀j,j<g.length->gs w j=T9 g i j+((gf g i).take k).count j
theorem pj(g:List (List Nat)):CW g 0 0 (List.replicate g.length 0):=⟨by simp,λj _=>by rw[oe];simp[T9]⟩
theorem pk(c:GB g)(h:CW g i t w)(s:i<g.length)(o:t<(gf g i).length):
  gs (gf g i) t<w.length/\gs w (gs (gf g i) t)<=100000000000/\CW g i (t+1) (w.set (gs (gf g i) t) (gs w (gs (gf g i) t)+1)):=by
 have f:gs (gf g i) t<g.length:=c.suc s (EO o);have b:gs (gf g i) t<w.length:=by rw[h.len];exact f
 refine ⟨b,?_,⟨by simpa using h.len,λj r=>?_⟩⟩
 .rw[h.val _ f];have:=Z7 c (gs (gf g i) t) i (by omega);have:=List.count_le_length (a:=gs (gf g i) t) (l:=(gf g i).take t);rw[η] at this;have:=c.len s;have:=c.n;omega
 .rw[LK b,Wo o]
  by_cases e:gs (gf g i) t=j
  .rw[ϱ e.symm,ϱ e,e,h.val j r];omega
  .rw[ν λu=>e u.symm,ν e,h.val j r];omega
theorem uY(h:CW g i (gf g i).length w):CW g (i+1) 0 w:=⟨h.len,λj a=>by rw[h.val j a,kV,SK];simp⟩
theorem uZ(h:CW g g.length 0 w):w.length=g.length/\∀j,j<g.length->gs w j=NF g [] j:=
 ⟨h.len,λj a=>by rw[h.val j a,i8];simp⟩
def Ql(rs:List AW)(a b:cl):Prop:=(∃d∈dR rs a,d.2<0/\0<Af (dR rs b) d.1 0)\/b.id∈a.af
noncomputable instance (rs:List AW) (a b:cl):Decidable (Ql rs a b):=Classical.propDecidable _
theorem J9{b a:List u}{x:List u}{y:u}{c:List u}(h:(b++x).Perm c)(f:x.Perm (y::a)):((b++ [y])++a).Perm c:=by
 refine List.Perm.trans ?_ h;rw[lh];exact (List.Perm.append_left b f).symm
theorem gF{a:Type}{m:List (u×a)}{x:u×a}(h:m[A]? =some x):x∈m:=ϖ h
theorem nY(a b:cl×Nat)(H:M a.2=some (.map none (Nx (dR o a.1))))(w:M b.2=some (.map none (Nx (dR o b.1))))(R:a.1.af.length<=100000):
  AO prog 132 [.d (DL a),.d (DL b)] [(40,[.multi M])] λr H'=>r= .d (Am (decide (Ql o a.1 b.1)))/\H'=[(40,[.multi M])]:=by
 obtain ⟨a,l⟩:=a;obtain ⟨b,O⟩:=b;dsimp only at H w R⊢
 obtain ⟨L,T⟩:∃L,dR o a=L:=⟨_,Z⟩
 have I:Ql o a b↔((∃d∈L,d.2<0/\0<Af (dR o b) d.1 0)\/b.id∈a.af):=by rw[<-T];exact Iff.rfl
 rw[T] at H;refine As func132 Z Z ntmps132 Z Z Z λF S=>(AD (SX 40 l Z H (λ_ _=>rfl) λB c Y X=>?_))
 obtain ⟨C,s⟩:∃C,Bh M l (.map (some (B,c)) (Nx L))=C:=⟨_,Z⟩
 rw[s];have i:C l=some (.map (some (B,c)) (Nx L)):=by rw[<-s,H3]
 have z:∃bs,C O=some (.map bs (Nx (dR o b))):=by
  by_cases e:O=l
  .subst e;rw[H] at w;injection w with w;injection w with _ w;exact ⟨_,by rw[i,w]⟩
  .exact ⟨none,by rw[<-s,IV e];exact w⟩
 obtain ⟨bsb,z⟩:=z;have j:Bh C l (.map none (Nx L))=M:=by rw[<-s,Hm];exact Rk H
 refine AF (V (B7 20 Z Z Z Z Z Z Z) (V (B7 21 Z Z Z Z Z Z Z) (AB Z Z (AC ?_))));refine AD (AD (AF (J (AM Z O0 Z Z Z) (J (AQ Z Z Z Yr Z) (V (Qx 22 (f:=40) Z Z (i) Z C4 Z Z Z Z) (AC (AX (BC (α:=List Nat×List (AW×Int)) (λq=>⟨31,[(2,(.ptr 20 0 0)),(3,(.ptr 21 0 0)),(9,(.ptr 22 0 0))],[(20,[.blk 131 [.d (AE a.id),.d (AE a.pr),.d (AE a.sq),.d (.sl none (a.po.map Bd)),.d (.sl none (a.pa.map Cy)),.d (.sl none (a.af.map AE)),.d (mD l)]]),(21,[.blk 131 [.d (AE b.id),.d (AE b.pr),.d (AE b.sq),.d (.sl none (b.po.map Bd)),.d (.sl none (b.pa.map Cy)),.d (.sl none (b.af.map AE)),.d (mD O)]]),(22,[.iter 40 l c q.1]),(40,[.multi C])]⟩) (λq=>(q.2++CX L B q.1).Perm L/\∀d∈q.2,¬(d.2<0/\0<Af (dR o b) d.1 0)) (λq=>(CX L B q.1).length) (([],[])) (⟨by show ([]++CX L B []).Perm L;rw[Dl (by simpa [Bg] using Y)];exact List.Perm.refl _,(λd y=>by cases y)⟩) (AR S [20,21,22,40] Z Z ⟨Z,Z,Z,trivial⟩) ?_))))))));rintro ⟨seen,A⟩ ⟨K,N⟩;dsimp only at K N⊢;refine AD (AF (Yt (L) Z Z Z (i) Z (λE=>?_) (λQ k x D v G U g=>⟨_,Z,?_⟩)))
 .rw[E] at K;refine OQ 40 l Z i Z ?_;rw[j];refine J (D3 Z Z Z) (AC (AD (Cq Z Z (Aq (AD (AF (J (AM Z Jm Z Z Z) ?_)))))));refine J (AM Z GN Z Z Z) (J (AQ Z Z Z BL Z) (J (AM Z Jm Z Z Z) (J (AM Z QW Z Z Z) (J (AQ Z Z Z Ai Z) (J (Aj (QA a.af b.id (by omega)) Z Z) (AB Z Z (AC (A4 ?_))))))));exact ⟨_,[40],_,A2 Z,Z,Z,by rw[decide_eq_decide.2 (I.trans ⟨λh=>h.resolve_left λ⟨d,y,W⟩=>N d ((show A.Perm L by simpa using K).mem_iff.2 y) W,.inr⟩)],Z⟩
 .refine J (D3 Z Z Z) (AC (AD ?_));refine CM Z Z (AU (AX (AD (AF (J (RA (L) Q k Z Z Z (i) v G Z) (J (D3 Z Z Z) (J (D3 Z Z Z) (V (CP 23 MK Z Z Z Z) ?_))))))));refine V (Bi Z Z Z Z Z Z Z cz) (AB Z Z (AC (AD (AF (ch Z Z (J (At Z Z Z) (ch Z Z (C7 17 Z (λu=>?_) (λu=>?_)))))))))
  .refine AT Z Z Z (J (AM Z O0 Z Z Z) (AT Z Z Z (J (AQ Z Z Z Yr Z) ?_)));refine AT Z Z Z (J (Ap Z Z Cw Z Z Z) (AT Z Z Z (J (US (f:=40) (dR o b) x 0 _ Z Z z Z C4 Ck QU Z Z) (AT Z Z Z (J (H4 Z Z Z) (J (B8 Z Z Z Z) (AC (A5 Z (λt=>?_) (λt=>?_)))))))))
   .refine AD (qd 40 l Z i Z ?_);rw[j];refine AF (AB Z Z (AC (A4 ?_)));exact ⟨_,[40],_,A2 Z,Z,Z,by rw[Υ (I.2 (.inl ⟨_,gF v,u,t⟩))],Z⟩
   .refine AU ?_;exact ⟨(seen++ [k],A++ [(x,D)]),⟨J9 K g,λd y=>(υ.1 y).elim (N d) λe=>by rw[ξ.1 e];first | exact λh=>u h.1 | exact λh=>t h.2⟩,by show (CX L B (seen++ [k])).length<(CX L B seen).length;rw[g.length_eq];exact mN _,AR S [20,21,22,40] Z (Z) ⟨Z,Z,Z,trivial⟩⟩
  .refine AN Z Z Z Z (AN Z Z Z Z (AN Z Z Z Z (AN Z Z Z Z (AN Z Z Z Z (J (Bx Z Z Z Z) (AC (Cq Z Z (AU ?_))))))));exact ⟨(seen++ [k],A++ [(x,D)]),⟨J9 K g,λd y=>(υ.1 y).elim (N d) λe=>by rw[ξ.1 e];first | exact λh=>u h.1 | exact λh=>t h.2⟩,by show (CX L B (seen++ [k])).length<(CX L B seen).length;rw[g.length_eq];exact mN _,AR S [20,21,22,40] Z (Z) ⟨Z,Z,Z,trivial⟩⟩
def EA(E:List (cl×Nat))(k:Nat):cl:=(E.getD k (ek,0)).1
noncomputable def kq(rs:List AW)(E:List (cl×Nat))(a:cl)(k:Nat):List Nat:=(List.range k).filter λj=>decide (Ql rs a (EA E j))
noncomputable def kL(rs:List AW)(E:List (cl×Nat)):List (List Nat):=E.map λe=>kq rs E e.1 E.length
theorem YO(h:Ql o Y (EA E t)):kq o E Y (t+1)=kq o E Y t++ [t]:=by
 unfold kq;rw[ko,lv];simp[h]
theorem Oj(h:¬Ql o Y (EA E t)):kq o E Y (t+1)=kq o E Y t:=by
 unfold kq;rw[ko,lv];simp[h]
theorem OG(b:List AW)(E:List (cl×Nat))(a:cl)(k:Nat):(kq b E a k).length<=k:=by grind[kq]
theorem D8(a:t<E.length):EA E t=(E[t]).1:=by unfold EA;rw[Ψ,ω a];rfl
theorem Xz(a:List AW)(E:List (cl×Nat)):(kL a E).length=E.length:=χ _
theorem ZT(E:List (cl×Nat))(x:YI o M E)(C:E.length<=1000)(w:∀e∈E,e.1.af.length<=100000):
  AO prog 77 [.d (.sl none (E.map DL))] [(40,[.multi M])] λr D=>r= .d (Mr (kL o E))/\D=[(40,[.multi M])]:=by
 refine As func77 Z Z ntmps77 Z Z Z λF l=>?_;refine AD (AF (AB Z Z (AC (AD (AF (AB Z Z (AC (AD ?_))))))));refine AD (AF (ch Z Z (J (BU Z T1 Z) (ch Z Z (AC (AX (IU 3 10 Y9 Z Z Z Z (BC (α:=Nat×List (List Nat)) (λq=>⟨36,[(0,.d (.sl none (E.map DL))),(3,(.own 10 0 q.2.length)),(9,(.d (.sl none (E.map DL)))),(10,(.d (AE (E.length:Int)))),(11,(.d (AE (q.1:Int))))],[(10,[.rowD 28 1 (q.2.map j0)]),(40,[.multi M])]⟩) (λq=>q.1<=E.length/\q.2=(kL o E).take q.1) (λq=>E.length-q.1) ((0,[])) (⟨κ _,Z⟩) (AR l [10,40] Z Z ⟨Z,Z,Z,Z,Z,trivial⟩) ?_))))))));rintro ⟨i,G⟩ ⟨z,s⟩;dsimp only at z s⊢;refine AD (AF (J (At Z Z Z) (AC (AD (A5 Z (λg=>?_) (λg=>?_))))))
 .refine AU (AD (AX (AD ?_)));have b:i<E.length:=BF g;have B:G.length<=1000:=by rw[s,η];omega
  have j:=ϑ b;refine AF (J (Al (i) Z Z (Z) (AP b) T1 Z IN Z) ?_);refine J (CY Z Z NW Z) (V (CP 21 Oa Z Z Z Z) (V (Bi Z Z Z Z Z Z Z IN) (AC (AD (AF (AB Z Z (AC (AD ?_))))))));refine AD (AF (ch Z Z (J (BU Z T1 Z) (ch Z Z (AC (AX (IU 6 11 Ao Z Z Z Z (BC (α:=Nat×List Nat) (λq=>⟨36,[(0,.d (.sl none (E.map DL))),(3,(.own 10 0 G.length)),(5,(.ptr 21 0 0)),(6,(.own 11 0 q.2.length)),(9,(.d (.sl none (E.map DL)))),(10,(.d (AE (E.length:Int)))),(11,(.d (AE (i:Int)))),(15,(.d (.sl none (E.map DL)))),(16,(.d (AE (E.length:Int)))),(17,(.d (AE (q.1:Int))))],[(21,[.blk 131 [.d (AE (E[i]).1.id),.d (AE (E[i]).1.pr),.d (AE (E[i]).1.sq),.d (.sl none ((E[i]).1.po.map Bd)),.d (.sl none ((E[i]).1.pa.map Cy)),.d (.sl none ((E[i]).1.af.map AE)),.d (mD (E[i]).2)]]),(11,[.rowD 3 1 (q.2.map AY)]),(10,[.rowD 28 1 (G.map j0)]),(40,[.multi M])]⟩) (λq=>q.1<=E.length/\q.2=kq o E (E[i]).1 q.1) (λq=>E.length-q.1) ((0,[])) (⟨κ _,Z⟩) (AR l [21,11,10,40] Z Z ⟨Z,Z,Z,Z,Z,Z,Z,Z,Z,Z,trivial⟩) ?_))))))));rintro ⟨k,T⟩ ⟨y,h⟩;dsimp only at y h⊢;refine AD (AF (J (At Z Z Z) (AC (AD (A5 Z (λf=>?_) (λf=>?_))))))
  .refine AU (AD (AX (AD ?_)));have a:k<E.length:=BF f;have A:T.length<=1000:=by have:=OG o E (E[i]).1 k;rw[<-h] at this;omega
   have v:=ϑ a;refine AF (ch Z Z (J (Al (k) Z Z (Z) (AP a) T1 Z IN Z) (J (CY Z Z NW Z) (V (CP 22 Oa Z Z Z Z) (AB Z Z ?_)))));refine V (Bi Z Z Z Z Z Z Z IN) (AC (AD (AF (J (Ap Z Z NW Z Z Z) (J (Ap Z Z NW Z Z Z) (V (FX (nY E[i] E[k] (x _ j) (x _ v) (w _ j)) Z [40] ⟨Z,trivial⟩ Z Z Z Z Z Z Z Z Z) (AC (A5 Z (λc=>?_) (λc=>?_)))))))))
   .refine AF (ch Z Z ?_);refine ch Z Z (V (CF 30 Ao Z Z Z Z Z Z Z Z) (V (DN (T) ([k]) Z Z Z Z Z Z Z Z Ao (by simp only[ζ];omega) Z Z Z Z) (AB Z Z (AC (AF (J (Ad Z Z (AJ (k+1) (by omega)) Z) (ch Z Z (AC ?_))))))));exact ⟨(k+1,T++ [k]),⟨a,by show _=kq o E _ (k+1);rw[YO (by rw[D8 a];exact c),h]⟩,by show E.length-(k+1)<E.length-k;omega,AR l [21,11,10,40] Z (Z) ⟨Z,Z,Z,Z,Z,Z,Z,Z,Z,Z,trivial⟩⟩
   .refine AU (AF (J (Ad Z Z (AJ (k+1) (by omega)) Z) (ch Z Z (AC ?_))));exact ⟨(k+1,T),⟨a,by show _=kq o E _ (k+1);rw[Oj (by rw[D8 a];exact c),h]⟩,by show E.length-(k+1)<E.length-k;omega,AR l [21,11,10,40] Z (Z) ⟨Z,Z,Z,Z,Z,Z,Z,Z,Z,Z,trivial⟩⟩
  .refine Aq ?_;have t:k=E.length:=by have:=f;omega
   rw[t] at h;refine Fb (emb:=AY) 6 11 T Z Z Z Z Z Z Z ?_;rw[h];refine AF (ch Z Z ?_);refine ch Z Z (V (CF 31 Y9 Z Z Z Z Z Z Z Z) (V (DN (G) ([kq o E (E[i]).1 E.length]) Z Z Z Z Z Z Z Z Y9 (by simp only[ζ];omega) Z Z Z Z) (AB Z Z (AC (AF (J (Ad Z Z (AJ (i+1) (by omega)) Z) (ch Z Z (AC ?_))))))));exact ⟨(i+1,G++ [kq o E (E[i]).1 E.length]),⟨b,by show _=(kL o E).take (i+1);rw[s,ψ (by rw[Xz];exact b)];congr 1;simp[kL]⟩,by show E.length-(i+1)<E.length-i;omega,AR l [10,40] Z (Z) ⟨Z,Z,Z,Z,Z,trivial⟩⟩
 .refine Aq (AD ?_);have u:i=E.length:=by have:=g;omega
  refine Fb (emb:=j0) 3 10 G Z Z Z Z Z Z Z ?_;rw[s,u,θ (by rw[Xz];exact Θ _)];refine AF (ch Z Z (AB Z Z (AC (A4 ?_))));exact ⟨_,[40],_,A2 Z,Z,Z,Z,Z⟩
def BQ(E:List (cl×Nat))(l:List Nat):List Int:=l.map λk=>(EA E k).id
theorem sA(E:List (cl×Nat))(l:List Nat)(r:∀k∈l,k<E.length)(o:l.length<=1000000):AI prog 78 [.d (.sl none (E.map DL)),.d (j0 l)] (.sl none ((BQ E l).map AE)):=by
 refine As func78 Z Z ntmps78 Z Z Z λF j=>?_;refine AD (AF (AB Z Z (AC (AD (AF (AB Z Z (AC (AD ?_))))))));refine AD (AF (ch Z Z (J (I2 Z (χ ..) E0 Z) (ch Z Z (AC (AX (IU 5 10 Ao Z Z Z Z (BC (α:=Nat×List Int) (λq=>⟨25,[(0,.d (.sl none (E.map DL))),(5,(.own 10 0 q.2.length)),(8,(.d (j0 l))),(9,(.d (AE (l.length:Int)))),(10,(.d (AE (q.1:Int))))],[(10,[.rowD 3 1 (q.2.map AE)])]⟩) (λq=>q.1<=l.length/\q.2=BQ E (l.take q.1)) (λq=>l.length-q.1) ((0,[])) (⟨κ _,Z⟩) (AR j [10] Z Z ⟨Z,Z,Z,Z,Z,trivial⟩) ?_))))))));rintro ⟨k,T⟩ ⟨s,f⟩;dsimp only at s f⊢;refine AD (AF (J (At Z Z Z) (AC (AD (A5 Z (λb=>?_) (λb=>?_))))))
 .refine AU (AD (AX (AD ?_)));have a:k<l.length:=BF b;have t:T.length<=1000000:=by rw[f];unfold BQ;rw[χ,η];omega
  have c:l[k]<E.length:=r _ (ϑ a);have h:(l.map AY)[k]? =some (AY l[k]):=AP a;have i:(E.map DL)[l[k]]? =some (DL E[l[k]]):=AP c;refine AF (J (Al (k) Z Z (Z) (h) E0 Z BK Z) (J (BZ Z Z Ai Z) (AB Z Z ?_)));refine AC (AF (ch Z Z (ch Z Z (ch Z Z (J (Al (l[k]) Z Z (Z) (i) T1 Z IN Z) (J (KL Z Jm Z Z Z) (J (Gw Z QW Z Z Z) (J (BZ Z Z Ai Z) ?_))))))));rw[show ((E[l[k]]).1.id:Int)=(EA E l[k]).id by rw[D8 c]];refine V (CF 30 Ao Z Z Z Z Z Z Z Z) (V (DN (T) ([(EA E l[k]).id]) Z Z Z Z Z Z Z Z Ao (by simp only[ζ];omega) Z Z Z Z) (AB Z Z (AC (AF (J (Ad Z Z (AJ (k+1) (by omega)) Z) (ch Z Z (AC ?_)))))));exact ⟨(k+1,T++ [(EA E l[k]).id]),⟨a,by show _=BQ E (l.take (k+1));rw[f];unfold BQ;rw[ψ a,jy];rfl⟩,by show l.length-(k+1)<l.length-k;omega,AR j [10] Z (Z) ⟨Z,Z,Z,Z,Z,trivial⟩⟩
 .refine Aq (AD ?_);have g:k=l.length:=by have:=b;omega
  rw[g,kV] at f;refine Fb (emb:=AE) 5 10 T Z Z Z Z Z Z Z ?_;rw[f];refine AF (ch Z Z (AB Z Z (AC (A4 ?_))));exact ⟨_,[],[],A2 Z,Z,Z,Z,Z⟩
end Go.Proofs.YteifpcnphnhaoaaGreat
namespace Go.Proofs.YteifpcnphnhaoaaGreat
variable{E:List (cl×Nat)}{f:Nat->Nat}{U:List (AW×Nat)}{a:List AW}{C:Nat->Nat->Prop}{c:Nat->AW->Prop}{g:Prop}{k h j:Nat}{i:AW}{o s t:Nat}
noncomputable def dec(p:Prop):Bool:= @decide p (Classical.propDecidable p)
theorem G8:dec g=true↔g:= @decide_eq_true_iff g (Classical.propDecidable g)
theorem Vu(h:g):dec g=true:=G8.2 h
theorem i4(h:¬g):dec g=false:=by grind[dec]
theorem i5{q:Prop}[Decidable g](h:g↔q):decide g=dec q:=by grind[Vu,i4]
def QS(rs:List AW)(a b:cl):Prop:=b.id∈a.af\/a.id∈b.af\/∃r,r∈(dR rs a).map Prod.fst/\r∈(dR rs b).map Prod.fst
noncomputable instance (rs:List AW) (a b:cl):Decidable (QS rs a b):=Classical.propDecidable _
theorem QS.symm{c b:cl}(h:QS a c b):QS a b c:=by grind[QS]
noncomputable def tT(rs:List AW)(E:List (cl×Nat))(i:Nat):List Nat:=(List.range E.length).filter λj=>decide (i<E.length/\QS rs (EA E i) (EA E j))
theorem Er:j∈tT a E t↔t<E.length/\j<E.length/\QS a (EA E t) (EA E j):=by grind[tT]
def Cn(rs:List AW)(E:List (cl×Nat)):Nat->Nat->Prop:=Rh (tT rs E)
theorem Rh.sym{c:Nat->List Nat}(g:∀i j,j∈c i->i∈c j)(h:Rh c s o):Rh c o s:=by
 induction h with
 | refl=>exact .refl _
 | step _ e f=>exact (Rh.one (g _ _ e)).trans f
theorem Cn.symm(h:Cn a E t j):Cn a E j t:=
 Rh.sym (λt j h=>Er.2 ⟨(Er.1 h).2.1,(Er.1 h).1,(Er.1 h).2.2.symm⟩) h
def E5(f:Nat->Nat)(a b:Nat):Nat->Nat:=λk=>if f k=max (f a) (f b) then min (f a) (f b) else f k
theorem Hs(h:f t=f j):E5 f s o t=E5 f s o j:=by unfold E5;rw[h]
theorem Rp:E5 f s o s=E5 f s o o:=by grind[E5]
structure UF (n:Nat) (C:Nat->Nat->Prop) (f:Nat->Nat):Prop where
 le:∀k,k<n->f k<=k
 ff:∀k,k<n->f (f k)=f k
 snd:∀i j,i<n->j<n->f i=f j->C i j
theorem UF.join(c:UF h C f)(x:∀i j k,C i j->C j k->C i k)(y:∀i j,C i j->C j i)(v:s<h)(u:o<h)(r:C s o):UF h C (E5 f s o):=by
 have z:min (f s) (f o)=f s\/min (f s) (f o)=f o:=by omega
 have F:max (f s) (f o)=f s\/max (f s) (f o)=f o:=by omega
 have B:f (min (f s) (f o))=min (f s) (f o):=by
  rcases z with e | e
  .rw[e];exact c.ff s v
  .rw[e];exact c.ff o u
 have E:∀i,i<h->f i=max (f s) (f o)->C i s:=λi l e=>by
  rcases F with g | g
  .exact c.snd i s l v (e.trans g)
  .exact x _ _ _ (c.snd i o l u (e.trans g)) (y _ _ r)
 have D:∀i,i<h->f i=min (f s) (f o)->C i s:=λi l e=>by
  rcases z with g | g
  .exact c.snd i s l v (e.trans g)
  .exact x _ _ _ (c.snd i o l u (e.trans g)) (y _ _ r)
 refine ⟨λk t=>?_,λk t=>?_,λi j l A e=>?_⟩
 .have:=c.le k t;unfold E5;split<;>omega
 .by_cases e:f k=max (f s) (f o)
  .grind[E5]
  .have w:E5 f s o k=f k:=ν e;rw[w];unfold E5;rw[c.ff k t,ν e]
 .unfold E5 at e
  by_cases w:f i=max (f s) (f o)<;>by_cases g:f j=max (f s) (f o)
  .grind
  .grind
  .grind
  .rw[ν w,ν g] at e;exact c.snd i j l A e
theorem UF.id(n:Nat)(a:∀i,C i i):UF n C (λk=>k):=⟨λ_ _=>Θ _,λ_ _=>rfl,λi j _ _ (e:i=j)=>by subst e;exact a i⟩
noncomputable def me(n:Nat)(C:Nat->Nat->Prop):List (List Nat):=((List.range n).filter λk=>dec (∀j,j<k->¬C k j)).map λk=>(List.range n).filter λj=>dec (C k j)
def bP(n:Nat)(f:Nat->Nat)(k:Nat):List Nat:=(List.range n).filter λj=>decide (f j=k)
def LT(n m:Nat)(f:Nat->Nat):List (List Nat):=((List.range m).filter λk=>decide (f k=k)).map (bP n f)
theorem gI{m:Nat}(a:f m=m):LT h (m+1) f=LT h m f++ [bP h f m]:=by
 unfold LT;rw[ko,lv,jy];simp[a]
theorem bO{m:Nat}(a:¬f m=m):LT h (m+1) f=LT h m f:=by
 unfold LT;rw[ko,lv,jy];simp[a]
theorem gH(n m:Nat)(f:Nat->Nat):(LT n m f).length<=m:=by grind[LT]
theorem ov(a:UF h C f)(w:∀i j,i<h->j<h->C i j->f i=f j):LT h h f=me h C:=by
 have g:∀k,k<h->(f k=k↔∀j,j<k->¬C k j):=λk b=>by
  constructor
  .intro e j v t;have y:=w k j b (by omega) t;have u:=a.le j (by omega);omega
  .intro x;have y:=a.le k b;rcases Nat.lt_or_ge (f k) k with u | u
   .exact absurd (a.snd k (f k) b (by omega) (a.ff k b).symm) (x _ u)
   .omega
 unfold LT me;rw[show ((List.range h).filter λk=>decide (f k=k))=(List.range h).filter λk=>dec (∀j,j<k->¬C k j) from lr λk b=>i5 (g k (Ω.1 b))];refine kQ λk b=>?_;obtain ⟨s,r⟩:=Φ.1 b;have c:=Ω.1 s;have o:f k=k:=(g k c).2 (G8.1 r);unfold bP;refine lr λj v=>i5 ?_;have l:=Ω.1 v;exact ⟨λe=>a.snd k j c l (by rw[o,e]),λt=>by rw[<-w k j c l t,o]⟩
structure Qm (rs:List AW) (E:List (cl×Nat)) (P:Nat->AW->Prop) (U:List (AW×Nat)) (f:Nat->Nat):Prop where
 ok:∀e∈U,e.2<E.length/\e.1∈(dR rs (EA E e.2)).map Prod.fst
 has:∀k r,P k r->r∈U.map Prod.fst/\f (Af U r 0)=f k
theorem Qm.keep{P:Nat->AW->Prop}{b:Nat->Nat}(h:Qm a E P U f)(g:∀i j,f i=f j->b i=b j):Qm a E P U b:=
 ⟨h.ok,λk r c=>⟨(h.has k r c).1,g _ _ (h.has k r c).2⟩⟩
theorem Qm.mono{P:Nat->AW->Prop}(h:Qm a E P U f)(b:∀k r,c k r->P k r):Qm a E c U f:=⟨h.ok,λk r g=>h.has k r (b k r g)⟩
theorem ol(h:i∈U.map Prod.fst):(i,Af U i 0)∈U:=Iw h
theorem Qm.new{P:Nat->AW->Prop}(h:Qm a E P U f)(j:i∉U.map Prod.fst)(v:k<E.length)(u:i∈(dR a (EA E k)).map Prod.fst)(l:∀b s,c b s->P b s\/(b=k/\s=i)):Qm a E c (B1 U i k) f:=by
 rw[Ed j];refine ⟨λe g=>?_,λb s o=>?_⟩
 .rcases υ.1 g with g | g
  .exact h.ok e g
  grind
 .rw[<-Ed j,Iv];rcases l b s o with t | ⟨rfl,rfl⟩
  .obtain ⟨x,w⟩:=h.has b s t
   grind[Ed]
  grind[Ed]
theorem Qm.join{P:Nat->AW->Prop}(h:Qm a E P U f)(j:i∈U.map Prod.fst)(l:∀b s,c b s->P b s\/(b=k/\s=i)):Qm a E c U (E5 f (Af U i 0) k):=
 ⟨h.ok,λb s o=>(l b s o).elim (λg=>⟨(h.has b s g).1,Hs (h.has b s g).2⟩) λ⟨u,t⟩=>by subst u t;exact ⟨j,Rp⟩⟩
theorem Qm.zero(a:List AW)(E:List (cl×Nat))(f:Nat->Nat):Qm a E (λ_ _=>False) [] f:=⟨λe b=>(by cases b),λk r h=>h.elim⟩
def ON(E:List (cl×Nat))(k:Nat):List (Int×Nat):=(List.range k).map λj=>((EA E j).id,j)
theorem eo(E:List (cl×Nat))(k:Nat):ON E (k+1)=ON E k++ [((EA E k).id,k)]:=by unfold ON;rw[ko,jy];rfl
theorem Yg{x:Int}:x∈(ON E k).map Prod.fst↔∃j,j<k/\(EA E j).id=x:=by grind[ON]
def jX(E:List (cl×Nat)):Prop:=∀i j,i<E.length->j<E.length->(EA E i).id=(EA E j).id->i=j
theorem oU(c:jX E)(b:k<E.length):B1 (ON E k) (EA E k).id k=ON E (k+1):=by
 rw[Ed λa=>by
  obtain ⟨j,f,e⟩:=Yg.1 a;have:=c j k (by omega) b e
  omega,eo]
theorem Yf(a:jX E){x:Int}(h:x∈(ON E E.length).map Prod.fst):Af (ON E E.length) x 0<E.length/\(EA E (Af (ON E E.length) x 0)).id=x:=by grind[ON,Iw]
theorem ep(b:jX E)(a:j<E.length):(EA E j).id∈(ON E E.length).map Prod.fst/\Af (ON E E.length) (EA E j).id 0=j:=by
 have c:(EA E j).id∈(ON E E.length).map Prod.fst:=Yg.2 ⟨j,a,Z⟩;obtain ⟨g,f⟩:=Yf b c;exact ⟨c,b _ _ g a f⟩
end Go.Proofs.YteifpcnphnhaoaaGreat
namespace Go.Proofs.YteifpcnphnhaoaaGreat
open Go.RowKit
variable{a:Nat->List Nat}{c:List (Nat×Nat)}{f:Nat}{S:TS}{g k h:Nat}{i j:Nat->Nat}{o:Nat->Int}{s:Nat}{x:Nat×Nat}{t:Nat}
abbrev rowN(n:Nat)(f:Nat->Nat):List D:=(List.range n).map λv=>AY (f v)
abbrev IX(n:Nat)(f:Nat->Int):List D:=(List.range n).map λv=>AE (f v)
theorem O9{n i:Nat}{f:Nat->Nat}(h:i<n):(rowN n f)[i]? =some (AY (f i)):=by simp[h]
theorem dz(h:s<f):(IX f o)[s]? =some (AE (o s)):=by simp[h]
theorem OK{a h:Nat->D}(c:∀j,j<f->j≠s->a j=h j){x:D}(b:x=h s):((List.range f).map a).set s x=(List.range f).map h:=by
 refine lg (by simp) λj k g=>?_
 grind
theorem EJ{x:Nat}:(rowN f i).set s (AY x)=rowN f (BH i s x):=by grind[OK,H5,MJ]
theorem dy{x:Int}:(IX f o).set s (AE x)=IX f (BH o s x):=by grind[OK,H5,MJ]
theorem EK(n:Nat)(f:Nat->Nat):(rowN n f).length=n:=by simp
theorem UY(n:Nat)(f:Nat->Int):(IX n f).length=n:=by simp
theorem sy(n:Nat):List.replicate n (D.raw (.int .i64 0))=rowN n (λ_=>0):=by
 refine lg (by simp) λj b a=>?_
 simp
theorem xa(n:Nat):List.replicate n (D.raw (.int .i64 0))=IX n (λ_=>0):=by
 refine lg (by simp) λj b a=>?_
 simp
abbrev bd(f:Nat×Nat):D:= .agg [AY f.1,AY f.2]
def pend:Option Nat->List (Nat×Nat)
 | none=> []
 | some v=> [(v,0)]
theorem Mt{l j:List (Nat×Nat)}(h:k=l.length):((l++ [x]++j).map bd)[k]? =some (bd x):=by
 subst h;simp
theorem x6{l j:List (Nat×Nat)}{y:Nat×Nat}(h:k=l.length):((l++ [x]++j).map bd).set k (bd y)=(l++ [y]++j).map bd:=by
 subst h;simp
theorem vZ(l j:List (Nat×Nat)){x:Nat×Nat}:((l++j).map bd).take l.length++ [bd x].take 1=(l++ [x]).map bd:=by
 rw[<-List.map_take,List.take_left];simp
theorem tU(a b:Nat):(if (b:Int)<(a:Int) then (b:Int) else (a:Int))=((min a b:Nat):Int):=by
 split<;>omega
def mu(n:Nat)(suc:Nat->List Nat)(S:TS):Nat:=((List.range n).map λv=>if S.idx v=0 then (suc v).length+1 else 0).sum+(S.cs.map λf=>(suc f.1).length-f.2+1).sum
theorem fi{n:Nat}{a:Nat->List Nat}{S:TS}{v:Nat}(g:v<n)(j:S.idx v=0){l:Nat->Nat}{st:List Nat}{c:Nat}:
  mu n a ⟨BH S.idx v (S.clk+1),l,S.of,st,S.cs++ [(v,0)],S.cnt,c⟩=mu n a S:=by
 unfold mu;dsimp only
 have:=YX (n:=n) (i:=v) (f:=λv=>if S.idx v=0 then (a v).length+1 else 0) (h:=λu=>if BH S.idx v (S.clk+1) u=0 then (a u).length+1 else 0) (c:=(a v).length+1) g
  (λk _ b=>by rw[H5 b]) (by rw[MJ,ϱ j,ν (by omega)];omega)
 grind
theorem XZ(b:S.cs=c++ [(h,k)])(g:k<(a h).length):mu f a {S with low:=j,cs:=c++ [(h,k+1)]}<mu f a S:=by grind[mu]
theorem fj(b:S.cs=c++ [(h,k)]){o:Nat->Int}{i:List Nat}{g:Nat}:mu f a ⟨S.idx,j,o,i,c,g,S.clk⟩<mu f a S:=by grind[mu]
structure TH (n:Nat) (suc:Nat->List Nat) (r:Nat) (S:TS) (p:Option Nat):Prop where
 ti:TI n suc S p
 k1:∀f∈S.cs,1<=f.2
 old:∀v,v<r->S.idx v≠0
 rt:S.idx r≠0\/p=some r
structure TB (n:Nat) (suc:Nat->List Nat) (r:Nat) (S:TS) (cs0:List (Nat×Nat)) (v k:Nat):Prop where
 ti:TI n suc S none
 hcs:S.cs=cs0++ [(v,k)]
 k1:∀f∈cs0,1<=f.2
 old:∀v,v<r->S.idx v≠0
 rt:S.idx r≠0
theorem nc{p:Option Nat}(h:TH f a g S p)(c:S.cs++pend p≠ []):∃b v k,S.cs++pend p=b++ [(v,k)]/\v<f/\(k=0->S.cs=b/\p=some v)/\(k≠0->S.cs=b++ [(v,k)]/\p=none):=by
 cases p with
 | some v=>exact ⟨S.cs,v,0,Z,(h.ti.pnd v Z).1,λ_=>⟨Z,Z⟩,λh=>(h Z).elim⟩
 | none=>
  rw[pend,kY] at c⊢;rcases List.eq_nil_or_concat S.cs with e | ⟨l,⟨v,k⟩,e⟩
  .grind
  .rw[List.concat_eq_append] at e;have i:(v,k)∈S.cs:=by rw[e];exact mG _ (ξ.2 Z)
   have:=h.k1 _ i;have j:=h.ti.lt v ((h.ti.st v).1 (h.ti.csm _ i)).1
   grind
theorem cw(b:TH f a g S (some h)):
  TB f a g ⟨BH S.idx h (S.clk+1),BH S.low h (S.clk+1),S.of,S.st++ [h],S.cs++ [(h,0)],S.cnt,S.clk+1⟩ S.cs h 0:=by
 refine ⟨ct b.ti,Z,b.k1,λw c=>?_,?_⟩
 .show BH S.idx h (S.clk+1) w≠0
  by_cases e:w=h
  .subst e;rw[MJ];omega
  .rw[H5 e];exact b.old w c
 .show BH S.idx h (S.clk+1) g≠0
  by_cases e:g=h
  .subst e;rw[MJ];omega
  .rw[H5 e];exact b.rt.resolve_right λi=>e (Option.some.inj i).symm
theorem sc(b:TH f a g S none)(j:S.cs=c++ [(h,k)]):TB f a g S c h k:=
 ⟨b.ti,j,λi l=>b.k1 i (by rw[j];exact mJ _ l),b.old,b.rt.resolve_right λe=>by cases e⟩
theorem Wn(b:TB f a g S c h k):h<f/\h∈S.st/\S.idx h≠0/\k<=(a h).length:=by
 have i:(h,k)∈S.cs:=by rw[b.hcs];exact mG _ (ξ.2 Z)
 have l:=b.ti.csm _ i;have j:=((b.ti.st h).1 l).1;exact ⟨b.ti.lt h j,l,j,(b.ti.gry _ i).1⟩
theorem sd(b:TB f a g S c h k)(z:(a h)[k]? =some t)(o:t<f)(s:S.idx t=0):
  TH f a g {S with cs:=c++ [(h,k+1)]} (some t):=by
 refine ⟨Wm b.ti b.hcs z o (low':=S.low) (λw=>Θ _) (λw u=>(b.ti.lw w u).2) (.inr Z) (λx e=>⟨(Option.some.inj e).symm,s⟩) (λy=>absurd s ((b.ti.st t).1 y).1),λi l=>?_,b.old,.inl b.rt⟩;rcases υ.1 l with l | l
 .exact b.k1 i l
 grind
theorem se(b:TB f a g S c h k)(z:(a h)[k]? =some t)(s:t<f)(A:S.idx t≠0)(B:S.of t<0):
  TH f a g {S with low:=BH S.low h (min (S.low h) (S.idx t)),cs:=c++ [(h,k+1)]} none:=by
 have o:t∈S.st:=(b.ti.st t).2 ⟨A,B⟩;refine ⟨Wm b.ti b.hcs z s (λw=>?_) (λw u=>?_) (.inl A) (λx e=>by cases e) (λ_=>by rw[MJ];omega),λi l=>?_,b.old,.inl b.rt⟩
 .grind[MJ,H5]
 .by_cases e:w=h
  .subst e;rw[MJ];rcases Nat.lt_or_ge (S.idx t) (S.low w) with C | C
   .exact ⟨t,o,by omega,Rh.one (ϖ z)⟩
   .obtain ⟨y,D,F,E⟩:=(b.ti.lw w u).2
    grind
  .rw[H5 e];exact (b.ti.lw w u).2
 .rcases υ.1 l with l | l
  .exact b.k1 i l
  grind
theorem nj(b:TB f a g S c h k)(z:(a h)[k]? =some t)(o:t<f)(A:S.idx t≠0)(u:¬S.of t<0):
  TH f a g {S with cs:=c++ [(h,k+1)]} none:=by
 refine ⟨Wm b.ti b.hcs z o (low':=S.low) (λw=>Θ _) (λw s=>(b.ti.lw w s).2) (.inl A) (λx e=>by cases e) (λy=>absurd ((b.ti.st t).1 y).2 u),λi l=>?_,b.old,.inl b.rt⟩;rcases υ.1 l with l | l
 .exact b.k1 i l
 grind
theorem wU(a b:Nat):(if (b:Int)>(a:Int) then (b:Int) else (a:Int))=((max a b:Nat):Int):=by split<;>omega
def bS(f:Nat->Nat)(a b k:Nat):Nat->Nat:=λj=>if j<k then E5 f a b j else f j
theorem gQ(f:Nat->Nat)(a b:Nat):bS f a b 0=f:=by funext j;unfold bS;rw[ν (by omega)]
theorem tk(f:Nat->Nat)(a b k:Nat):bS f a b k k=f k:=ν (by omega)
theorem ox{a b:Nat}(h:i k=max (i a) (i b)):BH (bS i a b k) k (min (i a) (i b))=bS i a b (k+1):=by grind[MJ,bS,E5,H5]
theorem gR{a b:Nat}(h:¬i k=max (i a) (i b)):bS i a b (k+1)=bS i a b k:=by grind[bS,E5]
theorem RJ{n:Nat}{f h:Nat->Nat}(e:∀j,j<n->f j=h j):rowN n f=rowN n h:=by simp_all
abbrev HJ(n:Nat)(f:Nat->Nat):Hp:=[(930,[.blk 28 [.own 931 0 n]]),(931,[.rowD 3 1 (rowN n f)])]
set_option maxRecDepth 100000 in
theorem ZO(n:Nat)(f:Nat->Nat)(a b:Nat)(s:a<n)(o:b<n)(w:n<=100000):AO prog 67 [.d (AY a),.d (AY b),.ptr 930 0 0] (HJ n f) λr v=>r= .tup []/\v=HJ n (E5 f a b):=by
 refine As func67 Z Z ntmps67 Z Z Z λF t=>(AD (Bq [[],[],[0,1],[0,1,2],[],[],[4,5],[4,5,6],rg 8,[],[],[9,10],[9,10,11],[],[],[13,14],[13,14,15],[9,10,11,12,13,14,15,16],rg 9,rg 19] mixed Z (B2 (Ay [2] Z Z (λ_=>Aa (AQ Z Z Z BL Z)) (A7 0 Z Z (Ay [8,9] Z Z (λ_=>Aa (D1 (a) Z Z (Z) (s) Z E0 BK Z)) (Ay [10] Z Z (λ_=>Aa (E1 Z Z (O9 s) Z Ai Z)) (Ay [2] Z Z (λ_=>Aa (AQ Z Z Z BL Z)) ?_))))))));refine A7 1 Z Z (Ay [12,13] Z Z (λ_=>Aa (D1 (b) Z Z (Z) (o) Z E0 BK Z)) (Ay [14] Z Z (λ_=>Aa (E1 Z Z (O9 o) Z Ai Z)) (AK [11,15] Z (MR Z Z (wU _ _) Z) (Ay [2] Z Z (λ_=>Aa (AQ Z Z Z BL Z)) (A7 0 Z Z (Ay [17,18] Z Z (λ_=>Aa (D1 (a) Z Z (Z) (s) Z E0 BK Z)) (Ay [19] Z Z (λ_=>Aa (E1 Z Z (O9 s) Z Ai Z)) (Ay [2] Z Z (λ_=>Aa (AQ Z Z Z BL Z)) ?_))))))));refine A7 1 Z Z (Ay [21,22] Z Z (λ_=>Aa (D1 (b) Z Z (Z) (o) Z E0 BK Z)) (Ay [23] Z Z (λ_=>Aa (E1 Z Z (O9 o) Z Ai Z)) (AK [20,24] Z (Sc Z Z (tU _ _) Z) (AK [16] Z (J5 Z Z) (BV 19 Z Z Z (A0 20 Z Z (AB Z Z (AC ⟨Z,?_⟩))))))));refine Bb (AD (AF (J (AQ Z Z Z BL Z) (J (SZ Z E0 Z) (ch Z Z (AC (AX ?_)))))));have u:rowN n f=rowN n (bS f a b 0):=(by rw[gQ]);unfold HJ;rw[u];refine BC (α:=Nat) (λk=>⟨42,[(2,(.ptr 930 0 0)),(5,(.d (AY (max (f a) (f b))))),(6,(.d (AY (min (f a) (f b))))),(27,(.d (AY n))),(28,(.d (AY k)))],[(930,[.blk 28 [.own 931 0 n]]),(931,[.rowD 3 1 (rowN n (bS f a b k))])]⟩) (λk=>k<=n) (λk=>n-k) (0) (κ _) (AR t [930,931] Z Z ⟨Z,Z,Z,Z,Z,trivial⟩) ?_;rintro k x;refine AD (AF (J (At Z Z Z) (AC (AD (A5 Z (λl=>?_) (λl=>?_))))))
 .refine AU (AD (AX (AD ?_)));have c:k<n:=BF l;refine AF ?_;refine ch Z Z (AB Z Z (AC (AD (AF (J (AQ Z Z Z BL Z) (ch Z Z (J (D1 (k) Z Z (Z) (c) Z E0 BK Z) (J (E1 Z Z (O9 c) Z Ai Z) ?_))))))));rw[tk];refine ch Z Z (J (Fa Z Z Z) (AC (A5 Z (λi=>?_) (λi=>?_))))
  .have g:f k=max (f a) (f b):=Int.ofNat.inj i;refine AF (J (AQ Z Z Z BL Z) (ch Z Z (ch Z Z (J (D1 (k) Z Z (Z) (c) Z E0 BK Z) (V (Zp Z Z Z Z Z (by rw[EK];exact c) EJ Z BK) ?_)))));rw[ox g];refine AC (AF (J (Ad Z Z (AJ (k+1) (by omega)) Z) (ch Z Z (AC ?_))));exact ⟨k+1,c,by omega,AR t [930,931] Z (Z) ⟨Z,Z,Z,Z,Z,trivial⟩⟩
  .have g:¬f k=max (f a) (f b):=λe=>i (by rw[e]);refine AU (AF (J (Ad Z Z (AJ (k+1) (by omega)) Z) (ch Z Z (AC ?_))));exact ⟨k+1,c,by omega,AR t [930,931] Z (by simp only[gR g];rfl) ⟨Z,Z,Z,Z,Z,trivial⟩⟩
 .refine Aq ?_;exact ⟨_,[930,931],_,A2 Z,Z,Z,Z,by rw[RJ (f:=E5 f a b) (h:=bS f a b k) λj y=>by unfold bS;rw[ϱ (by have:=l;omega)]]⟩
end Go.Proofs.YteifpcnphnhaoaaGreat
