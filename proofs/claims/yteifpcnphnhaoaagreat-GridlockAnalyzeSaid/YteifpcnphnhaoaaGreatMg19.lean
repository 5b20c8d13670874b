import Derived.Test.YteifpcnphnhaoaaGreatMg18
import Derived.Shelf.SlSortCmp.Whole1
open Go.Proofs.Tryz
set_option maxHeartbeats 4000000
namespace Go.Proofs.YteifpcnphnhaoaaGreat
open Go.RowKit Go.Shelf
open Go.Sort (putRow Holds PermIn SortedIn SWO mapBlock onCells putCells)
variable{P:Program}
section
variable{ρr:Ren}{τ:Type}
variable{a:Option (Nat×Bool)}{c:Array TypeId}{f:Array Edge}{g:Type}{h:g->Value}{i:Array Obj}{j:Array g}{k:String}{o:TypeId}{w:World}{s:FuncId}{t:Nat}{u:AV}{F:Fr}{x:AS}{y:Nat}
theorem vI[Inhabited g]{c m:Nat}{a:Nat}(k:a≠y)(f:a<w.heap.size):(sortWorld h w y c m j i).heap[a]? =w.heap[a]?:=by
 unfold sortWorld;rw[Go.Sort.heap_grow_old _ _ (by rw[Go.Sort.size_putRow];exact f)];show (w.heap.modify y _)[a]? =_
 grind
theorem Hb[Inhabited g]{a m:Nat}:w.heap.size<=(sortWorld h w y a m j i).heap.size:=by simp[*,sortWorld]
theorem dN(L:SlLaysF.n6 P ρr){E:TypeId}{g g6:FuncId}{fn:Func}(hfn:P.funcs[g]? =some fn)(hnm:(fn.name== "runtime.NumGoroutine")=false){c:Code}(hbody:fn.body=some c){A:τ->Nat}{px:τ->List D}{tx:τ->TypeId}(cf:τ->τ->Int)(hO:SWO (ltOf cf))(k B:List τ)(hsz:k.length<4611686018427387904)(hc:∀x∈k,∀y∈k,AI P g [.d (.ptr (.agg (px x))),.d (.ptr (.agg (px y)))] (.raw (.int .i64 (cf x y))))(hu:∀ys:List τ,ys.Perm k->ys.Pairwise (λa b=>¬cf b a<0)->ys=B){F:Fr}{s:AS}{d:Nat}{x y:Operand}{ty:TypeId}{pos:String}{aft:Array Edge}{gd:Option (Nat×Bool)}{at_:Array TypeId}{f b t n:Nat}{M:MF}{fa:AV}{row:List D}{hp':Hp}(hg:ρr.f 6=g6)(hM:ek s.hp f=some [.multi M])(hpx:∀x∈k,M (A x)=some (.cells (tx x) (px x)))(h1x:∀x∈k,∀c∈px x,c.one=true)(hx:s.ev x=some (.d (.raw (sV b n t))))(hy:s.ev y=some fa)(hfa:∀w O V v,A8 w O V fa v->v= .func (.func g) #[] #[])(hb:M b=some (.row E 1 t row))(N:row=k.map λx=>pD (A x) 0)(hn:n=k.length)(hxs:k≠ [])(hh:Bv s.hp f (Bf M b (.row E 1 t (B.map λx=>pD (A x) 0)))=some hp')(hd:Nat.blt d s.n=true):
  AH P F ⟨some d,.call {callee:= .value (.func g6),args:= #[x,y],argTypes:=at_},ty,pos,aft,gd⟩ s ⟨s.n,(d,.d (.tup []))::s.env,hp'⟩ (λ_ _=>true):=by
 subst hg N hn;intro V U w hs
 obtain ⟨fn6,hf1,hf2,hf3⟩:∃fn,P.funcs[ρr.f 6]? =some fn/\(fn.name== "runtime.NumGoroutine")=false/\fn.body.isSome=true:=by
  obtain ⟨nm,hn,hf⟩:=L.f6;exact ⟨_,hf,hn,Z⟩
 unfold Oper.wp;rw[show (#[x,y]:Array Operand)=[x,y].toArray from rfl,DW hf1 hf2 hf3,Oper.upon_enter]
 suffices R:Calls P (ρr.f 6) ([x,y].map U.eval).toArray w λe w'=>e= .returned (.tuple #[])/\SR F ⟨s.n,s.env,hp'⟩ V U w' by
  refine R.mono λe w' ⟨G,hsr⟩=>?_;subst G;exact ⟨V,hsr.put (I0 hd) (.d (.tup Z λi c v hc=>by cases hc)),λ_ _ _=>rfl⟩
 have r0:=hs.raw hx;have r1:=hfa _ _ _ _ (hs.ev hy);have h3:=hs.heap
 have hO0:BL V s.hp b:=⟨f,b,_,by rw[Gu hM,hb];rfl,by rw[(hs.rowN hM hb).1];rfl⟩
 obtain ⟨hρ,us,q1,q2,q3⟩:=hs.rowN hM hb;show Calls P (ρr.f 6) #[U.eval x,U.eval y] w _;rw[r1,r0];have hn:0<k.length:=mf.2 hxs
 have hus:us=k.map λx=>pV (A x) 0:=by
  apply ma
  intro i;rw[ς]
  by_cases C:i<k.length
  .rw[ω C];obtain ⟨u,h1,h2,h4⟩:=q2.2.2 i (pD (A k[i]) 0) (by rw[ς,ω C];rfl) 0 (pD (A k[i]) 0) rfl;rw[lz,li] at h1;rw[h1]
   cases h4 with
   | raw _=>rfl
  .have:us.length=k.length:=by have:=q2.1;rwa [χ,lz] at this
   rw[mQ (by omega),mQ (by omega)];rfl
 obtain ⟨r,p1,p2,p3,p3',p4⟩:∃r,w.heap[b]? =some (.cells r E (0,0))/\r.size=t/\k.length<=t/\t<=maxLen/\r.toList.take k.length=us:=by
  rcases q1.2 with ⟨_,h⟩ | ⟨K,cap',r,G,_,T,e3,e4,e5,e6⟩
  .rw[χ] at h;omega
  .rw[χ] at G;injection G with G e7 e8
   injection G with G
   injection G with G
   subst G e8;rw[χ] at e3 e6;exact ⟨r,T,by omega,e3,e4,by rwa [lz] at e6⟩
 rw[χ] at*;have hlt:b<w.heap.size:=(ll.1 p1).1;have hOb:F.O V s.hp b:= .inr hO0;have hOl:∀K,F.O V s.hp K->K<w.heap.size:=λK h=>h3.ltO h
 let x0:τ:=k[0]
 let ix:Nat->Nat:=λi=>if i<k.length then i else 0
 let el:Nat->τ:=λi=>(k[ix i]?).getD x0
 have Q:∀i,el i∈k:=λi=>by
  have hix:ix i<k.length:=by show (if _ then _ else _)<_;split<;>omega
  show (k[ix i]?).getD x0∈k;rw[ω hix];exact ϑ hix
 have X:∀i (C:i<k.length),el i=k[i]:=λi C=>by
  show (k[ix i]?).getD x0=_;rw[show ix i=i from ϱ C,ω C];rfl
 let o:Nat->Value:=λi=>pV (A (el i)) 0
 let cf':Nat->Nat->Int:=λi j=>cf (el i) (el j)
 have hO':SWO (ltOf cf'):=⟨λx=>hO.irrefl (el x),λx y z=>hO.trans (el x) (el y) (el z),λx y z=>hO.ntrans (el x) (el y) (el z)⟩
 have henc1:OneCell o:=λ_=>rfl;have hd0:∀i,i<k.length->(Array.range k.length)[i]! =i:=λi C=>by rw[getElem!_pos _ i (by simpa using C)];simp
 have hcu:∀i (C:i<k.length),r[i]? =some (pV (A k[i]) 0):=λi C=>by
  have:us[i]? =r.toList[i]?:=by rw[<-p4,ml C]
  rw[hus,ς,ω C] at this;rw[<-mF];exact this.symm
 have hH:Holds o w b 0 (Array.range k.length):=by
  intro j J;simp only[mr] at J;rw[hd0 _ J];refine ⟨?_,?_⟩
  .simp only[World.cell?,p1,lY];rw[hcu j J];show _=some (pV (A (el j)) 0);rw[X j J];rfl
  .simp only[World.frozen?,p1]
   simp
 have hcmp:CmpLays1 P g #[] o cf' b 0 (Array.range k.length).size w:=by
  intro m os dk _ x y;have hWs:w.heap.size<=(sortWorld o w b 0 m dk os).heap.size:=Hb
  let O':Nat->Prop:=λK=>F.O V s.hp K/\K≠A (el x)/\K≠A (el y)
  have hne:∀i,A (el i)≠b:=λi e=>by
   have:=hpx _ (Q i);rw[e,hb] at this;cases this
  have W:∀i,i=x\/i=y->A0 (sortWorld o w b 0 m dk os) O' (.ptr (.agg (px (el i)))) (pV (A (el i)) 0):=λi C=>by
   obtain ⟨_,vs,c1,c2,c3,c4⟩:=hs.cellsN hM (hpx _ (Q i));have hl:A (el i)<w.heap.size:=(ll.1 c1).1
   have hOn:¬O' (A (el i)):=λh=>by
    rcases C with e | e
    .exact h.2.1 (by rw[e])
    .exact h.2.2 (by rw[e])
   show A0 _ _ (.ptr (.agg (px (el i)))) (.pointer (some ⟨A (el i),0,none⟩));refine A0.ptr (x:= .agg (px (el i))) (λj=>vs.getD j undef) (ln hl hWs) hOn (h1x _ (Q i)) (λj c J=>?_) λj c J=>?_
   .have hj':j<vs.length:=by rw[c2];exact (φ.1 J).1
    simp only[World.cell?,vI (hne i) hl,c1,lY]
    simp[hj']
   .have hj':j<vs.length:=by rw[c2];exact (φ.1 J).1
    have I:vs[j]? =some vs[j]:=ω hj';have:vs.getD j undef=vs[j]:=by rw[Ψ,I];rfl
    rw[this];exact (c3 j c _ J I).mono hWs (λK hl hno=>vI (λe=>hno (e▸hOb)) hl) (λ_ _ h=>h.1)
  refine (Sg (hc (el x) (Q x) (el y) (Q y)) (w:=sortWorld o w b 0 m dk os) (O:=O') (λK h=>ln (hOl K h.1) hWs) (vs:=[pV (A (el x)) 0,pV (A (el y)) 0]) Z (λi a v S I=>?_)).mono λe w' ⟨v,G,T,e3,e4,e5⟩=>⟨?_,Pd e3 e4 e5⟩
  .match i,S,I with
   | 0,S,I=>injection S with S;injection I with I;subst S I;exact .d (W x (.inl Z))
   | 1,S,I=>injection S with S;injection I with I;subst S I;exact .d (W y (.inr Z))
  .cases T with
   | raw _=>exact G
 have eg:∀args w,(callFunc g args).run P w= .ok (.enter g args) w:=enters_of hfn hnm hbody;have R:=Any.slices_SortFunc L o henc1 cf' hO' g #[] b 0 t (Array.range k.length) w eg hcmp hH hlt (by simpa using hsz);rw[mr] at R;refine R.mono λe w' ⟨G,Y,n,os,hp,hsort,hw⟩=>?_;subst G hw;obtain ⟨s1,_,s3⟩:=hp;rw[mr] at s1
 have hperm:Y.toList.Perm (List.range k.length):=by
  have G:Y.extract 0 k.length=Y:=by rw[<-s1];exact Array.extract_size
  have T:(Array.range k.length).extract 0 k.length=Array.range k.length:=by
   conv=>lhs;arg 3;rw[<-mr (n:=k.length)]
   exact Array.extract_size
  rw[G,T] at s3
  simpa using s3
 refine ⟨Z,?_⟩
 have hys:Y.toList.map el=B:=by
  apply hu
  .refine (hperm.map el).trans (List.Perm.of_eq ?_)
   apply ld (by simp)
   intro i h5 h6;simp only[kR,nV];exact X i h6
  .rw[lc];intro i j C J hij;simp only[χ,me] at C J;have:=hsort i j (κ _) hij (by omega);rw[getElem!_pos _ j J,getElem!_pos _ i C] at this;simp only[ltOf,decide_eq_false_iff_not] at this
   simpa using this
 have hlen':B.length=k.length:=by rw[<-hys];simp[s1]
 -- the world: first what lies in the row, then the new blocks
 have hheap:(sortWorld o w b 0 n Y os).heap[b]? =some (.cells (putCells o 0 Y r) E (0,0)):=by
  unfold sortWorld;rw[Go.Sort.heap_grow_old _ _ (by rw[Go.Sort.size_putRow];exact hlt)];show (w.heap.modify b _)[b]? =_;rw[mp,ϱ Z,p1];rfl
 refine hs.writeG f b (.nr b E 1 t (k.map λx=>pD (A x) 0)) (.nr b E 1 t (B.map λx=>pD (A x) 0)) (by rw[Gu hM,hb];rfl) (λg i=>?_) Z Z Z Hb (Nat.le_add_right _ _) (λK hl hno=>vI (λe=>hno (by rw[e,hρ];rfl)) hl) (λ_ _ e=>by cases e) λhrep=>?_
 .rw[Dc hh]
  by_cases e:g=f
  .subst e;rw[ϱ Z,Gu hM]
   by_cases T:i=b
   .subst T;rw[ϱ ⟨Z,Z⟩,Fj];rfl
   .rw[υ (λh=>T h.2),Gt T]
  .rw[υ e,υ (λh=>e h.1)]
 have hcs:(putCells o 0 Y r).size=t:=by simp only[putCells,Array.size_mapIdx];omega
 have N:(putCells o 0 Y r).toList.take B.length=B.map λx=>pV (A x) 0:=by
  apply ma
  intro i
  by_cases C:i<k.length
  .rw[ml (by omega),ς,<-hys,ς,mF,mF,lM (by omega),lM (by omega)];simp only[putCells,Array.getElem_mapIdx,l0];rw[ϱ ⟨κ _,by omega⟩];simp only[Nat.sub_zero];rw[getElem!_pos _ i (by omega)]
  .rw[mQ (by rw[θ];omega),mQ (by rw[χ];omega)]
 refine ⟨hρ,B.map λx=>pV (A x) 0,⟨by simp,.inr ⟨b,t,_,by simp only[χ],κ _,hheap,by rw[χ,hlen'];exact p3,p3',by rw[hcs];omega,by rw[χ,lz,N]⟩⟩,⟨by simp,λx l=>?_,λi x l j c H=>?_⟩,λx l c H=>?_⟩
 .obtain ⟨y,_,rfl⟩:=Γ.1 l;rfl
 .rw[ς] at l
  cases kL:B[i]? with
  | none=>rw[kL] at l;cases l
  | some q=>
   rw[kL] at l;injection l with l;subst l
   match j,H with
   | 0,H=>
    injection H with H;subst H
    exact ⟨pV (A q) 0,by rw[lz,li,ς,kL];rfl,Z,.raw Z⟩
 .obtain ⟨y,_,rfl⟩:=Γ.1 l
  cases H with
  | head=>rfl
  | tail _ h=>cases h
theorem aJ(L:SlLaysF.n6 P ρr){b y:Operand}(G:ρr.f 6=s)(D:x.ev b=some (.d (.raw (.slice none 0 0))))(R:x.ev y=some u)(I:Nat.blt t x.n=true):
  AH P F ⟨some t,.call {callee:= .value (.func s),args:= #[b,y],argTypes:=c},o,k,f,a⟩ x ⟨x.n,(t,.d (.tup []))::x.env,x.hp⟩ (λ_ _=>true):=by
 subst G;intro B h w A
 obtain ⟨K,r,l,j⟩:∃z,P.funcs[ρr.f 6]? =some z/\(z.name== "runtime.NumGoroutine")=false/\z.body.isSome=true:=by
  obtain ⟨Q,E,H⟩:=L.f6;exact ⟨_,H,E,Z⟩
 unfold Oper.wp;rw[show (#[b,y]:Array Operand)=[b,y].toArray from rfl,DW r l j,Oper.upon_enter];have C:=A.raw D;show Calls P (ρr.f 6) #[h.eval b,h.eval y] w _;rw[C];refine (AnyF.slices_SortFunc_none {L with} none 0 _ w).mono λe O ⟨N,M⟩=>?_;subst N M;exact ⟨B,A.put (I0 I) (.d (.tup Z λi g v J=>by cases J)),λ_ _ _=>rfl⟩
end
end Go.Proofs.YteifpcnphnhaoaaGreat
namespace Go.Proofs.YteifpcnphnhaoaaGreat
open Go.RowKit Go.Shelf
variable{M:MF}{f a c:Nat->Nat}{N:ji}{g:Nat}{h:Type}{i j k o:Nat}{t:TypeId}{s:Nat}{u:Au}
set_option maxRecDepth 100000 in
theorem qI(x y:Po):AI prog 142 [.d (.ptr (.agg (oU x))),.d (.ptr (.agg (oU y)))] (AE (BV x.r y.r)):=by
 refine Av func142 Z Z ntmps142 Z Z Z λF a=>(AD ?_);refine AF (AB Z Z (AC (AD (Bm [[],[0],[0,1],[0,1,2],[],[4],[4,5],[4,5,6],rg 8,rg 9] mixed Z (BY (A7 0 Z Z (AK [5] Z (Kt Z Z) (AK [6] Z (Jy Z OS Z Z Z) ?_))))))));refine AK [7] Z (CT Z Z Cw Z) (A7 1 Z Z (AK [9] Z (Kt Z Z) (AK [10] Z (Jy Z OS Z Z Z) (AK [11] Z (CT Z Z Cw Z) (BR 8 Z Z Z (AZ 9 Z Z (J (Ak (NE x.r y.r) Z Z) (AC ⟨Z,?_⟩))))))));refine AZ 10 Z Z (AB Z Z (AC ⟨Z,?_⟩));refine Bb (A5 ?_);exact ⟨_,[],[],A2 Z,Z,Z,Z,Z⟩
theorem HQ{m:Au}(a:M i=none)(h:M s=some m):Bf M i u s=some m:=by grind[Gt]
theorem NT(f:M i=none){h:Hd}{b:List D}(a:B1 M h t o b):B1 (Bf M i u) h t o b:=by
 match h,a with
 | none,a=>exact a
 | some (g,c),a=>exact ⟨a.1,HQ f a.2⟩
theorem Cb.fresh(h:Cb j k c a N M){m:Au}(g:M i=none):Cb j k c a N (Bf M i m):=
 ⟨λf x o=>HQ g (h.n f x o),λb y l=>HQ g (h.p b y l),⟨λr=>NT g (h.rs.1 r),h.rs.2⟩,HQ g h.w,h.ni,h.pi,h.e,h.q⟩
def OV(f:Nat->Nat)(k b:Nat):Nat->Nat:=λj=>if j=k then b else f j
theorem De{j:Nat}(h:j<o):OV f o g j=f j:=υ (by omega)
theorem Gp:OV f o g o=g:=ϱ rfl
theorem RT:(List.range (o+1)).map (λj=>B5 (OV f o g j))=(List.range o).map (λj=>B5 (f j))++ [B5 g]:=by grind[ki,Gp,kT,De]
abbrev ax(nh:Hd)(a:Nat)(mh:Hd)(c mv:Nat):Au:= .cells 180 [jj nh a,jj mh c,M7 (.map (some mv))]
theorem Cb.keepM(h:Cb j k c a N M)(u:Bq M N.mh g=none){v:Au}{l:List D}(i:M s=some (.cells t l)):Bf (Bq M N.mh) g v s=some (.cells t l):=
 Go.Proofs.YteifpcnphnhaoaaGreat.lj u i λf o=>by have:=h.rs.blk (r:= .m) o;rw[i] at this;cases this
theorem Mr(l:List h)(y d:h)(j:Nat):(l++ [y]).getD j d=if j=l.length then y else l.getD j d:=by grind
theorem ko{l:List h}{d:h}(i:Nat):l.getD i d∈l\/l.getD i d=d:=by grind
theorem mI{l:List h}{y z:h}{i:Nat}(a:(l++ [y])[i]? =some z):(i<l.length/\l[i]? =some z)\/(i=l.length/\z=y):=by grind
theorem Cb.addM(h:Cb j k c a N M){y:Po}(R:y.q=[])(E:y.qh=none){bn:Nat}(Y:M bn=some (W6 y))(C:∀o,o<N.po.length->a o≠bn){cap:Nat}(J:Bq M N.mh g=none)(U:N.po.length+1<=cap):
  Cb j k c (OV a N.po.length bn) {N with po:=N.po++ [y],mh:=some (g,cap)} (Bf (Bf (Bq M N.mh) g (.row Y9 1 cap ((List.range N.po.length).map (λo=>B5 (a o))++ [B5 bn]))) j (ax N.nh N.nd.length (some (g,cap)) (N.po.length+1) k)):=by
 have I:∀i,((N.nd.getD i CV).ef.map (iK (OV a N.po.length bn)))=(N.nd.getD i CV).ef.map (iK a):=λi=>kT λe u=>by
  rcases ko (l:=N.nd) (d:=CV) i with s | s
  .show D.agg [pD (OV a N.po.length bn e.1) 0,_]=_;rw[De ((h.e _ s).1 e u)]
  .rw[s] at u;cases u
 have G:∀i,((N.nd.getD i CV).pl.map (nL (OV a N.po.length bn)))=(N.nd.getD i CV).pl.map (nL a):=λi=>kT λe u=>by
  rcases ko (l:=N.nd) (d:=CV) i with s | s
  .show D.agg [pD (OV a N.po.length bn e.1) 0,_]=_;rw[De ((h.e _ s).2 e u)]
  .rw[s] at u;cases u
 have X:∀r,r≠RI.m->Ct c (OV a N.po.length bn) {N with po:=N.po++ [y],mh:=some (g,cap)} r=Ct c a N r:=λr T=>by
  cases r with
  | e i=>show (⟨_,_,_,(N.nd.getD i CV).ef.map _⟩:jm)=_;rw[I];rfl
  | p i=>show (⟨_,_,_,(N.nd.getD i CV).pl.map _⟩:jm)=_;rw[G];rfl
  | n=>rfl
  | m=>exact absurd Z T
  | q o=>
   show (⟨((N.po++ [y]).getD o Ce).qh,_,_,((N.po++ [y]).getD o Ce).q.map _⟩:jm)=⟨(N.po.getD o Ce).qh,_,_,(N.po.getD o Ce).q.map _⟩
   rw[Mr]
   split
   .rename_i e
    rw[R,E,Ψ,mQ (by omega)];rfl
   .rfl
 have w:=h.rs.upd (R':=Ct c (OV a N.po.length bn) {N with po:=N.po++ [y],mh:=some (g,cap)}) .m X (b:=g) (cap:=cap) J Z (by
  show ((List.range (N.po++ [y]).length).map _).length<=cap
  simp;exact U)
 have A:(Ct c (OV a N.po.length bn) {N with po:=N.po++ [y],mh:=some (g,cap)} .m).xs=(List.range N.po.length).map (λo=>B5 (a o))++ [B5 bn]:=by
  show (List.range (N.po++ [y]).length).map _=_;rw[Δ,η,RT]
 rw[A] at w
 have B:∀(Q:Nat) (t:TypeId) (O:List D),t≠180->M Q=some (.cells t O)->Bf (Bf (Bq M N.mh) g (.row Y9 1 cap ((List.range N.po.length).map (λo=>B5 (a o))++ [B5 bn]))) j (ax N.nh N.nd.length (some (g,cap)) (N.po.length+1) k) Q=some (.cells t O):=λQ t O S s=>by
  rw[Gt]
  .exact h.keepM J s
  .rintro rfl;rw[h.w] at s;injection s with s;injection s with s;exact S s.symm
 refine ⟨λi x F=>B _ _ _ (by decide) (h.n i x F),λi z v=>?_,w.cells (h.keepM J h.w),?_,h.ni,λi f H B e=>?_,λx F=>?_,λz v=>?_⟩
 .rcases mI v with ⟨L,K⟩ | ⟨L,K⟩
  .rw[De L];exact B _ _ _ (by decide) (h.p i z K)
  .subst L K;rw[Gp];exact B _ _ _ (by decide) Y
 .rw[Fj];show _=some (Au.cells _ [_,jj _ (N.po++ [y]).length,_]);rw[Δ];rfl
 .have W:i<N.po.length+1:=by simpa using H
  have V:f<N.po.length+1:=by simpa using B
  by_cases e1:i=N.po.length<;>by_cases e2:f=N.po.length
  .omega
  .subst e1;rw[Gp,De (by omega)] at e;exact absurd e.symm (C f (by omega))
  .subst e2;rw[Gp,De (by omega)] at e;exact absurd e (C i (by omega))
  .rw[De (by omega),De (by omega)] at e;exact h.pi i f (by omega) (by omega) e
 .have:=h.e x F;refine ⟨λe u=>?_,λe u=>?_⟩
  .have:=this.1 e u;simp;omega
  .have:=this.2 e u;simp;omega
 .rcases ν.1 v with v | v
  .exact h.q z v
  .rw[ξ.1 v,R];intro i H;cases H
theorem Cb.perm(h:Cb j k c a N M)(U:N.nd=[])(hqn:∀y∈N.po,y.q=[]/\y.qh=none){u:List Nat}(X:u.Perm (List.range N.po.length)){v:Nat}(V:N.mh=some (g,v)):
  Cb j k c (λf=>a (u.getD f 0)) {N with po:=u.map λi=>N.po.getD i Ce} (Bf M g (.row Y9 1 v (u.map λo=>B5 (a o)))):=by
 have I:u.length=N.po.length:=by rw[X.length_eq,kj]
 have E:∀f,f<u.length->u.getD f 0<N.po.length:=λf Q=>by
  rw[EC 0 Q];exact Ω.1 (X.mem_iff.1 (ϑ Q))
 have hrow:=h.rs.blk (r:= .m) V
 have J:=(h.rs.1 .m)
 rw[show (Ct c a N .m).h=some (g,v) from V] at J
 have L:N.po.length<=v:=by
  have:=J.1;have e:((List.range N.po.length).map λo=>B5 (a o)).length=N.po.length:=by simp
  exact e▸this
 have Q:∀(H:Nat) (t:TypeId) (cs:List D),M H=some (.cells t cs)->Bf M g (.row Y9 1 v (u.map λo=>B5 (a o))) H=some (.cells t cs):=λH t cs hm'=>by
  grind[Gt]
 have K:∀(l:List Po),(∀y∈l,y.q=[]/\y.qh=none)->∀o,(l.getD o Ce).q=[]/\(l.getD o Ce).qh=none:=λl hl o=>by
  grind[Ce]
 have z:∀y∈u.map λi=>N.po.getD i Ce,y.q=[]/\y.qh=none:=λy T=>by
  grind
 refine ⟨λi x hx=>?_,λo y T=>?_,⟨λr=>?_,λr r' G s W C h2=>?_⟩,?_,h.ni,λi f B Z e=>?_,λx hx=>?_,λy T=>?_⟩
 .grind
 .have w:(u.map λi=>N.po.getD i Ce)[o]? =some y:=T;rw[ς] at w
  cases hj:u[o]? with
  | none=>rw[hj] at w;cases w
  | some i=>
   rw[hj] at w;have e:y=N.po.getD i Ce:=(Option.some.inj w).symm;have hjl:=(φ.1 hj).1;have B:=E o hjl;rw[Hw hj] at B;show Bf M g _ (a (u.getD o 0))=_;rw[Hw hj,e,EC Ce B];exact Q _ _ _ (h.p i _ (ω B))
 .cases r with
  | e i=> 
   have:N.nd.getD i CV=CV:=by rw[U];rfl
   show B1 _ (N.nd.getD i CV).eh _ _ ((N.nd.getD i CV).ef.map _);rw[this];rfl
  | p i=> 
   have:N.nd.getD i CV=CV:=by rw[U];rfl
   show B1 _ (N.nd.getD i CV).ph _ _ ((N.nd.getD i CV).pl.map _);rw[this];rfl
  | q o=>
   show B1 _ ((u.map λi=>N.po.getD i Ce).getD o Ce).qh _ _ (((u.map λi=>N.po.getD i Ce).getD o Ce).q.map _);obtain ⟨e1,e2⟩:=K _ z o;rw[e1,e2];rfl
  | n=>
   have F:=h.rs.1 .n;show B1 _ N.nh _ _ ((List.range N.nd.length).map _)
   cases hh:N.nh with
   | none=>show _=[];rw[U];rfl
   | some p=>
    obtain ⟨H,W⟩:=p;rw[show (Ct c a N .n).h=some (H,W) from hh] at F;refine ⟨by have:=F.1;exact this,?_⟩;rw[Gt]
    .exact F.2
    .rintro rfl;exact absurd (h.rs.2 .n .m H W v hh V) (by intro e;cases e)
  | m=>
   show B1 _ N.mh _ _ ((List.range (u.map λi=>N.po.getD i Ce).length).map λf=>B5 (a (u.getD f 0)))
   have e:((List.range (u.map λi=>N.po.getD i Ce).length).map λf=>B5 (a (u.getD f 0)))=u.map λo=>B5 (a o):=by
    apply ld (by simp)
    intro f C h2;simp only[kR,nV];rw[EC 0 (by simpa using h2)]
   rw[e,V];exact ⟨by rw[χ,I];exact L,Fj _ _ _⟩
 .have A:∀r G s,(Ct c (λf=>a (u.getD f 0)) {N with po:=u.map λi=>N.po.getD i Ce} r).h=some (G,s)->(Ct c a N r).h=some (G,s):=λr G s C=>by
   cases r with
   | e i=>exact C
   | p i=>exact C
   | n=>exact C
   | m=>exact C
   | q o=>
    have S:((u.map λi=>N.po.getD i Ce).getD o Ce).qh=some (G,s):=C;rw[(K _ z o).2] at S;cases S
  exact h.rs.2 r r' G s W (A _ _ _ C) (A _ _ _ h2)
 .have:=Q _ _ _ h.w;show _=some (Au.cells _ [_,jj N.mh (u.map λi=>N.po.getD i Ce).length,_]);rw[χ,I];exact this
 .have R:i<u.length:=by simpa using B
  have O:f<u.length:=by simpa using Z
  have:=h.pi _ _ (E i R) (E f O) e;rw[EC 0 R,EC 0 O] at this;have Y:u.Nodup:=X.nodup_iff.2 List.nodup_range;exact (List.getElem_inj Y).1 this
 .have:x∈N.nd:=hx;rw[U] at this;cases this
 .intro i B;rw[(z y T).1] at B;cases B
end Go.Proofs.YteifpcnphnhaoaaGreat
namespace Go.Proofs.YteifpcnphnhaoaaGreat
open Go.RowKit
variable{T:List (AW×Int)}{a c:Type}{f:List (a×c)}{g:List AW}{h:List dr}{i:List gf}{j:List (List (AW×Int))}{k:a}{o:AW×Int}{s:List a}{t:Nat->Nat}{u:Nat}{z:Value}{w x:c}{y:a}
theorem fk[DecidableEq a](h:k∉f.map Prod.fst):B2 f k w=f++ [(k,w)]:=by
 induction f with
 | nil=>rfl
 | cons p r g=>
  grind[B2]
theorem EU[DecidableEq a](h:k∉f.map Prod.fst):Af f k x=x:=by
 induction f with
 | nil=>rfl
 | cons p r b=>
  grind[Af]
theorem Dm[DecidableEq a]{g:a}(h:k≠g):Af (f++ [(g,w)]) k x=Af f k x:=by
 induction f with
 | nil=>simp only[kP,Af];rw[υ h]
 | cons p r i=>
  grind[Af]
theorem ET[DecidableEq a](h:k∉f.map Prod.fst):Af (f++ [(k,w)]) k x=w:=by
 induction f with
 | nil=>simp[Af]
 | cons p r g=>
  grind[Af]
def Wj{α:Type}(d:α)(f:Nat->Nat)(l:List α):List (α×Value):=(List.range l.length).map λi=>(l.getD i d,pV (f i) 0)
theorem Og(d:a)(f:Nat->Nat)(l:List a):(Wj d f l).map Prod.fst=l:=by
 unfold Wj;rw[jy];refine ld (by simp) λj c b=>?_
 grind
theorem YN[DecidableEq a]{d:a}{f:Nat->Nat}{b:Nat}(h:k∉s):B2 (Wj d f s) k (pV b 0)=Wj d (OV f s.length b) (s++ [k]):=by
 rw[fk (by rw[Og];exact h)];unfold Wj;rw[Δ,η,ki,kA,List.map_singleton,Gp]
 grind[kT,De]
theorem YO[DecidableEq a][BEq a][LawfulBEq a](c:s.Nodup){i:Nat}(b:i<s.length)(e:s[i]=k):Af (Wj y t s) k z=pV (t i) 0:=by
 refine jT (by rw[Og];exact c) ?_;exact Γ.2 ⟨i,Ω.2 b,by rw[EC y b,e]⟩
theorem so[DecidableEq a](h:k∉s):Af (Wj y t s) k z=z:=EU (by rw[Og];exact h)
def OZ(rs:List AW)(i j:Nat):Int:=BV (rs.getD i FZ) (rs.getD j FZ)
theorem SS(a:List AW):PC (OZ a):=NM.comap λi=>a.getD i FZ
def IM(rs:List AW):List Nat:=(List.range rs.length).mergeSort λi j=>decide (OZ rs i j<=0)
theorem jS(a:List AW):(IM a).Perm (List.range a.length):=List.mergeSort_perm _ _
theorem aO(E:g.Nodup){l:List Nat}(v:l.Perm (List.range g.length))(r:l.Pairwise λa b=>¬OZ g b a<0):l=IM g:=by
 have k:∀f:List Nat,f.Perm (List.range g.length)->(f.Pairwise λa b=>¬OZ g b a<0)->f.Pairwise λa b=>OZ g a b<0:=λf u r=>by
  have s:f.Pairwise λa b=>a≠b:=u.nodup_iff.2 List.nodup_range;have F:∀x∈f,x<g.length:=λx w=>Ω.1 (u.mem_iff.1 w);refine rH (λ{a b} H G h=>?_) (r.and s);have o:=(SS g).anti a b
  by_cases C:OZ g a b=0
  .exfalso
   have I:=Ds.1 C
   grind[List.getElem_inj]
  omega
 refine sR (R:=λa b=>OZ g a b<0) (λx=>by rw[(SS g).refl];omega) (λx y z=>(SS g).trans x y z) (k l v r) (k _ (jS g) ?_) λx=>v.mem_iff.trans (jS g).mem_iff.symm;have:=List.pairwise_mergeSort (le:=λi j=>decide (OZ g i j<=0)) (λa b c o A=>?_) (λa b=>?_) (List.range g.length)
 .refine List.Pairwise.imp (λ{a b} h=>?_) this;have o:=(SS g).anti a b
  grind
 .have B:OZ g a b<=0:=by simpa using o
  have t:OZ g b c<=0:=by simpa using A
  have:OZ g a c<=0:=by
   by_cases D:OZ g a b=0
   .rw[(SS g).eqv a b c D];exact t
   .by_cases K:OZ g b c=0
    .have N:=(SS g).anti b c;have J:=(SS g).eqv c b a (by omega);have M:=(SS g).anti a c;have L:=(SS g).anti a b;omega
    .have:=(SS g).trans a b c (by omega) (by omega);omega
  grind
 .have o:=(SS g).anti a b
  grind
abbrev Du(D:List (AW×Int))(r:AW):Int:=Af D r 0
def iX(ds:List (List (AW×Int)))(r:AW):List Nat:=(List.range ds.length).filter λi=>decide (Du (ds.getD i []) r<0)
def KU(x:gf):Po:=⟨x.r,x.n,0,none,[],0⟩
def ae(ds:List (List (AW×Int)))(x:gf):Po:=⟨x.r,x.n,(ds.map λD=>Du D x.r).sum,none,iX ds x.r,0⟩
def mL(rs:List AW)(D:List (AW×Int)):List (Nat×Int):=(D.filter λd=>decide (d.1∈rs)).map λd=>(rs.idxOf d.1,d.2)
def l7(rs:List AW)(ds:List (List (AW×Int)))(D:List (AW×Int)):List (Nat×Nat):=(D.filter λd=>decide (d.1∈rs) && decide (d.2<0)).map λd=>(rs.idxOf d.1,(iX ds d.1).length)
def rz(rs:List AW)(ds:List (List (AW×Int)))(x:dr)(D:List (AW×Int)):Nd:=⟨x,none,mL rs D,none,l7 rs ds D,true⟩
def LO(rs:List AW)(its:List dr)(k:Nat):List Nd:=(List.range k).map λi=>rz rs ((its.map ea).take i) (its.getD i ey) (ea (its.getD i ey))
def F2(ro:List gf)(its:List dr)(k:Nat):ji:=⟨LO (ro.map gf.r) its k,ro.map (ae ((its.map ea).take k)),none,none⟩
def E2(ro:List gf)(its:List dr)(k t:Nat):ji:=⟨LO (ro.map gf.r) its k++ [rz (ro.map gf.r) ((its.map ea).take k) (its.getD k ey) ((ea (its.getD k ey)).take t)],ro.map (ae ((its.map ea).take k++ [(ea (its.getD k ey)).take t])),none,none⟩
theorem Xe(h:o.1∈g):mL g (T++ [o])=mL g T++ [(g.idxOf o.1,o.2)]:=by grind[mL]
theorem TY(h:o.1∉g):mL g (T++ [o])=mL g T:=by grind[mL]
theorem er(h:o.1∈g)(a:o.2<0):l7 g j (T++ [o])=l7 g j T++ [(g.idxOf o.1,(iX j o.1).length)]:=by grind[l7]
theorem Sj(h:¬(o.1∈g/\o.2<0)):l7 g j (T++ [o])=l7 g j T:=by grind[l7]
theorem bE(a:List (List (AW×Int)))(D:List (AW×Int))(r:AW):iX (a++ [D]) r=iX a r++if Du D r<0 then [a.length] else []:=by
 unfold iX;rw[Δ,η,ki,mB]
 grind[l5]
theorem Fz(a:List (List (AW×Int)))(D:List (AW×Int))(x:gf):ae (a++ [D]) x=⟨x.r,x.n,(ae a x).sum+Du D x.r,none,(ae a x).q++(if Du D x.r<0 then [a.length] else []),0⟩:=by
 unfold ae;rw[bE,kA,mj]
 simp
theorem bA:E2 i h u 0=⟨(F2 i h u).nd++ [⟨h.getD u ey,none,[],none,[],true⟩],(F2 i h u).po,none,none⟩:=by
 unfold E2 F2
 congr 1
 grind[kT,Fz,ae,Af]
theorem bC(a:u<h.length):E2 i h u (ea (h.getD u ey)).length=F2 i h (u+1):=by grind[E2,F2,LO,ki,ψ]
theorem bB{t:Nat}(a:t<(ea (h.getD u ey)).length)(b:((ea (h.getD u ey))[t]).1∉i.map gf.r):E2 i h u (t+1)=E2 i h u t:=by grind[E2,ψ,rz,TY,Sj,kT,Fz,Dm]
theorem cR(x:dr):((ea x).map Prod.fst).Nodup:=by
 unfold ea
 split
 .have:=Lt (jt x);show ((NA (jt x)).map Prod.fst).Pairwise _;rw[lA];refine this.imp λ{a b} h e=>?_;rw[e,NM.refl] at h;omega
 .exact List.nodup_nil
theorem bD(E:(i.map gf.r).Nodup){t j:Nat}(O:u<=h.length)(J:t<(ea (h.getD u ey)).length)(C:j<i.length)(A:(i.map gf.r).idxOf ((ea (h.getD u ey))[t]).1=j)(B:((ea (h.getD u ey))[t]).1∈i.map gf.r){x:Nd}{y:Po}(N:(E2 i h u t).nd[u]? =some x)(I:(E2 i h u t).po[j]? =some y):
  E2 i h u (t+1)=⟨(E2 i h u t).nd.set u (tw x j y.q.length ((ea (h.getD u ey))[t]).2),(E2 i h u t).po.set j (tv y u ((ea (h.getD u ey))[t]).2),none,none⟩:=by
 obtain ⟨d,G⟩:∃d,(ea (h.getD u ey))[t]=d:=⟨_,Z⟩
 rw[G] at A B⊢
 have v:d.1∉((ea (h.getD u ey)).take t).map Prod.fst:=λb=>by
  grind[cR,nA]
 have K:(LO (i.map gf.r) h u).length=u:=by unfold LO;simp
 have s:((h.map ea).take u).length=u:=by simp;omega
 have L:x=rz (i.map gf.r) ((h.map ea).take u) (h.getD u ey) ((ea (h.getD u ey)).take t):=by
  grind[E2]
 have l:(i.map (ae ((h.map ea).take u++ [(ea (h.getD u ey)).take t])))[j]? =some y:=I;rw[ς,ω C] at l;have H:y=ae ((h.map ea).take u++ [(ea (h.getD u ey)).take t]) i[j]:=(Option.some.inj l).symm
 have c:i[j].r=d.1:=by
  have g:=nJ (my B);simp only[A,kR] at g;exact g
 have w:Du ((ea (h.getD u ey)).take t) d.1=0:=EU v
 have D:y.q.length=(iX ((h.map ea).take u) d.1).length:=by
  rw[H,Fz,c,w];show (iX _ _++_).length=_;rw[c];simp
 unfold E2;rw[ψ J,G]
 congr 1
 .rw[List.set_append_right _ _ (by omega),K,Nat.sub_self,List.set_cons_zero]
  congr 2
  rw[L];unfold rz tw;rw[Xe B,A,D]
  by_cases f:d.2<0
  .rw[er B f,A,ϱ f]
  .rw[Sj (λb=>f b.2),υ f]
 .refine ma λa=>?_;rw[nF]
  by_cases e:j=a
  .subst e;rw[ϱ Z,ϱ (by simpa using C),ς,ω C];show some _=some _
   congr 1
   rw[H];unfold tv;rw[Fz,Fz,c];have g:Du ((ea (h.getD u ey)).take t++ [d]) d.1=d.2:=ET v;rw[g,w,s,c.symm];simp only[Int.add_zero,Po.mk.injEq,true_and,and_true]
   by_cases f:d.2<0
   .simp[f]
   .simp[f]
  .rw[υ e,ς,ς]
   cases hi:i[a]? with
   | none=>rfl
   | some z=>
    show some _=some _
    congr 1
    have o:=(φ.1 hi)
    have F:z.r≠d.1:=λM=>e (by
     have g:(i.map gf.r)[j]'(by simpa using C)=(i.map gf.r)[a]'(by simpa using o.1):=by
      rw[kR,kR,o.2,c,M]
     exact (List.getElem_inj E).1 g)
    rw[Fz,Fz];have:Du ((ea (h.getD u ey)).take t++ [d]) z.r=Du ((ea (h.getD u ey)).take t) z.r:=Dm F;rw[this]
end Go.Proofs.YteifpcnphnhaoaaGreat
namespace Go.Proofs.YteifpcnphnhaoaaGreat
open Go.RowKit Go.Shelf
variable{a:Nat->Prop}{w:World}{c:Value}{x:D}
set_option maxRecDepth 100000
def nG:D->D
 | .sl (some true) []=> .raw (.slice none 0 0)
 | x=>x
def yW:D->D
 | .agg cs=> .agg (cs.map nG)
 | x=>nG x
theorem fU(x:D):(nG x).one=x.one:=by
 unfold nG
 split<;>rfl
theorem A0.nrm1(h:A0 w a x c):A0 w a (nG x) c:=by
 unfold Go.Proofs.YteifpcnphnhaoaaGreat.nG
 split
 .cases h with
  | sl k i g f z u y A t=>
   rename_i b n s
   have r:=i true rfl
   have o:b=none:=by cases b with
    | none=>rfl
    | some _=>cases r
   subst o;have l:=g rfl;have j:n=0:=f.symm;subst l j;exact .raw rfl
 .exact h
theorem A0.nrm(h:A0 w a x c):A0 w a (yW x) c:=by
 unfold Go.Proofs.YteifpcnphnhaoaaGreat.yW
 split
 .rename_i l
  cases h with
  | agg k o j=>
   refine .agg (by rw[k,χ]) (λb f=>?_) λi b c f g=>?_
   .grind[fU]
   .rw[ς] at f
    cases hd:l[i]? with
    | none=>rw[hd] at f;cases f
    | some d=>
     rw[hd] at f;injection f with f;subst f
     exact (j i d c hd g).nrm1
 .exact h.nrm1
section
variable{P:Program}{F:Fr}{Q:Exit->AS->Prop}{ops:Array Oper}{l:List Oper}{n:Nat}{env:List (Nat×AV)}{hp:Hp}
theorem fP(t:Nat){x:D}(k:get env t=some (.d x))(h:Ao P F ops l Q ⟨n,(t,.d (yW x))::env,hp⟩):Ao P F ops l Q ⟨n,env,hp⟩:=λi c w b=>h i c w ⟨b.size,b.defs,λj a f=>by
 rcases NL f with ⟨rfl,rfl⟩ | ⟨_,f⟩
 .have g:=b.env t _ k
  generalize c.tmps.getD t undef=v at g⊢
  cases g with
  | d h=>exact .d h.nrm
 .exact b.env j a f,b.heap⟩
end
variable{N:ji}{M:MF}{a:List dr}{c:List gf}{y:Po}{x:Nd}{i f:Nat}
def d7(M:MF)(h:Hd)(E:TypeId)(ys:List D):MF:=match h with
 | none=>M
 | some (b,c)=>Bf M b (.row E 1 c ys)
theorem bX{f:Nat}:∀(H a:Hp),ek H f=some [.multi M]->Bv H f M=some a->a=H:=by
 intro H
 induction H with
 | nil=>intro a h;cases h
 | cons p r b=>
  grind[ek,Bv]
theorem dO{P:Program}{r:Ren}{j:Type}(L:SlLaysF.n6 P r){E:TypeId}{g g6:FuncId}{T:Func}(Q:P.funcs[g]? =some T)(N:(T.name== "runtime.NumGoroutine")=false){c:Code}(o:T.body=some c){bl:j->Nat}{px:j->List D}{tx:j->TypeId}(G:j->j->Int)(hO:Go.Sort.SWO (ltOf G))(i k:List j)(J:i.length<4611686018427387904)(hc:∀x∈i,∀y∈i,AI P g [.d (.ptr (.agg (px x))),.d (.ptr (.agg (px y)))] (.raw (.int .i64 (G x y))))(hu:∀H:List j,H.Perm i->H.Pairwise (λa b=>¬G b a<0)->H=k){F:Fr}{s:AS}{d:Nat}{x y:Operand}{ty:TypeId}{I:String}{V:Array Edge}{gd:Option (Nat×Bool)}{U:Array TypeId}{f n:Nat}{h:Hd}{fa:AV}{t:List D}{A:Hp}(X:r.f 6=g6)(Z:ek s.hp f=some [.multi M])(K:∀x∈i,M (bl x)=some (.cells (tx x) (px x)))(S:∀x∈i,∀c∈px x,c.one=true)(u:s.ev x=some (.d (jj h n)))(W:s.ev y=some fa)(R:∀w O ρ v,A8 w O ρ fa v->v= .func (.func g) #[] #[])(C:B1 M h E 1 t)(z:t=i.map λx=>pD (bl x) 0)(hn:n=i.length)(l:h≠none->i≠ [])(B:Bv s.hp f (d7 M h E (k.map λx=>pD (bl x) 0))=some A)(Y:Nat.blt d s.n=true):
  AH P F ⟨some d,.call {callee:= .value (.func g6),args:= #[x,y],argTypes:=U},ty,I,V,gd⟩ s ⟨s.n,(d,.d (.tup []))::s.env,A⟩ (λ_ _=>true):=by
 match h,u,C,B,l with
 | none,u,C,B,_=>
  rw[bX _ _ Z B];exact aJ L X u W Y
 | some (b,cap),u,C,B,l=>exact dN L Q N o G hO i k J hc hu X Z K S u W R C.2 z hn (l (by simp)) B Y
theorem xg(h k:Nat)(o l:Nat->Nat)(s:M h=some (ax none 0 none 0 k)):Cb h k o l ⟨[],[],none,none⟩ M:=by
 refine ⟨λi x f=>by simp at f,λj y a=>by simp at a,⟨λr=>?_,λr u b c w t v=>?_⟩,s,λi j g _=>by simp at g,λi j g _=>by simp at g,λx f=>(by cases f),λy a=>(by cases a)⟩
 .cases r<;>rfl
 .cases r<;>cases t
structure CY (p:iB):Prop where
 i:p.it.length<=30
 r:p.ro.length<=100
 x:∀x∈p.it,x.po.length<=12/\x.pa.length<=12/\x.af.length<=12
def YC(x:dr):Prop:=x.po.length<=12/\x.pa.length<=12/\x.af.length<=12
theorem CY.b{p:iB}(h:CY p):FE p:=⟨by have:=h.r;omega,by have:=h.i;omega,λi a=>by have:=h.x i a;omega⟩
theorem Sn{g f:Type}{l:List (g×f)}(h:(l.map Prod.fst).Nodup):l.Nodup:=by
 have c:(l.map Prod.fst).Pairwise (λa b=>a≠b):=h;rw[lA] at c;exact c.imp λ{a b} h e=>h (by rw[e])
theorem OX{x:dr}(h:YC x):(ea x).length<=60:=by
 unfold ea
 split
 .have g:(iV x).length<=(jt x).length:=by
   have f:(NA (jt x)).length<=(jb (jt x)).length:=by
    have c:(NA (jt x)).Perm ((jb (jt x)).filter λd=>decide (d.2≠0)):=by
     refine (rD ?_ ?_).2 λd=>?_
     .have:=Lt (jt x);refine this.imp λ{a b} h e=>?_;rw[e,NM.refl] at h;omega
     all_goals (grind[Sn,Fq,HU])
    rw[c.length_eq]
    grind
   exact jq f (I9 _)
  have:=ID x;have:=h.1;have:=h.2.1;omega
 simp
theorem Lr(x:dr):QW (ea x):=by
 unfold ea
 split
 .rename_i b
  intro d a;exact sM b d ((HU _ _).1 a).1
 .intro d a;cases a
theorem Zb{D:List (AW×Int)}(h:QW D)(r:AW): -1000000000000000<=Du D r/\Du D r<=1000000000000000:=by
 unfold Du
 induction D with
 | nil=>simp[Af]
 | cons d D a=>
  grind[Af,QW]
theorem YU:∀{ds:List (List (AW×Int))} (_:∀D∈ds,QW D) (r:AW),-(ds.length*1000000000000000)<=(ds.map λD=>Du D r).sum/\(ds.map λD=>Du D r).sum<=ds.length*1000000000000000
 | [],_,r=>by simp
 | D::ds,h,r=>by
  have c:=Zb (h D (k8 ..)) r;have b:=YU (ds:=ds) (λD a=>h D (kx _ a)) r;simp only[k7,lW,mN];omega
theorem LM(a:List (List (AW×Int)))(r:AW):(iX a r).length<=a.length:=by
 unfold iX
 grind
theorem ZU(a:List AW)(D:List (AW×Int)):(mL a D).length<=D.length:=by
 unfold mL;rw[χ];exact lB _ _
theorem Yc(a:List AW)(b:List (List (AW×Int)))(D:List (AW×Int)):(l7 a b D).length<=D.length:=by
 unfold l7;rw[χ];exact lB _ _
theorem iE(h:N.nd[i]? =some x):(BH N).nd[i]? =some (FP x):=by
 show (N.nd.map FP)[i]? =_
 grind
theorem iD(h:N.po[i]? =some y):(BH N).po[i]? =some (Cv y):=by
 show (N.po.map Cv)[i]? =_
 grind
theorem jW(M:a.length<=30)(r:∀x∈a,YC x){k t j:Nat}(i:k<a.length)(h:BH N=E2 c a k t)(E:N.nd[k]? =some x)(C:N.po[j]? =some y):
  (-1000000000000000000<=y.sum/\y.sum<=1000000000000000000)/\x.ef.length<=100000/\x.pl.length<=100000/\y.q.length<=100000:=by
 have o:=iE E;have l:=iD C;rw[h] at o l;have u:(LO (c.map gf.r) a k).length=k:=by unfold LO;simp
 have A:(ea (a.getD k ey)).length<=60:=OX (r _ (by rw[EC ey i];exact ϑ i));have g:(LO (c.map gf.r) a k++ [rz (c.map gf.r) ((a.map ea).take k) (a.getD k ey) ((ea (a.getD k ey)).take t)])[k]? =some (FP x):=o;rw[rC (by omega),u,Nat.sub_self] at g;have G:FP x=_:=(Option.some.inj g).symm;have K:x.ef=(FP x).ef:=rfl;have J:x.pl=(FP x).pl:=rfl;have b:(c.map (ae ((a.map ea).take k++ [(ea (a.getD k ey)).take t])))[j]? =some (Cv y):=l;rw[ς] at b
 cases hj:c[j]? with
 | none=>rw[hj] at b;cases b
 | some z=>
  rw[hj] at b;have F:Cv y=ae ((a.map ea).take k++ [(ea (a.getD k ey)).take t]) z:=(Option.some.inj b).symm;have I:y.sum=(Cv y).sum:=rfl;have H:y.q=(Cv y).q:=rfl;have w:((a.map ea).take k++ [(ea (a.getD k ey)).take t]).length<=31:=by simp;omega
  have B:=YU (ds:=(a.map ea).take k++ [(ea (a.getD k ey)).take t]) (λD f=>by
   rcases ν.1 f with f | f
   .obtain ⟨x,_,rfl⟩:=Γ.1 (lL f);exact Lr x
   .rw[ξ.1 f];exact (Lr _).take t) z.r
  have L:=LM ((a.map ea).take k++ [(ea (a.getD k ey)).take t]) z.r;have v:=ZU (c.map gf.r) ((ea (a.getD k ey)).take t);have s:=Yc (c.map gf.r) ((a.map ea).take k) ((ea (a.getD k ey)).take t);rw[θ] at v s;rw[K,J,I,H,G,F];unfold ae rz;dsimp only
  generalize (List.map (λD=>Du D z.r) (List.take k (List.map ea a)++ [List.take t (ea (a.getD k ey))])).sum=S at B⊢
  generalize (List.take k (List.map ea a)++ [List.take t (ea (a.getD k ey))]).length=m at*
  omega
theorem uw(b:(c.map gf.r).Nodup){k t j:Nat}(v:k<a.length)(s:t<(ea (a.getD k ey)).length){f:ji}(h:BH N=E2 c a k t)(u:(c.map gf.r).idxOf ((ea (a.getD k ey))[t]).1=j)(l:((ea (a.getD k ey))[t]).1∈c.map gf.r){i:Nd}{g:Po}(A:N.nd[k]? =some x)(z:N.po[j]? =some y)(E:f.nd=N.nd.set k i)(C:FP i=FP (tw x j y.q.length ((ea (a.getD k ey))[t]).2))(D:f.po=N.po.set j g)(B:Cv g=Cv (tv y k ((ea (a.getD k ey))[t]).2)):BH f=E2 c a k (t+1):=by
 have r:=iE A;have o:=iD z
 have w:j<c.length:=by
  have:=my l
  grind
 rw[h] at r o;rw[bD b (Nat.le_of_lt v) s w u l r o,<-h];unfold BH;dsimp only;rw[E,D,List.map_set,List.map_set,C,B]
 rfl
theorem FX.del{R:RI->jm}(h:FX M R){t:TypeId}{g:List D}(i:M f=some (.cells t g)):FX (FV M f) R:=by
 refine ⟨λr=>?_,h.2⟩;have a:=h.1 r
 cases hh:(R r).h with
 | none=>rw[hh] at a;exact a
 | some p=>
  obtain ⟨j,c⟩:=p;rw[hh] at a;refine ⟨a.1,?_⟩;rw[Hl]
  .exact a.2
  .rintro rfl;have:=a.2
   grind
theorem Cb.addN2{v I:Nat}{a w:Nat->Nat}(h:Cb v I a w N M){x:Nd}(C:x.ef=[])(Q:x.eh=none)(B:x.pl=[])(O:x.ph=none){bn:Nat}(hM:M bn=some (W8 x))(H:∀j,j<N.nd.length->a j≠bn){cap:Nat}(U:Bq (FV M v) N.nh f=none)(Y:N.nd.length+1<=cap){wb':Nat}(E:Bf (Bq (FV M v) N.nh) f (.row en 1 cap ((List.range N.nd.length).map (λj=>B5 (a j))++ [B5 bn])) wb'=none):
  Cb wb' I (OV a N.nd.length bn) w {N with nd:=N.nd++ [x],nh:=some (f,cap)} (Bf (Bf (Bq (FV M v) N.nh) f (.row en 1 cap ((List.range N.nd.length).map (λj=>B5 (a j))++ [B5 bn]))) wb' (ax (some (f,cap)) (N.nd.length+1) N.mh N.po.length I)):=by
 have X:∀j,((N.po.getD j Ce).q.map λi=>B5 (OV a N.nd.length bn i))=(N.po.getD j Ce).q.map λi=>B5 (a i):=λj=>kT λe o=>by
  rcases ko (l:=N.po) (d:=Ce) j with g | g
  .rw[De (h.q _ g e o)]
  .rw[g] at o;cases o
 have hR:∀r,r≠RI.n->Ct (OV a N.nd.length bn) w {N with nd:=N.nd++ [x],nh:=some (f,cap)} r=Ct a w N r:=λr W=>by
  cases r with
  | q j=>show (⟨_,_,_,(N.po.getD j Ce).q.map _⟩:jm)=_;rw[X];rfl
  | m=>rfl
  | n=>exact absurd Z W
  | e i=>
   show (⟨((N.nd++ [x]).getD i CV).eh,_,_,((N.nd++ [x]).getD i CV).ef.map _⟩:jm)=⟨(N.nd.getD i CV).eh,_,_,(N.nd.getD i CV).ef.map _⟩
   rw[Mr]
   split
   .rename_i e
    rw[C,Q,Ψ,mQ (by omega)];rfl
   .rfl
  | p i=>
   show (⟨((N.nd++ [x]).getD i CV).ph,_,_,((N.nd++ [x]).getD i CV).pl.map _⟩:jm)=⟨(N.nd.getD i CV).ph,_,_,(N.nd.getD i CV).pl.map _⟩
   rw[Mr]
   split
   .rename_i e
    rw[B,O,Ψ,mQ (by omega)];rfl
   .rfl
 have T:=h.rs.del h.w
 have u:=T.upd (R':=Ct (OV a N.nd.length bn) w {N with nd:=N.nd++ [x],nh:=some (f,cap)}) .n hR (b:=f) (cap:=cap) U Z (by
  show ((List.range (N.nd++ [x]).length).map _).length<=cap
  simp;exact Y)
 have F:(Ct (OV a N.nd.length bn) w {N with nd:=N.nd++ [x],nh:=some (f,cap)} .n).xs=(List.range N.nd.length).map (λj=>B5 (a j))++ [B5 bn]:=by
  show (List.range (N.nd++ [x]).length).map _=_;rw[Δ,η,RT]
 rw[F] at u
 have G:∀(K:Nat) (t:TypeId) (J:List D),t≠180->M K=some (.cells t J)->Bf (Bf (Bq (FV M v) N.nh) f (.row en 1 cap ((List.range N.nd.length).map (λj=>B5 (a j))++ [B5 bn]))) wb' (ax (some (f,cap)) (N.nd.length+1) N.mh N.po.length I) K=some (.cells t J):=λK t J V g=>by
  refine HQ E ?_
  have A:FV M v K=some (.cells t J):=by
   rw[Hl]
   .exact g
   .rintro rfl;rw[h.w] at g;injection g with g;injection g with g;exact V g.symm
  exact Go.Proofs.YteifpcnphnhaoaaGreat.lj U A λc hc=>by have:=T.blk (r:= .n) hc;rw[A] at this;cases this
 refine ⟨λi z s=>?_,λj y L=>G _ _ _ (by decide) (h.p j y L),⟨λr=>NT E (u.1 r),u.2⟩,?_,λi k R G e=>?_,h.pi,λz s=>?_,λy L=>?_⟩
 .rcases mI s with ⟨A,S⟩ | ⟨A,S⟩
  .rw[De A];exact G _ _ _ (by decide) (h.n i z S)
  .subst A S;rw[Gp];exact G _ _ _ (by decide) hM
 .rw[Fj];show _=some (Au.cells _ [jj _ (N.nd++ [x]).length,_,_]);rw[Δ];rfl
 .have hi':i<N.nd.length+1:=by simpa using R
  have hk':k<N.nd.length+1:=by simpa using G
  by_cases e1:i=N.nd.length<;>by_cases e2:k=N.nd.length
  .omega
  .subst e1;rw[Gp,De (by omega)] at e;exact absurd e.symm (H k (by omega))
  .subst e2;rw[Gp,De (by omega)] at e;exact absurd e (H i (by omega))
  .rw[De (by omega),De (by omega)] at e;exact h.ni i k (by omega) (by omega) e
 .rcases ν.1 s with s | s
  .exact h.e z s
  .have e:=ξ.1 s;subst e;refine ⟨λe o=>?_,λe o=>?_⟩
   .rw[C] at o;cases o
   .rw[B] at o;cases o
 .intro i R;have:=h.q y L i R
  simp;omega
section
variable{P:Program}{F:Fr}{s:AS}{d:Nat}{ty T T' E:TypeId}{pos:String}{aft:Array Edge}{g:Option (Nat×Bool)}{x:Operand}
theorem UN{p:Option Addr}(b:P.underlying T=some (.pointer E))(c:s.ev x=some (.d (.raw (.pointer p))))(j:Nat.blt d s.n=true):AA P F ⟨some d,.binOp .neq T x (.const (.pointer none)) T',ty,pos,aft,g⟩ s d (.d (.raw (.bool (!p.isNone)))):=
 DD _ j λl a w h=>by
  have f:=h.raw c;have i:P.pointee T=E:=by unfold Program.pointee;rw[b]
  have k:a.eval (.const (.pointer none))= .pointer none:=rfl;exact ⟨.bool (!p.isNone),by simp[execOp,f,k,Vh,binOp,run_equal_pointer_nil w T p (by rw[i];exact b)],.d (.raw Z)⟩
end
section
variable{P:Program}{F:Fr}{s:AS}{d:Nat}{ty T:TypeId}{pos:String}{aft:Array Edge}{g:Option (Nat×Bool)}{x:Operand}
theorem aL(r k:Nat){f j b f2 l m:Nat}{t:TypeId}{u:List AV}(z:s.ev x=some (.ptr f j b))(B:dd s.hp f j=some (.blk t u))(E:u[b]? =some (.d (.raw (.map (some m)))))(C:dd s.hp r k=some (.addr f2 l (.map (some m))))(G:BX P T=true)(D:Nat.blt d s.n=true):
  AA P F ⟨some d,.load T x,ty,pos,aft,g⟩ s d (.map f2 l):=by
 have h:=AQ (F:=F) (ty:=ty) (pos:=pos) (aft:=aft) (g:=g) z B E G D;refine ⟨h.1,h.2.1,λy i w o=>?_⟩;refine qr (λa J ⟨v,I,c,H⟩=>⟨v,I,?_,H⟩) (h.2.2 y i w o)
 cases c with
 | d c=>cases c with
  | raw _=>
   obtain ⟨_,A⟩:=o.heap.sim r k _ C;exact .map A
end
variable{a:List dr}{c:List gf}{k:Nat}{N:ji}{f:iB}{g:Nat->Nat}{h:List Nat}{i:List AW}{j:List gf}{o:Hd}{X:dr}{t:Nat}{M:MF}{s:Nat}{y:Po}{u w:Nat}
def j8(p:iB):List gf:=(IM (p.ro.map gf.r)).map λi=>p.ro.getD i IU
def Ph(y:Po):Po:={y with mi:=y.q.length}
def fc(p:iB):ji:=⟨(F2 (j8 p) (hY p) (hY p).length).nd,(F2 (j8 p) (hY p) (hY p).length).po.map Ph,none,none⟩
theorem fX{a:Type}{f:gf->a}(h:(j.map f).Nodup)(k:Nat):((j.take k).map f).Nodup:=by grind
theorem fY{f:gf->AW}(h:(j.map f).Nodup)(c:k<j.length):f j[k]∉(j.take k).map f:=λb=>by
 have a:=fX h (k+1);rw[EE c,mc] at a;exact a.2.2 _ b _ (List.mem_singleton_self _) rfl
abbrev xy:D:= .raw (.pointer none)
theorem Da(c:Ad f=0):(f.ro.map gf.r).Nodup:=by
 have g:=Tr.1 (HZ c).1;rw[List.Nodup,lA,lc];intro i j h a b e;have:=g j (Ω.2 a)
 grind[If,Gh]
theorem wD(l:i.Nodup)(k:h.Perm (List.range i.length)){f:Nat->Nat}{r:AW}{z:Value}(o:r∈h.map λa=>i.getD a FZ):Af (Wj FZ f i) r z=pV (f (h.getD ((h.map λa=>i.getD a FZ).idxOf r) 0)) 0:=by
 have b:=my o;have c:=nJ b
 generalize (h.map λa=>i.getD a FZ).idxOf r=j at b c⊢
 rw[χ] at b;rw[kR] at c;have g:h[j]<i.length:=Ω.1 (k.mem_iff.1 (ϑ b));rw[EC FZ g] at c;rw[EC 0 b];exact YO l g c
theorem tI(g:h.Perm (List.range i.length)){f:Nat->Nat}{r:AW}{z:Value}(j:r∉h.map λa=>i.getD a FZ):Af (Wj FZ f i) r z=z:=by
 refine so λb=>j ?_;obtain ⟨a,c,e⟩:=km b;exact Γ.2 ⟨a,g.mem_iff.2 (Ω.2 c),by rw[EC FZ c,e]⟩
theorem XC(p:iB):(j8 p).map gf.r=(IM (p.ro.map gf.r)).map λi=>(p.ro.map gf.r).getD i FZ:=by grind[j8,kT,IU,FZ]
theorem br(p:iB)(b:CY p)(c:Ad p≠0):AO prog 96 [.d (BM p)] [] λr f=>r= .d (.tup [xy,AE (Ad p)])/\f=[]:=by
 have a:=GA p b.b;refine Av func96 Z Z ntmps96 Z Z Z λF g=>(AD (AF (V (Ba 1 Z Z Z Z Z Z Z) (AB Z Z (AB Z Z (AC (AD (AD ?_))))))));refine AF (J (Ar Z Z CG Z Z Z) (J (Ak (a) Z Z) (AB Z Z (AC (AD (AF (cl Z Z (J (DP Z Z Z) ?_))))))));refine AC (CM Z ((by simpa using c)) (AD (AF (cl Z Z (AB Z Z (AB Z Z (AC (A5 ?_))))))));exact ⟨_,[],[],A2 Z,Z,Z,Z,Z⟩
theorem oT(y:Po):∀c∈oU y,c.one=true:=by
 intro c a;simp only[ju,List.not_mem_nil,or_false] at a;rcases a with rfl | rfl | rfl | rfl | rfl | rfl | rfl | rfl | rfl | rfl<;>rfl
theorem d6(p:iB):∀i∈List.range p.ro.length,∀j∈List.range p.ro.length,AI prog 142 [.d (.ptr (.agg (oU (KU (p.ro.getD i IU))))),.d (.ptr (.agg (oU (KU (p.ro.getD j IU)))))] (.raw (.int .i64 (OZ (p.ro.map gf.r) i j))):=by grind[qI,KU,OZ]
theorem nu(c:Cb u w (λ_=>0) g ⟨[],f.ro.map KU,none,o⟩ M):∀i∈List.range f.ro.length,M (g i)=some (.cells 190 (oU (KU (f.ro.getD i IU)))):=λi b=>by
 have a:=Ω.1 b;refine c.p i (KU (f.ro.getD i IU)) ?_;show (f.ro.map KU)[i]? =_;rw[ς,ω a,EC IU a];rfl
theorem d5(a:Cb u w (λ_=>0) g ⟨[],f.ro.map KU,none,o⟩ M):
  Cb u w (λ_=>0) (λk=>g ((IM (f.ro.map gf.r)).getD k 0)) ⟨[],(j8 f).map KU,none,o⟩ (d7 M o Y9 ((IM (f.ro.map gf.r)).map λx=>pD (g x) 0)):=by
 have v:(IM (f.ro.map gf.r)).Perm (List.range (f.ro.map KU).length):=by
  grind[jS]
 have s:(IM (f.ro.map gf.r)).map (λi=>(f.ro.map KU).getD i Ce)=(j8 f).map KU:=by
  grind[j8,kT]
 cases hmh:o with
 | some q=>
  obtain ⟨b,c⟩:=q;subst hmh;have h:=a.perm Z (λy l=>by obtain ⟨x,_,rfl⟩:=Γ.1 l;exact ⟨Z,Z⟩) v rfl;dsimp only at h;rw[s] at h;exact h
 | none=>
  subst hmh;have C:B1 M none Y9 1 ((List.range (f.ro.map KU).length).map λj=>B5 (g j)):=a.rs.1 .m;have t:=WZ C rfl;rw[kj,χ] at t;have B:f.ro=[]:=m5 t
  have A:(j8 f).map KU=f.ro.map KU:=by
   simp_all
  rw[A];rw[B] at a⊢;exact ⟨a.n,λj y l=>by simp at l,⟨λr=>by cases r<;>rfl,λr E b c G D F=>by cases r<;>cases D⟩,a.w,a.ni,λi j z _ _=>by simp at z,a.e,a.q⟩
theorem az(a:List gf)(b:List dr):BH ⟨[],a.map KU,none,o⟩=F2 a b 0:=by
 unfold BH F2 LO;dsimp only;rw[jy]
 rfl
theorem En(a:Ad f=0):((hY f).map dr.id).Nodup:=by
 have b:hY f=fl f.it:=ϱ a;rw[b];exact ((KI f.it).map dr.id).nodup_iff.2 (Xy (HZ a).2.1)
theorem Ov(a:Ad f=0):((j8 f).map gf.r).Nodup:=by grind[j8,jS,χ,ld,EC,Da]
theorem R9{l:List dr}(h:(l.map dr.id).Nodup)(c:k<l.length):l[k].id∉(l.take k).map dr.id:=λb=>by
 have a:((l.take (k+1)).map dr.id).Nodup:=h.sublist ((List.take_sublist (k+1) l).map dr.id);rw[EE c,mc] at a;exact a.2.2 _ b _ (List.mem_singleton_self _) rfl
theorem tZ(h:BH N=F2 c a k):N.nd.length=k:=by grind[LO,χ,BH,F2]
theorem tH(h:BH N=F2 c a k):N.po.length=c.length:=by grind[χ,BH,F2]
theorem qt{x:dr}{nh:Hd}(b:a.getD k ey=x)(h:BH N=F2 c a k):BH {N with nd:=N.nd++ [⟨x,none,[],none,[],true⟩],nh:=nh}=E2 c a k 0:=by
 subst b;rw[bA,<-h];unfold BH;dsimp only;rw[kA];rfl
theorem qv(g:a.getD k ey=X)(b:t<(ea X).length)(f:((ea X)[t]).1∉c.map gf.r):E2 c a k (t+1)=E2 c a k t:=by
 subst g;exact bB b f
theorem qu{b:List gf}(v:a.getD k ey=X)(i:(b.map gf.r).Nodup)(u:k<a.length)(l:t<(ea X).length){c:ji}(h:BH N=E2 b a k t)(o:(b.map gf.r).idxOf ((ea X)[t]).1=s)(r:((ea X)[t]).1∈b.map gf.r){x g:Nd}{f:Po}(z:N.nd[k]? =some x)(w:N.po[s]? =some y)(D:c.nd=N.nd.set k g)(B:FP g=FP (tw x s y.q.length ((ea X)[t]).2))(C:c.po=N.po.set s f)(A:Cv f=Cv (tv y k ((ea X)[t]).2)):BH c=E2 b a k (t+1):=by grind[uw]
theorem yP(h:BH N=E2 c a k t):N.nd.length=k+1:=by grind[LO,Δ,BH,E2]
theorem yO(h:BH N=E2 c a k t):N.po.length=c.length:=by
 have b:=jr (λN=>N.po.length) h;have f:(N.po.map Cv).length=(c.map _).length:=b
 grind
theorem qw(f:a.getD k ey=X)(b:k<a.length):E2 c a k (ea X).length=F2 c a (k+1):=by
 subst f;exact bC b
theorem uJ(h:BH N=F2 c a a.length):Bh N=a.map dr.id:=by
 have j:N.nd.map FP=LO (c.map gf.r) a a.length:=jr (λN=>N.nd) h;have g:Bh N=(N.nd.map FP).map λx=>x.it.id:=by unfold Bh;rw[jy];rfl
 rw[g,j];unfold LO;rw[jy]
 apply ld (by simp)
 intro i f b;simp only[kR,nV,Function.comp];show (a.getD i ey).id=_
 grind
theorem gu{b a:List Po}(f:s<b.length)(h:a=(b.take s).map Ph++b.drop s)(c:a[s]? =some y):a.set s (Ph y)=(b.take (s+1)).map Ph++b.drop (s+1):=by grind[χ,mR]
theorem oi(g:hY f=a)(b:j8 f=c):fc f=⟨(F2 c a a.length).nd,(F2 c a a.length).po.map Ph,none,none⟩:=by
 unfold fc;rw[g,b]
theorem f8{b:ji}(f:BH N=F2 c a a.length)(h:b.nd=N.nd)(g:b.po=N.po.map Ph):BH b=⟨(F2 c a a.length).nd,(F2 c a a.length).po.map Ph,none,none⟩:=by
 rw[<-f];unfold BH;dsimp only;rw[h,g,jy,jy]
 rfl
theorem WM(p:iB)(hf:CY p)(hE:Ad p=0):AO prog 96 [.d (BM p)] [] λr H'=>∃B u l o N M bs,r= .d (.tup [pD B 0,AE 0])/\H'=HW u bs (Ga l (Bh N)) M/\Cb B u l o N M/\BH N=fc p:=by
 have hck:=GA p hf.b;rw[hE] at hck;have hrn:=Da hE;have hrl:=hf.r;refine Av func96 Z Z ntmps96 Z Z Z λF H=>(AD (AF ?_));refine V (Ba 1 Z Z Z Z Z Z Z) (AB Z Z (AB Z Z (AC (AD (AD (AF (J (Ar Z Z CG Z Z Z) (J (Ak (hck) Z Z) ?_))))))));refine AB Z Z (AC (AD (AF (cl Z Z (J (DP Z Z Z) (AC (Cr Z (Z) (AU ?_))))))));refine AD (AF (V (SV 50 Z Z Z Z) (fQ 51 50 0 Z Z Z Z Z λu=>(od 26 51 0 (.inl Z) Z (J (Dx vX wM Z Z Z) (fP 27 Z (V (Ba 2 Z Z Z Z Z Z Z) (AB Z Z ?_))))))));refine AC (AD (II 40 Z Z Z (cS 5 2 40 (ds:=[jj none 0,jj none 0,M7 (.map (some u))]) H Z Z Z Z Z Z Z Z Z Z Z (λ_=>rfl) λB hwb=>(AF (V (SV 3 Z Z Z Z) (AB Z Z (AC (AD ?_))))))));refine AD (AF (J (AL Z Gm Z Z Z) (J (AQ Z Z Z Uo Z) (J (BW Z b0 Z) (cl Z Z (AC (AX (BC (α:=Nat×(Nat->Nat)×Hd×MF) (λq=>⟨142,[(1,(.ptr 1 0 0)),(5,(.d (pD B 0))),(6,(.map 3 0)),(31,(.d (.sl none (p.ro.map BT)))),(32,(.d (AE (p.ro.length:Int)))),(33,(.d (AE (q.1:Int))))],[(1,[.blk 39 [.d (.sl none (p.ro.map BT)),.d (.sl none (p.it.map Ah))]]),(3,[B6 Bn M7 (Wj FZ q.2.1 ((p.ro.take q.1).map gf.r))]),(40,[.multi q.2.2.2]),(50,[B6 AE M7 (Ga (λ_=>0) [])]),(51,[.addr 50 0 (.map (some u))])]⟩) (λq=>q.1<=p.ro.length/\Cb B u (λ_=>0) q.2.1 ⟨[],(p.ro.take q.1).map KU,none,q.2.2.1⟩ q.2.2.2/\(q.2.2.1≠none->0<q.1)) (λq=>p.ro.length-q.1) ((0,(λ_=>0),none,Bf (λ_=>none) B (ax none 0 none 0 u))) (⟨κ _,xg _ _ _ _ (show Bf (λ_=>none) B (ax none 0 none 0 u) B=_ from Fj _ _ _),λh=>absurd Z h⟩) (AR H [1,3,40,50,51] Z Z ⟨Z,Z,Z,Z,Z,Z,trivial⟩) ?_))))))));rintro ⟨k,o,mh,M⟩ ⟨hk0,G,hmh⟩;dsimp only at hk0 G hmh⊢;refine AD (AF (J (At Z Z Z) (AC (AD (A4 Z (λh34=>?_) (λh34=>?_))))))
 .have g:k<p.ro.length:=BG h34;refine AU (AD (AX (AD ?_)));have hpl:((p.ro.take k).map KU).length=k:=by rw[χ,θ];omega
  have hpr:((p.ro.take k).map gf.r).length=k:=by rw[χ,θ];omega
  refine AF (J (Al (k) Z Z (Z) (AP g) b0 Z QY Z) (J (CT Z Z dm Z) ?_));refine V (CF 4 Tu Z Z Z Z) (V (Bc Z Z Z Z Z Z Z QY) (AC (AD (AF (cl Z Z (J (AL Z GK Z Z Z) (J (Ar Z Z Cw Z Z Z) (J (AL Z GK Z Z Z) ?_))))))));refine J (Ar Z Z Cw Z Z Z) (J (AL Z TG Z Z Z) (J (AQ Z Z Z FK Z) (J (Dx vU wJ Z Z Z) (fP 44 Z (V (Ba 5 Z Z Z Z Z Z Z) (fS 45 5 40 (ds:=oU (KU p.ro[k])) H Z Z Z Z Z Z Z Z Z Z Z (λ_=>rfl) λbn U=>(V (Wa (Wj FZ o ((p.ro.take k).map gf.r)) (p.ro[k].r) (pV bn 0) Z Z Z Yw Ck Z Z) (AC ?_))))))));have hrnk:p.ro[k].r∉(p.ro.take k).map gf.r:=fY hrn g;rw[YN hrnk,hpr,<-EE g];have dd:Af (Wj FZ (OV o k bn) ((p.ro.take (k+1)).map gf.r)) p.ro[k].r (.pointer none)=pV bn 0:=by rw[YO (i:=k) (fX hrn (k+1)) (by rw[χ,θ];omega) (by rw[kR,List.getElem_take]),Gp]
  have A:=G.fresh (m:=W6 (KU p.ro[k])) U;have hpb:((List.range k).map o).length=k:=by simp
  have I:Bf M bn (W6 (KU p.ro[k])) B=some (ax none 0 mh ((List.range k).map o).length u):=by rw[hpb];have h:_=some (ax none 0 mh ((p.ro.take k).map KU).length u):=A.w;rw[hpl] at h;exact h
  have hmr:B1 (Bf M bn (W6 (KU p.ro[k]))) mh Y9 1 (((List.range k).map o).map B5):=by have h:B1 _ mh Y9 1 ((List.range ((p.ro.take k).map KU).length).map λj=>B5 (o j)):=A.rs.1 .m;rw[hpl] at h;rw[jy];exact h
  refine Bm [[],[],[1],[1,2],[1,2,3],[],[],[6],[5,6,7],[5,6,7,8],[1,2,3,4,5,6,7,8,9],rg 11,rg 12,rg 13] mixed Z (BY (A7 5 Z Z (A7 5 Z Z (AK [47] Z (EB Z Z) (AK [48] Z (Cs Z Lh Z Z Z) (A1 [49] [40] Z Z (λ_=>A9 (Eh (f:=40) Z Z (I) Z Yk Z)) (A7 6 Z Z (AK [8] Z (AL Z GK Z Z Z) ?_))))))));refine A1 [52] [4] Z Z (λ_=>A9 (Ar Z Z Cw Z Z Z)) (A1 [51,53] [3] Z Z (λ_=>A9 (I4 (Wj FZ (OV o k bn) ((p.ro.take (k+1)).map gf.r)) p.ro[k].r (.pointer none) (pV bn 0) Z Z Z Yw Ck ca dd Z)) (Cq [54] [6] [(55,_)] Z Z (λ_=>Cd (CB 6 r7 Z Z Z Z Z Z Z Z)) (.inr ⟨55,_,Z,Z,Z,Z,Z⟩) Z Z Z Z Z (Cq [50,55] [61,40,6] [(56,_)] Z Z (λ_=>Cd (Ha 50 61 40 hmr Z Z (by simp) Z Z Z Z Z (DQ (emb:=B5) ((List.range k).map o) [bn] Z Z Z Z Z Z Z Z r7 (by simp;omega) Z Z Z Z))) (.inr ⟨56,_,Z,Z,Z,Z,Z⟩) Z Z Z Z Z (BR 11 Z Z Z (AZ 12 Z Z (Fd 56 61 40 H Z Z Z (by simp) (by simp) Z Z Z Z Z Z Z (λ_ _=>rfl) λb1 c1 hb1 hc1=>(J (EB Z Z) (AC ⟨Z,?_⟩))))))));refine AZ 13 Z Z (J (Cs Z Lh Z Z Z) (AC ⟨Z,?_⟩));refine AZ 14 Z Z (V (Qh (f:=40) Z Z Z Z (A.keepM hb1 I) ((by show _<3;omega)) Z vk) (AC ⟨Z,?_⟩));refine Bb ?_;have e1:((List.range ((p.ro.take k).map KU).length).map (λj=>B5 (o j))++ [B5 bn])=((List.range k).map o++ [bn]).map B5:=by rw[hpl,kA,jy];rfl
  have e2:((List.range k).map o++ [bn]).length=((p.ro.take k).map KU).length+1:=by simp;omega
  have O:=A.addM (y:=KU p.ro[k]) (bn:=bn) Z Z (Fj _ _ _) (λj hj e=>by have h1:=G.p j _ (ω hj);rw[e,U] at h1;cases h1) hb1 (cap:=c1) (by have h:=hc1;simp at h⊢;omega);dsimp only at O;rw[e1,<-e2,<-EE g,hpl] at O;refine AF (J (Ac Z Z (Ξ _ (by omega)) Z) (cl Z Z (AC ?_)));exact ⟨(k+1,OV o k bn,some (b1,c1),_),⟨by show k+1<=_;omega,O,λ_=>Nat.succ_pos _⟩,by show p.ro.length-(k+1)<p.ro.length-k;omega,AR H [1,3,40,50,51] Z (Z) ⟨Z,Z,Z,Z,Z,Z,trivial⟩⟩
 .refine Aq (AD ?_);have hkk:k=p.ro.length:=by have h:=h34;omega
  subst hkk;rw[kW] at G⊢;have Q:M B=some (ax none 0 mh p.ro.length u):=by have h:_=some (ax none 0 mh (p.ro.map KU).length u):=G.w;rw[χ] at h;exact h
  have hR3:=d5 G;have hmr:B1 M mh Y9 1 ((List.range p.ro.length).map λj=>B5 (o j)):=by have h:B1 _ mh Y9 1 ((List.range (p.ro.map KU).length).map λj=>B5 (o j)):=G.rs.1 .m;rw[χ] at h;exact h
  refine AF (cl Z Z (J (EB Z Z) (J (Cs Z Lh Z Z Z) (J (Eh (f:=40) Z Z (Q) Z Yk Z) (V (dO tg func142 Z Z (f:=40) (bl:=o) (px:=λj=>oU (KU (p.ro.getD j IU))) (tx:=λ_=>190) (OZ (p.ro.map gf.r)) (SS _).swo (List.range p.ro.length) (IM (p.ro.map gf.r)) (by simp;omega) (d6 p) (λys h1 h2=>aO hrn (by rw[χ];exact h1) h2) Z Z (nu G) (λ_ _=>oT _) Z Z My hmr Z (by simp) (λh=>by have h1:=hmh h;intro h2;have h3:=jr List.length h2;rw[kj,lX] at h3;omega) Z Z) (AC (AD (AD ?_))))))))
  obtain ⟨a,v⟩:∃a,hY p=a:=⟨_,Z⟩
  have hoi:=Ii p hf.b;rw[v] at hoi
  obtain ⟨c,s⟩:∃c,j8 p=c:=⟨_,Z⟩
  have hitl:a.length<=30:=by rw[<-v];exact jq (DY p) hf.i
  have hrol:c.length<=100:=by rw[<-s];unfold j8;rw[χ,(jS _).length_eq,kj,χ];exact hrl
  have hitx:∀x∈a,YC x:=λx hx=>hf.x x (Ij (p:=p) (by rw[v];exact hx));have hin:(a.map dr.id).Nodup:=by rw[<-v];exact En hE
  have hroN:(c.map gf.r).Nodup:=by rw[<-s];exact Ov hE
  have hpin:=λ(r:AW) (h:r∈c.map gf.r)=>wD (z:= .pointer none) hrn (jS (p.ro.map gf.r)) (f:=o) (r:=r) (by rw[<-XC,s];exact h);have R:=λ(r:AW) (h:r∉c.map gf.r)=>tI (z:= .pointer none) (jS (p.ro.map gf.r)) (f:=o) (r:=r) (by rw[<-XC,s];exact h);rw[<-XC,s] at hpin;rw[s] at hR3
  generalize d7 M mh Y9 ((IM (p.ro.map gf.r)).map λx=>pD (o x) 0)=M2 at hR3⊢
  obtain ⟨w,hpb2⟩:∃f:Nat->Nat,(λk=>o ((IM (p.ro.map gf.r)).getD k 0))=f:=⟨_,Z⟩
  rw[hpb2] at hR3;have S:∀r,r∈c.map gf.r->Af (Wj FZ o (p.ro.map gf.r)) r (.pointer none)=pV (w ((c.map gf.r).idxOf r)) 0:=λr h=>by rw[hpin r h,<-hpb2]
  obtain ⟨pm,hpm⟩:∃m,Wj FZ o (p.ro.map gf.r)=m:=⟨_,Z⟩
  rw[hpm] at S R⊢;refine AF (J (Ar Z Z CG Z Z Z) (J (Ak (hoi) Z Z) (J (BW Z E0 Z) (cl Z Z (AC (AX (BC (α:=Nat×Nat×(Nat->Nat)×ji×MF) (λq=>⟨142,[(1,(.ptr 1 0 0)),(5,(.d (pD q.2.1 0))),(6,(.map 3 0)),(66,(.d (.sl none ((a.map dr.id).map AE)))),(67,(.d (AE ((a.map dr.id).length:Int)))),(68,(.d (AE (q.1:Int))))],[(1,[.blk 39 [.d (.sl none (p.ro.map BT)),.d (.sl none (p.it.map Ah))]]),(3,[B6 Bn M7 pm]),(40,[.multi q.2.2.2.2]),(50,[B6 AE M7 (Ga q.2.2.1 ((a.take q.1).map dr.id))]),(51,[.addr 50 0 (.map (some u))])]⟩) (λq=>q.1<=a.length/\Cb q.2.1 u q.2.2.1 w q.2.2.2.1 q.2.2.2.2/\BH q.2.2.2.1=F2 c a q.1) (λq=>a.length-q.1) ((0,B,(λ_=>0),⟨[],c.map KU,none,mh⟩,M2)) (⟨κ _,hR3,az c a⟩) (AR H [1,3,40,50,51] Z Z ⟨Z,Z,Z,Z,Z,Z,trivial⟩) ?_)))))));rintro ⟨k,B,l,N,M⟩ ⟨hk0,G,hT⟩;dsimp only at hk0 G hT⊢;refine AD (AF (J (At Z Z Z) (AC (AD (A4 Z (λh69=>?_) (λh69=>?_))))))
  .have g:k<a.length:=by have h:=h69;rw[χ] at h;exact BG h
   refine AU (AD (AX (AD ?_)))
   obtain ⟨X,hX⟩:∃X,a.getD k ey=X:=⟨_,Z⟩
   have L:a[k]=X:=by rw[<-hX,EC ey g]
   have hidk:X.id∉(a.take k).map dr.id:=by rw[<-L];exact R9 hin g
   have hitk:P6 a X.id=(X,true):=by have h:=VW g (R9 hin g) rfl;rw[L] at h;exact h
   have hip:=uB p X.id hf.b;rw[v,hitk] at hip;have hk70:((a.map dr.id).map AE)[k]? =some (AE X.id):=by rw[ς,ς,ω g,L];rfl
   refine AF (J (Al (k) Z Z (Z) (hk70) E0 Z BE Z) (J (BZ Z Z Ag Z) (AB Z Z (AC (AD (AF (J (Ar Z Z CG Z Z Z) (cl Z Z ?_))))))));refine J (Ak (hip) Z Z) (cl Z Z (J (DI Z Z Z) (J (DI Z Z Z) (V (CF 7 Fk Z Z Z Z) (V (Bc Z Z Z Z Z Z Z DT) (AB Z Z (AC (AD ?_))))))));refine AF (J (Ar Z Z Cc Z Z Z) (J (Dx vW wL Z Z Z) (fP 79 Z (V (Ba 8 Z Z Z Z Z Z Z) (AB Z Z (AC (AD (cS 13 8 40 (ds:=yY ⟨X,none,[],none,[],true⟩) H Z Z Z Z Z Z Z Z Z Z Z (λ_=>rfl) λbn U=>?_))))))));have hNk:N.nd.length=k:=tZ hT;have A:=G.fresh (m:=W8 ⟨X,none,[],none,[],true⟩) U;have hnb:((List.range k).map l).length=k:=by simp
   have I:Bf M bn (W8 ⟨X,none,[],none,[],true⟩) B=some (ax N.nh ((List.range k).map l).length N.mh N.po.length u):=by rw[hnb];have h:_=some (ax N.nh N.nd.length N.mh N.po.length u):=A.w;rw[hNk] at h;exact h
   have hnr:B1 (FV (Bf M bn (W8 ⟨X,none,[],none,[],true⟩)) B) N.nh en 1 (((List.range k).map l).map B5):=by have h:B1 _ N.nh en 1 ((List.range N.nd.length).map λj=>B5 (l j)):=(A.rs.del A.w).1 .n;rw[hNk] at h;rw[jy];exact h
   refine qf 5 20 40 Z Z Z I Z Z Z Z (Bm [[],[],[1],[1,2],[1,2,3],[],[],[6],[6,7],[6,7,8],[],[10],[6,7,8,9,10,11],[],[0,1,2,3,4,6,7,8,9,10,11,12],[0,1,2,3,4,6,7,8,9,10,11,12,14],[0,1,2,3,4,6,7,8,9,10,11,12,14,15],[0,1,2,3,4,5,6,7,8,9,10,11,12,14,15,16],[0,1,2,3,4,5,6,7,8,9,10,11,12,14,15,16,17],rg 19] mixed Z (BY (A7 5 Z Z (A7 5 Z Z (AK [82] Z (MB Z Z) (AK [83] Z (AL Z OT Z Z Z) (A1 [84] [20,51] Z Z (λ_=>A9 (aL 51 0 Z Z Z Z Yj Z)) ?_)))))));refine A7 10 Z Z (A7 5 Z Z (AK [87] Z (MB Z Z) (AK [88] Z (AL Z Jj Z Z Z) (A1 [89] [20] Z Z (λ_=>A9 (AQ Z Z Z HO Z)) (A7 13 Z Z (Cq [91] [9] [(92,_)] Z Z (λ_=>Cd (CB 9 Y3 Z Z Z Z Z Z Z Z)) (.inr ⟨92,_,Z,Z,Z,Z,Z⟩) Z Z Z Z Z (Cq [90,92] [60,40,9] [(93,_)] Z Z (λ_=>Cd (Ha 90 60 40 hnr Z Z (by simp) Z Z Z Z Z (DQ (emb:=B5) ((List.range k).map l) [bn] Z Z Z Z Z Z Z Z Y3 (by simp;omega) Z Z Z Z))) (.inr ⟨93,_,Z,Z,Z,Z,Z⟩) Z Z Z Z Z (A7 13 Z Z ?_))))))));refine AK [81] Z (MB Z Z) (AK [95] Z (AL Z Jj Z Z Z) (Cq [96,93] [20,60] [] Z Z (λ_=>Cd (Bc Z Z Z Z Z Z Z rR)) (.inl ⟨Z,Z⟩) Z Z Z Z Z (Cq [85,86] [50] [(97,_)] Z Z (λ_=>Cd (H6 (Ga l ((a.take k).map dr.id)) (X.id) ((.pointer none)) Z Z Z Yx I2 YF Z Z)) (.inr ⟨97,_,Z,Z,Z,Z,Z⟩) Z Z Z Z Z (AK [97] Z (D6 Z Z Z) (BR 19 Z Z Z (AZ 20 Z Z (V (H8 (Ga l ((a.take k).map dr.id)) (X.id) ((.pointer none)) (pV bn 0) Z Z Z I2 Z Z) (AC ⟨Z,?_⟩))))))));refine Bb (AD (Xu 93 60 40 20 0 H Z Z Z (by simp) (by simp) Z Z (λ_ _=>rfl) (λ_ _=>rfl) Z (λ_ _=>rfl) (λ_ _=>rfl) Z Z (λ_ _=>rfl) (λ_ _=>rfl) (λ_ _=>rfl) (λ_ _=>rfl) λb1 c1 hb1 hc1=>(cS 5 20 40 (ds:=[jj (some (b1,c1)) ((List.range k).map l++ [bn]).length,jj N.mh N.po.length,M7 (.map (some u))]) H Z Z Z Z Z Z Z Z Z Z Z (λ_=>rfl) λwb2 Q=>?_)));have hby:B2 (Ga l ((a.take k).map dr.id)) X.id (pV bn 0)=Ga (OV l k bn) ((a.take (k+1)).map dr.id):=by have h:=YN (d:=(0:Int)) (f:=l) (b:=bn) hidk;rw[show ((a.take k).map dr.id).length=k by rw[χ,θ];omega,<-L,<-EE g] at h;rw[<-L];exact h
   rw[hby];have e1:((List.range N.nd.length).map (λj=>B5 (l j))++ [B5 bn])=((List.range k).map l++ [bn]).map B5:=by rw[hNk,kA,jy];rfl
   have e2:((List.range k).map l++ [bn]).length=N.nd.length+1:=by simp;omega
   have O:=A.addN2 (x:=⟨X,none,[],none,[],true⟩) (bn:=bn) Z Z Z Z (Fj _ _ _) (λj hj e=>by have h1:=G.n j _ (ω hj);rw[e,U] at h1;cases h1) hb1 (cap:=c1) (by have h:=hc1;simp at h;omega) (wb':=wb2) (by rw[e1];exact Q);rw[e1,<-e2,hNk] at O;have hT0:=qt (x:=X) (nh:=some (b1,c1)) hX hT;have hfk:YC X:=hitx X (by rw[<-L];exact ϑ g);have hdl:=OX hfk;refine AF (J (Ar Z Z Cc Z Z Z) (J (Ak (Vr X (by have h:=hfk.1;omega) (by have h:=hfk.2.1;omega) (by have h:=hfk.2.2;omega)) Z Z) (cl Z Z (J (DI Z Z Z) (J (DI Z Z Z) (AB Z Z (AB Z Z ?_)))))));refine AC (AD (AF (cl Z Z (J (BW Z underlying215 Z) (cl Z Z (AC (AX (BC (α:=Nat×ji×MF) (λr=>⟨142,[(1,(.ptr 1 0 0)),(5,(.d (pD wb2 0))),(6,(.map 3 0)),(66,(.d (.sl none ((a.map dr.id).map AE)))),(67,(.d (AE ((a.map dr.id).length:Int)))),(68,(.d (AE (k:Int)))),(13,(.d (pD bn 0))),(104,(.d (.sl none ((ea X).map Qc)))),(105,(.d (AE ((ea X).length:Int)))),(106,(.d (AE (r.1:Int))))],[(1,[.blk 39 [.d (.sl none (p.ro.map BT)),.d (.sl none (p.it.map Ah))]]),(3,[B6 Bn M7 pm]),(40,[.multi r.2.2]),(50,[B6 AE M7 (Ga (OV l k bn) ((a.take (k+1)).map dr.id))]),(51,[.addr 50 0 (.map (some u))])]⟩) (λr=>r.1<=(ea X).length/\Cb wb2 u (OV l k bn) w r.2.1 r.2.2/\BH r.2.1=E2 c a k r.1) (λr=>(ea X).length-r.1) ((0,_,_)) (⟨κ _,O,hT0⟩) (AR H [1,3,40,50,51] Z Z ⟨Z,Z,Z,Z,Z,Z,Z,Z,Z,Z,trivial⟩) ?_))))))));rintro ⟨t,N3,M3⟩ ⟨ht0,hR4,D⟩;dsimp only at ht0 hR4 D⊢;refine AD (AF (J (At Z Z Z) (AC (AD (A4 Z (λY=>?_) (λY=>?_))))))
   .have ht1:t<(ea X).length:=BG Y;refine AU (AD (AX (AD (AF (J (Al (t) Z Z (Z) (AP ht1) underlying215 Z YQ Z) ?_)))));refine J (CT Z Z rf Z) (V (CF 10 c6 Z Z Z Z) (V (Bc Z Z Z Z Z Z Z YQ) (AC (AD (AF (cl Z Z (J (AL Z L9 Z Z Z) (J (Ar Z Z Cw Z Z Z) ?_))))))))
    by_cases hm:((ea X)[t]).1∈c.map gf.r
    .refine J (I4 pm ((ea X)[t]).1 (.pointer none) (pV (w ((c.map gf.r).idxOf ((ea X)[t]).1)) 0) Z Z Z Yw Ck ca (S _ hm) Z) (AB Z Z (AC (AD (AF (cl Z Z (J (UN underlying186 Z Z) (AC (CM Z (Z) ?_))))))));have hnl3:N3.nd.length=k+1:=yP D;have hpl3:N3.po.length=c.length:=yO D
     obtain ⟨x,hx⟩:∃x,N3.nd[k]? =some x:=⟨_,ω (by omega)⟩
     have hjl:(c.map gf.r).idxOf ((ea X)[t]).1<N3.po.length:=by rw[hpl3];have h:=my hm;rw[χ] at h;exact h
     obtain ⟨y,hy⟩:∃y,N3.po[(c.map gf.r).idxOf ((ea X)[t]).1]? =some y:=⟨_,ω hjl⟩
     have hbd:=jW hitl hitx g D hx hy;have hda:=Lr X _ (ϑ ht1);have hj:=tr hR4 hx hy ((ea X)[t]).2 ⟨by omega,by omega⟩ hbd.1 hbd.2.1 hbd.2.2.1 hbd.2.2.2;rw[Gp] at hj;refine AF (cl Z Z (cl Z Z (J (AL Z ZS Z Z Z) (J (AQ Z Z Z FK Z) ?_))));refine Cy (Zi hj Z [40] ⟨Z,trivial⟩ Z Z Z Z (λr H' ⟨e1,N',M',e2,_⟩=>by subst e1 e2;exact ⟨Z,Z,Z⟩) Z) Z ?_;rintro _ ⟨r,H',⟨rfl,N4,M4,rfl,E,hnh4,hmh4,⟨x',hx4,ex4⟩,y',hy4,ey4⟩,rfl⟩;refine AC (AF (J (Ac Z Z (Ξ _ (by omega)) Z) (cl Z Z (AC ?_))));exact ⟨(t+1,N4,M4),⟨by show t+1<=_;omega,E,qu hX hroN g ht1 D Z hm hx hy hx4 ex4 hy4 ey4⟩,by show (ea X).length-(t+1)<(ea X).length-t;omega,AR H [1,3,40,50,51] Z (Z) ⟨Z,Z,Z,Z,Z,Z,Z,Z,Z,Z,trivial⟩⟩
    .refine J (I4 pm ((ea X)[t]).1 (.pointer none) (.pointer none) Z Z Z Yw Ck ca (R _ hm) Z) (AB Z Z (AC (AD (AF ?_))));refine cl Z Z (J (UN underlying186 Z Z) (AC (Cr Z (Z) (AU (AF (J (Ac Z Z (Ξ _ (by omega)) Z) (cl Z Z (AC ?_))))))));exact ⟨(t+1,N3,M3),⟨by show t+1<=_;omega,hR4,by show BH N3=E2 c a k (t+1);rw[qv hX ht1 hm];exact D⟩,by show (ea X).length-(t+1)<(ea X).length-t;omega,AR H [1,3,40,50,51] Z (Z) ⟨Z,Z,Z,Z,Z,Z,Z,Z,Z,Z,trivial⟩⟩
   .refine Aq ?_;have hte:t=(ea X).length:=by have h:=Y;omega
    have hT5:BH N3=F2 c a (k+1):=by rw[<-qw hX g,<-hte];exact D
    refine AF (J (Ac Z Z (Ξ _ (by omega)) Z) (cl Z Z (AC ?_)));exact ⟨(k+1,wb2,OV l k bn,N3,M3),⟨by show k+1<=_;omega,hR4,hT5⟩,by show a.length-(k+1)<a.length-k;omega,AR H [1,3,40,50,51] Z (Z) ⟨Z,Z,Z,Z,Z,Z,trivial⟩⟩
  .refine Aq (AD (AD ?_));have hke:k=a.length:=by have h:=h69;rw[χ] at h;omega
   subst hke;rw[kW];have hwbf:=G.w;have hpzf:N.mh=none->N.po.length=0:=λh=>by have h1:B1 M N.mh Y9 1 ((List.range N.po.length).map λj=>B5 (w j)):=G.rs.1 .m;have h2:=WZ h1 h;rw[kj] at h2;exact h2
   have hids:=uJ hT;have hNl:N.po.length=c.length:=tH hT;refine AF ?_;refine cl Z Z (J (EB Z Z) (J (Cs Z Lh Z Z Z) (J (Eh (f:=40) Z Z (hwbf) Z Yk Z) (J (Xv hpzf Z underlying177 Z) (cl Z Z (AC (AX (BC (α:=Nat×ji×MF) (λr=>⟨142,[(5,(.d (pD B 0))),(126,(.d (jj N.mh N.po.length))),(127,(.d (AE (N.po.length:Int)))),(128,(.d (AE (r.1:Int))))],[(40,[.multi r.2.2]),(50,[B6 AE M7 (Ga l (a.map dr.id))]),(51,[.addr 50 0 (.map (some u))])]⟩) (λr=>r.1<=N.po.length/\Cb B u l w r.2.1 r.2.2/\r.2.1.nd=N.nd/\r.2.1.mh=N.mh/\r.2.1.po=(N.po.take r.1).map Ph++N.po.drop r.1) (λr=>N.po.length-r.1) ((0,N,M)) (⟨κ _,G,Z,Z,Z⟩) (AR H [40,50,51] Z Z ⟨Z,Z,Z,Z,trivial⟩) ?_))))))));rintro ⟨j,N5,M5⟩ ⟨hj0,E,K,T,C⟩;dsimp only at hj0 E K T C⊢;refine AD (AF (J (At Z Z Z) (AC (AD (A4 Z (λW=>?_) (λW=>?_))))))
   .have hj1:j<N.po.length:=BG W;refine AU (AD (AX (AD ?_)));have hl5:N5.po.length=N.po.length:=by rw[C];simp;omega
    have hpr5:B1 M5 N.mh Y9 1 ((List.range N.po.length).map λj=>B5 (w j)):=by have h:B1 M5 N5.mh Y9 1 ((List.range N5.po.length).map λj=>B5 (w j)):=E.rs.1 .m;rw[hl5,T] at h;exact h
    obtain ⟨rb,rc,hre⟩:=Wb hpr5 (j:=j) (by rw[kj];exact hj1);have hrow:=Tq hpr5 hre
    obtain ⟨y,hy⟩:∃y,N5.po[j]? =some y:=⟨_,ω (by omega)⟩
    obtain ⟨hyb,hyq⟩:=E.pp j y hy;have hqz:=WZ hyq;refine AF (J (Xz hre (j) Z Z Z hj1 underlying177 dE Z) (J (qq (f:=40) (e:=j) (off:=0) Z (by omega) Z (hrow) ((by rw[ς,m7 hj1];rfl)) Z cj Z) ?_));refine AB Z Z (AC (AF (cl Z Z ?_)));refine cl Z Z (J (EB Z Z) (J (Cs Z IB Z Z Z) (J (Eh (f:=40) Z Z (hyb) Z HO Z) (J (Xv hqz Z S1 Z) (J (EB Z Z) (J (Cs Z Lb Z Z Z) (V (Qh (f:=40) Z Z Z Z (hyb) ((by show _<10;omega)) Z BE) (AC ?_))))))));have hR6:=E.setPo (y':=Ph y) hy Z Z;refine AF (J (Ac Z Z (Ξ _ (by omega)) Z) (cl Z Z (AC ?_)));exact ⟨(j+1,{N5 with po:=N5.po.set j (Ph y)},_),⟨by show j+1<=_;omega,hR6,K,T,gu hj1 C hy⟩,by show N.po.length-(j+1)<N.po.length-j;omega,AR H [40,50,51] Z (Z) ⟨Z,Z,Z,Z,trivial⟩⟩
   .refine Aq (AD ?_);have hje:j=N.po.length:=by have h:=W;omega
    subst hje;rw[kW,List.drop_length,kZ] at C;have hids5:Bh N5=a.map dr.id:=by unfold Bh at hids⊢;rw[K];exact hids
    refine AF (cl Z Z (AB Z Z (AB Z Z (AC (A5 ?_)))));exact ⟨_,[40,50,51],_,A2 Z,Z,Z,B,u,l,w,N5,M5,some (List.range (Ga l (a.map dr.id)).length,(Ga l (a.map dr.id)).length),Z,by rw[hids5];rfl,E,by rw[oi v s];exact f8 hT K C⟩
end Go.Proofs.YteifpcnphnhaoaaGreat
namespace Go.Proofs.YteifpcnphnhaoaaGreat
open Go.RowKit
variable{a:List dr}{c:List gf}{g:List (List Nat)}{f:Nat->Bool}{i:Nat}{h:iB}{j:List Int}{k:List (List (AW×Int))}{o:List AW}{w s:List Nat}{K:Nat->Nat}{t:Nat}{E:List (dr×Nat)}{u:Type}{x:I1}{N:ji}{y:Nat}{z:gf}{A:Nat}{B:Type}{C:Nat}{Q:List Int}{M:MF}{F:B->B->Int}{G:AW}{H:Nd}{I:List Nat}{L:List Int}{R:List B}{S:List gf}{T:List dr}{U:Nat}{W:dr}{X:List u}{Y:dr}
set_option maxRecDepth 100000
def E1(ds:List (List (AW×Int)))(on:Nat->Bool)(r:AW):Int:=((List.range ds.length).map λi=>if on i=true then Du (ds.getD i []) r else 0).sum
def ft(on:Nat->Bool)(q:List Nat):Nat:=q.findIdx λi=>!on i
def ej(ds:List (List (AW×Int)))(on:Nat->Bool)(x:gf):Po:=⟨x.r,x.n,E1 ds on x.r,none,iX ds x.r,ft on (iX ds x.r)⟩
def J8(rs:List AW)(its:List dr)(on:Nat->Bool)(i:Nat):Nd:={rz rs ((its.map ea).take i) (its.getD i ey) (ea (its.getD i ey)) with on:=on i}
def iL(ros:List gf)(its:List dr)(on:Nat->Bool):ji:=⟨(List.range its.length).map (J8 (ros.map gf.r) its on),ros.map (ej (its.map ea) on),none,none⟩
def BD(on:Nat->Bool)(i:Nat):Nat->Bool:=λj=>if j=i then false else on j
theorem ZB(q:List Nat):ft (λ_=>true) q=q.length:=by
 unfold ft
 simp
theorem dI(a:List (List (AW×Int)))(r:AW):E1 a (λ_=>true) r=(a.map λD=>Du D r).sum:=by
 unfold E1
 congr 1
 apply ld (by simp)
 grind
theorem fb(p:iB):fc p=iL (j8 p) (hY p) λ_=>true:=by
 unfold fc iL F2 LO;dsimp only;rw[jy]
 congr 1
 grind[kT,ζ,Ph,ae,ej,dI,ZB]
theorem TT{f g:gf->Po}(h:A<c.length){y:Po}(b:(c.map gf.r).Nodup)(o:y=g c[A])(l:∀x∈c,x.r≠c[A].r->f x=g x):(c.map f).set A y=c.map g:=by
 refine ma λi=>?_;rw[nF]
 by_cases e:A=i
 .grind
 .rw[υ e,ς,ς]
  cases hi:c[i]? with
  | none=>rfl
  | some z=>
   have a:=φ.1 hi;show some _=some _
   rw[l z (ϖ hi) λs=>e (by
    have k:(c.map gf.r)[A]'(by simpa using h)=(c.map gf.r)[i]'(by simpa using a.1):=by
     grind
    exact (List.getElem_inj b).1 k)]
theorem OQ(a:G∈c.map gf.r):∃b:(c.map gf.r).idxOf G<c.length,c[(c.map gf.r).idxOf G].r=G:=by
 have h:=my a;have f:=nJ h
 grind
theorem dM(l:(c.map gf.r).Nodup)(f:gf->Po):∀(D:List (AW×Int)),(D.map Prod.fst).Nodup->(mL (c.map gf.r) D).foldl Np (c.map f)=c.map λx=>{f x with sum:=(f x).sum-Du D x.r}:=by
 intro D
 induction D using cK with
 | h0=>
  intro _;show c.map f=_;refine kT λx _=>?_;show f x={f x with sum:=(f x).sum-0}
  rw[Int.sub_zero]
 | h1 D d a=>
  intro g;rw[kA,mc] at g;have j:d.1∉D.map Prod.fst:=λh=>g.2.2 _ h _ (List.mem_singleton_self _) rfl;have a:=a g.1
  by_cases b:d.1∈c.map gf.r
  .rw[Xe b,List.foldl_append,a];obtain ⟨o,k⟩:=OQ b
   grind[Np,TT,ET,EU,Dm]
  .rw[TY b,a];refine kT λx i=>?_;have:Du (D++ [d]) x.r=Du D x.r:=Dm λe=>b (e▸Γ.2 ⟨x,i,Z⟩);rw[this]
theorem fq(w:(c.map gf.r).Nodup)(f:gf->Po)(k:List (List (AW×Int))):∀(D:List (AW×Int)),(D.map Prod.fst).Nodup->(l7 (c.map gf.r) k D).foldl Q7 (c.map f)=c.map λx=>{f x with mi:=if Du D x.r<0 then min (f x).mi (iX k x.r).length else (f x).mi}:=by
 intro D
 induction D using cK with
 | h0=>
  intro _;show c.map f=_;refine kT λx _=>?_;have z:Du [] x.r=0:=rfl
  simp_all
 | h1 D d i=>
  intro o;rw[kA,mc] at o;have a:d.1∉D.map Prod.fst:=λh=>o.2.2 _ h _ (List.mem_singleton_self _) rfl;have i:=i o.1
  by_cases b:d.1∈c.map gf.r/\d.2<0
  .rw[er b.1 b.2,List.foldl_append,i];obtain ⟨v,j⟩:=OQ b.1;show Q7 _ ((c.map gf.r).idxOf d.1,(iX k d.1).length)=_;rw[ZA (y:=(λx=>{f x with mi:=if Du D x.r<0 then min (f x).mi (iX k x.r).length else (f x).mi}) c[(c.map gf.r).idxOf d.1]) (by rw[ς,ω v];rfl)];refine TT v w ?_ λx u g=>?_
   .dsimp only;have t:Du (D++ [d]) c[(c.map gf.r).idxOf d.1].r=d.2:=by rw[j];exact ET a
    have s:Du D c[(c.map gf.r).idxOf d.1].r=0:=by rw[j];exact EU a
    rw[t,s,υ (by omega),ϱ b.2,j]
   .rw[j] at g;have:Du (D++ [d]) x.r=Du D x.r:=Dm g;rw[this]
  .rw[Sj b,i];refine kT λx u=>?_
   by_cases e:x.r=d.1
   .have l:d.1∈c.map gf.r:=e▸Γ.2 ⟨x,u,Z⟩;have t:Du (D++ [d]) x.r=d.2:=by rw[e];exact ET a
    have s:Du D x.r=0:=by rw[e];exact EU a
    rw[t,s,υ (by omega),υ (λh=>b ⟨l,h⟩)]
   .have:Du (D++ [d]) x.r=Du D x.r:=Dm e;rw[this]
theorem HC(h:A≠i):BD f i A=f A:=υ h
theorem J2:BD f i i=false:=ϱ rfl
theorem Vc(p:u->Bool)(l m:List u):(l++m).findIdx p=if l.findIdx p<l.length then l.findIdx p else m.findIdx p+l.length:=List.findIdx_append
theorem Pk{b:Type}{p q:b->Bool}:∀{l:List b},(∀x∈l,p x=q x)->l.findIdx p=l.findIdx q
 | [],_=>rfl
 | a::l,h=>by
  rw[List.findIdx_cons,List.findIdx_cons,h a (k8 ..),Pk λx c=>h x (kx _ c)]
theorem J4{n:Nat}(h:i<n):∃B:List Nat,List.range n=List.range i++i::B/\∀j∈B,i<j:=by
 refine ⟨List.range' (i+1) (n-i-1),?_,λj b=>?_⟩
 .rw[List.range_eq_range',List.range_eq_range'];have a:n=i+(1+(n-i-1)):=by omega
  conv=>lhs;rw[a]
  rw[<-List.range'_append_1,lY,Nat.add_comm 1 (n-i-1),List.range'_succ]
 grind
theorem LN(h:i<k.length)(r:AW):∃B:List Nat,iX k r=iX (k.take i) r++((if Du (k.getD i []) r<0 then [i] else [])++B)/\(∀j∈iX (k.take i) r,j<i)/\∀j∈B,i<j:=by
 obtain ⟨B,c,b⟩:=J4 h;refine ⟨B.filter λi=>decide (Du (k.getD i []) r<0),?_,λj a=>?_,λj a=>b j (Φ.1 a).1⟩
 all_goals (grind[iX,l5])
theorem ol(h:i<k.length)(a:Nat->Bool)(r:AW):ft (BD a i) (iX k r)=if Du (k.getD i []) r<0 then min (ft a (iX k r)) (iX (k.take i) r).length else ft a (iX k r):=by
 obtain ⟨B,c,b,f⟩:=LN h r;rw[c]
 generalize iX (k.take i) r=A at b⊢
 grind[Pk,HC,ft,Vc,J2]
theorem dH(h:i<k.length)(b:f i=true)(r:AW):E1 k (BD f i) r=E1 k f r-Du (k.getD i []) r:=by
 obtain ⟨B,a,c⟩:=J4 h;unfold E1;rw[a,kA,kA,k7,k7,mj,mj,lW,lW]
 grind[kT,HC,J2]
theorem YV:∀(l:List (Nat×Int)) (a:List Po),(l.foldl Np a).map Cv=l.foldl Np (a.map Cv)
 | [],_=>rfl
 | e::l,a=>by
  rw[List.foldl_cons,List.foldl_cons,YV l]
  congr 1
  unfold Np;rw[ς]
  cases a[e.1]? with
  | none=>rfl
  | some y=>show (a.set e.1 _).map Cv=_;rw[List.map_set];rfl
theorem Yz:∀(l:List (Nat×Nat)) (a:List Po),(l.foldl Q7 a).map Cv=l.foldl Q7 (a.map Cv)
 | [],_=>rfl
 | e::l,a=>by
  rw[List.foldl_cons,List.foldl_cons,Yz l]
  congr 1
  unfold Q7;rw[ς]
  cases a[e.1]? with
  | none=>rfl
  | some y=>show (a.set e.1 _).map Cv=_;rw[List.map_set];rfl
theorem xe(t:(c.map gf.r).Nodup)(h:BH N=iL c a f)(g:i<a.length)(y:f i=true)(w:N.nd[i]? =some H):BH (vt N i H)=iL c a (BD f i):=by
 have o:N.nd.map FP=(List.range a.length).map (J8 (c.map gf.r) a f):=jr ji.nd h;have k:N.po.map Cv=c.map (ej (a.map ea) f):=jr ji.po h
 have b:FP H=J8 (c.map gf.r) a f i:=by
  have u:(N.nd.map FP)[i]? =some (FP H):=by rw[ς,w];rfl
  grind
 have s:H.ef=mL (c.map gf.r) (ea (a.getD i ey)):=jr Nd.ef b;have l:H.pl=l7 (c.map gf.r) ((a.map ea).take i) (ea (a.getD i ey)):=jr Nd.pl b;have kL:i<(a.map ea).length:=by simpa using g
 have r:(a.map ea).getD i []=ea (a.getD i ey):=by rw[EC [] kL,EC ey g,kR]
 unfold BH vt iL;dsimp only
 congr 1
 .rw[List.map_set,o]
  have:FP (Ez H)=J8 (c.map gf.r) a (BD f i) i:=by
   have u:FP (Ez H)=Ez (FP H):=rfl;rw[u,b];unfold J8 Ez BD;rw[ϱ rfl]
  rw[this];refine ma λj=>?_;rw[nF]
  by_cases e:i=j
  .subst e;rw[ϱ Z,ϱ (by simpa using g),ς,m7 g];rfl
  .rw[υ e,ς,ς]
   cases hj:(List.range a.length)[j]? with
   | none=>rfl
   | some z=>
    have v:=φ.1 hj;have:z=j:=by have:=v.2;simp at this;exact this.symm
    subst this;show some _=some _;unfold J8 BD;rw[υ (λh=>e h.symm)]
 .rw[Yz,YV,k,s,l,dM t _ _ (cR _),fq t _ _ _ (cR _)];refine kT λz _=>?_;unfold ej;dsimp only;rw[dH kL y,ol kL,r]
theorem GM(N:ji)(i:Nat):(BH N).nd.getD i CV=FP (N.nd.getD i CV):=by
 show (N.nd.map FP).getD i CV=_;rw[Ψ,Ψ,ς]
 cases N.nd[i]?<;>rfl
theorem JE(N:ji)(j:Nat):(BH N).po.getD j Ce=Cv (N.po.getD j Ce):=by
 show (N.po.map Cv).getD j Ce=_;rw[Ψ,Ψ,ς]
 cases N.po[j]?<;>rfl
theorem IC(N:ji):Bh (BH N)=Bh N:=by
 unfold Bh BH;rw[jy];rfl
theorem bT(N:ji)(x:Nd):G5 (BH N) (FP x)=G5 N x:=by
 have c:kw (BH N)=kw N:=funext λe=>by unfold kw;rw[JE];rfl
 have b:∀e,TU (BH N) (FP x) e=TU N x e:=λe=>by unfold TU;rw[JE,GM];rfl
 have a:je (BH N)=je N:=funext λe=>by unfold je;rw[GM,IC];rfl
 grind[G5,FP]
theorem VB(N:ji):Dl (BH N)=Dl N:=by
 have c:(BH N).nd.findSome? (Ra (BH N))=N.nd.findSome? (Ra N):=by
  show (N.nd.map FP).findSome? _=_;rw[List.findSome?_map]
  congr 1
  grind[Ra,FP,bT]
 have b:(BH N).po.findSome? (W5 (BH N))=N.po.findSome? (W5 N):=by
  show (N.po.map Cv).findSome? _=_;rw[List.findSome?_map]
  congr 1
  funext y
  show W5 (BH N) (Cv y)=W5 N y;have a:kV (BH N)=kV N:=funext λi=>by unfold kV;rw[GM];rfl
  have f:∀i,((BH N).nd.getD i CV).it.id=(N.nd.getD i CV).it.id:=λi=>by rw[GM];rfl
  unfold W5;rw[a];show (if Q2 y y.sum=true then (y.q.reverse.find? (kV N)).map λi=>(⟨((BH N).nd.getD i CV).it.id,0,y.r,-1⟩:I1) else none)=_
  grind
 unfold Dl;rw[c,b]
theorem gX(h:G5 N H=some x):x.id=H.it.id:=by
 unfold G5 at h
 split at h
 .injection h with h;subst h;rfl
 grind
theorem OK(h:Dl N=some x):∃(i:Nat) (a:Nd),N.nd[i]? =some a/\a.on=true/\x.id=a.it.id:=by
 unfold Dl at h
 split at h
 .rename_i o j
  injection h with h;subst h
  obtain ⟨a,c,b⟩:=s6 j;obtain ⟨i,g,k⟩:=km c;unfold Ra at b
  split at b
  .rename_i f
   exact ⟨i,a,by rw[ω g,k],f,gX b⟩
  .cases b
 .obtain ⟨y,l,b⟩:=s6 h;unfold W5 at b
  split at b
  .cases hf:y.q.reverse.find? (kV N) with
   | none=>rw[hf] at b;cases b
   | some i=>
    grind[kV,CV]
  .cases b
structure vN (ros:List gf) (its:List dr):Prop where
 l:its.length<=30
 x:∀x∈its,YC x
 i:(its.map dr.id).Nodup
 a:∀x∈its,∀id∈x.af,id∈its.map dr.id
 r:(ros.map gf.r).Nodup
 n:∀x∈ros,-4000000000000000<=x.n/\x.n<=4000000000000000
 o:ros.length<=100
theorem qx(h:H∈(iL c a f).nd):∃i,i<a.length/\H=J8 (c.map gf.r) a f i:=by
 obtain ⟨i,b,e⟩:=Γ.1 h
 grind
theorem QN(f:List gf)(c:List dr)(g:Nat->Bool):Bh (iL f c g)=c.map dr.id:=by
 unfold Bh iL;rw[jy]
 apply ld (by simp)
 intro i a b;simp only[kR,nV,Function.comp];show (c.getD i ey).id=_
 grind
theorem pc{D:List (AW×Int)}{e:Nat×Int}(h:e∈mL o D):∃d∈D,e.2=d.2:=by
 obtain ⟨d,a,rfl⟩:=Γ.1 h
 grind
theorem oW{D:List (AW×Int)}{e:Nat×Nat}(h:e∈l7 o k D):∃d∈D,d.1∈o/\d.2<0/\e=(o.idxOf d.1,(iX k d.1).length):=by grind[l7]
theorem sW(h:vN c a)(b:Nat->Bool)(r:AW): -30000000000000000<=E1 (a.map ea) b r/\E1 (a.map ea) b r<=30000000000000000:=by
 have f:∀l:List Nat,-(l.length*1000000000000000)<=(l.map λi=>if b i=true then Du ((a.map ea).getD i []) r else 0).sum/\(l.map λi=>if b i=true then Du ((a.map ea).getD i []) r else 0).sum<=l.length*1000000000000000:=by
  intro l
  induction l with
  | nil=>simp
  | cons i l s=>
   simp only[k7,lW,mN]
   have k:QW ((a.map ea).getD i []):=by
    rcases ko (l:=a.map ea) (d:=[]) i with g | g
    .grind[Lr]
    .rw[g];intro x j;cases j
   have o:=Zb k r;omega
 have o:=f (List.range (a.map ea).length);have t:=h.l
 grind[E1]
theorem y2(h:vN c a)(g:Nat->Bool):lV (iL c a g):=by
 have I:=h.l
 have k:∀y∈(iL c a g).po,y.q.length<=30/\y.mi<=30/\∃x∈c,y=ej (a.map ea) g x:=λy j=>by
  obtain ⟨x,b,e⟩:=Γ.1 j;subst e;have t:=LM (a.map ea) x.r;rw[χ] at t;have C:ft g (iX (a.map ea) x.r)<=(iX (a.map ea) x.r).length:=List.findIdx_le_length;exact ⟨by show (iX _ _).length<=_;omega,by show ft _ _<=_;omega,x,b,Z⟩
 refine ⟨by rw[QN];exact h.i,λx b id v=>?_,λx b=>?_,λx b e z=>?_,λx b e z=>?_,λy j=>?_,λy j=>?_,?_,λy j=>?_⟩
 .obtain ⟨i,f,rfl⟩:=qx b;rw[QN];refine h.a (a.getD i ey) (by rw[EC ey f];exact ϑ f) id v
 .obtain ⟨i,f,rfl⟩:=qx b;have u:a.getD i ey∈a:=by rw[EC ey f];exact ϑ f
  have t:=OX (h.x _ u);have C:=ZU (c.map gf.r) (ea (a.getD i ey));have K:=Yc (c.map gf.r) ((a.map ea).take i) (ea (a.getD i ey));have J:=(h.x _ u).2.2;exact ⟨by show (mL _ _).length<=_;omega,by show (l7 _ _ _).length<=_;omega,by show (a.getD i ey).af.length<=_;omega⟩
 .obtain ⟨i,f,rfl⟩:=qx b;obtain ⟨d,A,G⟩:=pc z;have:=Lr _ d A;rw[G];omega
 .obtain ⟨i,f,rfl⟩:=qx b;obtain ⟨d,A,u,l,rfl⟩:=oW z;obtain ⟨F,D⟩:=OQ u;have kL:i<(a.map ea).length:=by simpa using f
  have w:(a.map ea).getD i []=ea (a.getD i ey):=by rw[EC [] kL,EC ey f,kR]
  have s:Du ((a.map ea).getD i []) d.1=d.2:=by rw[w];exact jT (cR _) A
  obtain ⟨B,H,M,L⟩:=LN kL d.1
  have E:((iL c a g).po.getD ((c.map gf.r).idxOf d.1) Ce).q=iX (a.map ea) d.1:=by
   show ((c.map _).getD _ Ce).q=_;rw[EC Ce (by simpa using F),kR];show iX _ (c[(c.map gf.r).idxOf d.1]).r=_;rw[D]
  rw[E];dsimp only;have o:=jr List.length H;rw[ϱ (by rw[s];exact l),Δ,Δ,η] at o;have t:=LM ((a.map ea).take i) d.1;rw[θ,χ] at t;omega
 .have:=k y j;omega
 .obtain ⟨_,_,x,b,rfl⟩:=k y j;have:=h.n x b;show -1000000000000000000<=x.n/\x.n<=1000000000000000000;omega
 .have t:(iL c a g).nd.length=a.length:=by unfold iL;simp
  have C:(iL c a g).po.length=c.length:=by unfold iL;simp
  have:=h.o;omega
 .have:=k y j;omega
theorem sU{N:ji}(h:lV (BH N)):lV N:=by
 have c:∀x∈N.nd,FP x∈(BH N).nd:=λx a=>Γ.2 ⟨x,a,Z⟩;have f:∀y∈N.po,Cv y∈(BH N).po:=λy b=>Γ.2 ⟨y,b,Z⟩;refine ⟨by rw[<-IC];exact h.i,λx a id g=>by rw[<-IC];exact h.a _ (c x a) id g,λx a=>h.l (FP x) (c x a),λx a=>h.e (FP x) (c x a),λx a e i=>?_,λy b=>h.m (Cv y) (f y b),λy b=>h.rm (Cv y) (f y b),?_,λy b=>h.ql (Cv y) (f y b)⟩
 .have:=h.p _ (c x a) e i;rw[JE] at this;exact this
 .have:=h.n
  grind[BH]
theorem ux(h:vN c a)(i:BH N=iL c a f):UI N.po 1000000000000000000:=λy g=>by
 have b:Cv y∈(BH N).po:=Γ.2 ⟨y,g,Z⟩;rw[i] at b;obtain ⟨x,k,e⟩:=Γ.1 b;have l:=sW h f x.r;have j:y.sum=E1 (a.map ea) f x.r:=jr Po.sum e.symm;rw[j];omega
def FG(ros:List gf)(its:List dr):Nat->(Nat->Bool)->List I1×(Nat->Bool)
 | 0,on=>([],on)
 | f+1,on=>match Dl (iL ros its on) with
  | none=>([],on)
  | some e=>(e::(FG ros its f (BD on ((its.map dr.id).idxOf e.id))).1,(FG ros its f (BD on ((its.map dr.id).idxOf e.id))).2)
def EY(n:Nat)(on:Nat->Bool):Nat:=((List.range n).filter on).length
def JD(p:iB):List I1×(Nat->Bool):=FG (j8 p) (hY p) (hY p).length λ_=>true
def BU(its:List dr)(on:Nat->Bool)(k:Nat):List Int:=((List.range k).filter on).map λi=>(its.getD i ey).id
theorem HY{n:Nat}(a:i<n)(b:f i=true):EY n (BD f i)+1=EY n f:=by
 obtain ⟨B,g,c⟩:=J4 a
 grind[EY,BD,l5,HC]
theorem Fe[BEq u][LawfulBEq u](a:X.Nodup){i:Nat}(b:i<X.length):X.idxOf X[i]=i:=by grind
theorem Kz(h:Dl (iL c a f)=none):FG c a U f=([],f):=by
 cases U with
 | zero=>rfl
 | succ U=>unfold FG;rw[h]
theorem Kx(h:Dl (iL c a f)=some x):FG c a (U+1) f=(x::(FG c a U (BD f ((a.map dr.id).idxOf x.id))).1,(FG c a U (BD f ((a.map dr.id).idxOf x.id))).2):=by
 show (match Dl (iL c a f) with | none=>_ | some x=>_)=_;rw[h]
theorem ME(h:BH N=iL c a f)(k:N.nd[i]? =some H):i<a.length/\H.on=f i/\H.it=a.getD i ey:=by
 have b:(N.nd.map FP)[i]? =some (FP H):=by rw[ς,k];rfl
 rw[show N.nd.map FP=(List.range a.length).map (J8 (c.map gf.r) a f) from jr ji.nd h] at b;have g:i<a.length:=by have:=(φ.1 b).1;simpa using this
 rw[ς,m7 g] at b;have j:FP H=J8 (c.map gf.r) a f i:=(Option.some.inj b).symm;exact ⟨g,jr Nd.on j,jr Nd.it j⟩
theorem PM(a:List dr)(b:Nat->Bool)(k:Nat):BU a b (k+1)=BU a b k++if b k=true then [(a.getD k ey).id] else []:=by grind[BU,ki]
theorem ap(a:List dr)(b:Nat->Bool)(k:Nat):(BU a b k).length<=k:=by grind[BU]
theorem xL(h:BH N=iL c a f):N.nd.length=a.length:=by grind[χ,BH,iL]
theorem Y1(c:CY h)(a:Ad h=0):vN (j8 h) (hY h):=by
 refine ⟨jq (DY h) c.i,λx b=>c.x x (Ij b),En a,λx b id g=>?_,Ov a,λx b=>?_,?_⟩
 .have f:hY h=fl h.it:=ϱ a;have i:Qb (h.it.map dr.id) x=0:=Iy (HZ a).2.2 _ (Γ.2 ⟨x,Ij b,Z⟩)
  grind[Qb,Im,KI]
 .have f:x∈h.ro:=by
   grind[jS,j8]
  exact HF (HZ a).1 x f
 .unfold j8;rw[χ,(jS _).length_eq,kj,χ];exact c.r
theorem Ve(p:iB)(c:CY p)(b:Ad p≠0):AI prog 95 [.d (BM p)] (.tup [.sl (some true) [],.sl (some true) [],AE (Ad p)]):=by
 have a:=br p c b;refine Av func95 Z Z ntmps95 Z Z Z λF f=>(AD (AF (V (Ba 1 Z Z Z Z Z Z Z) (AB Z Z (AB Z Z (AB Z Z ?_))))));refine AC (Zd (AD (AF (J (Ar Z Z CG Z Z Z) (V (F8 a Z [] trivial Z Z Z Z Z Z Z Z Z) (cl Z Z (J (DI Z Z Z) (J (DI Z Z Z) ?_))))))));refine AB Z Z (AB Z Z (AC (AD (AD (AF (cl Z Z (J (DP Z Z Z) (AC ?_))))))));refine CM Z ((by simpa using b)) (AD (AF (cl Z Z (AB Z Z (AB Z Z (AB Z Z (AC (A5 ?_))))))));exact ⟨_,[],[],A2 Z,Z,Z,Z,Z⟩
theorem Xb(p:iB)(hf:CY p)(hE:Ad p=0):AI prog 95 [.d (BM p)] (.tup [.sl none ((BU (hY p) (JD p).2 (hY p).length).map AE),.sl none ((JD p).1.map TV),AE 0]):=by
 have G:=WM p hf hE;have g:=Y1 hf hE;unfold JD;rw[fb] at G
 obtain ⟨a,X⟩:∃a,hY p=a:=⟨_,Z⟩
 obtain ⟨b,S⟩:∃b,j8 p=b:=⟨_,Z⟩
 rw[X,S] at G g⊢;have hl:=g.l;refine Av func95 Z Z ntmps95 Z Z Z λF hF=>(AD (AF ?_));refine V (Ba 1 Z Z Z Z Z Z Z) (AB Z Z (AB Z Z (AB Z Z (AC (Zd (AD (AF (J (Ar Z Z CG Z Z Z) ?_))))))));refine Cy (Zi G Z [40,50,51] ⟨Z,Z,Z,trivial⟩ Z Z Z Z (λr H' ⟨_,_,_,_,_,_,_,e1,e2,_⟩=>by subst e1 e2;exact ⟨Z,Z,Z⟩) Z) Z ?_;rintro _ ⟨r,H',⟨wb,mv,nb,pb,N,M,bs,rfl,rfl,A,s⟩,rfl⟩;refine cl Z Z (J (DI Z Z Z) (J (DI Z Z Z) (AB Z Z (AB Z Z (AC ?_)))));refine AD (AD (AF (cl Z Z (J (DP Z Z Z) (AC (Cr Z (Z) (AU (AD ?_))))))));have v:Bh N=a.map dr.id:=by rw[<-IC,s,QN]
 rw[v];refine AF (AB Z Z (AC (AD (qi (AD (AX (IY 7 900 df Z Z Z Z (BC (α:=(Nat->Bool)×ji×MF×List I1×Nat) (λq=>⟨64,[(5,(.d (pD wb 0))),(7,(.own 900 0 q.2.2.2.1.length))],(900,[.rowD 245 9 (q.2.2.2.1.map TV)])::HW mv bs (Ga nb (a.map dr.id)) q.2.2.1⟩) (λq=>Cb wb mv nb pb q.2.1 q.2.2.1/\BH q.2.1=iL b a q.1/\EY a.length q.1<=q.2.2.2.2/\q.2.2.2.1.length+q.2.2.2.2<=a.length/\q.2.2.2.1++(FG b a q.2.2.2.2 q.1).1=(FG b a a.length λ_=>true).1/\(FG b a q.2.2.2.2 q.1).2=(FG b a a.length λ_=>true).2) (λq=>q.2.2.2.2) ((λ_=>true,N,M,[],a.length)) (⟨A,s,by show ((List.range a.length).filter _).length<=_;exact jq (lB _ _) (by simp),by simp,Z,Z⟩) (AR hF [900,40,50,51] Z Z ⟨Z,Z,trivial⟩) ?_))))))));rintro ⟨o,N,M,l,f⟩ ⟨A,s,hc,hal,u,t⟩;dsimp only at A s hc hal u t⊢;refine AX (AD ?_);have K:=sU (N:=N) (by rw[s];exact y2 g o);have O:=ux g s;have v:Bh N=a.map dr.id:=by rw[<-IC,s,QN]
 have W:=tY bs A K O;rw[v] at W;refine AF (cl Z Z (V (F8 W Z [40,50,51] ⟨Z,Z,Z,trivial⟩ Z Z Z Z Z Z Z Z Z) (cl Z Z ?_)))
 cases hne:Dl N
 .refine J (DI Z Z Z) (J (DI Z Z Z) (V (CF 2 KA Z Z Z Z) (V (Bc Z Z Z Z Z Z Z Kr) (AB Z Z (AC ?_)))));refine AD (AD (AF (cl Z Z (J (QV Z Z) (AC (CM Z (Z) (Aq (AD ?_))))))));have hro:FG b a f o=([],o):=Kz (by rw[<-s,VB,hne]);rw[hro] at u t;rw[kZ] at u;dsimp only at t;have hwb:=A.w;have D:B1 M N.nh en 1 ((List.range N.nd.length).map λi=>B5 (nb i)):=A.rs.1 .n;have U:=WZ D;rw[kj] at U;have hNl:=xL s;refine AF (AB Z Z (AC (AD (AD (AF (cl Z Z ?_))))));refine J (EB Z Z) (J (Cs Z Jj Z Z Z) (J (Eh (f:=40) Z Z (hwb) Z HO Z) (J (Xv U Z S1 Z) (cl Z Z (AC (AX (IY 10 901 Ap Z Z Z Z (BC (α:=Nat×List Int) (λq=>⟨64,[(7,(.own 900 0 l.length)),(10,(.own 901 0 q.2.length)),(43,(.d (jj N.nh N.nd.length))),(44,(.d (AE (N.nd.length:Int)))),(45,(.d (AE (q.1:Int))))],(901,[.rowD 3 1 (q.2.map AE)])::(900,[.rowD 245 9 (l.map TV)])::HW mv bs (Ga nb (a.map dr.id)) M⟩) (λq=>q.1<=N.nd.length/\q.2=BU a o q.1) (λq=>N.nd.length-q.1) ((0,[])) (⟨κ _,Z⟩) (AR hF [901,900,40,50,51] Z Z ⟨Z,Z,Z,Z,Z,trivial⟩) ?_))))))));rintro ⟨k,B⟩ ⟨hk0,hI⟩;dsimp only at hk0 hI⊢;refine AD (AF (J (At Z Z Z) (AC (AD (A4 Z (λI=>?_) (λI=>?_))))))
  .have z:k<N.nd.length:=BG I;refine AU (AD (AX (AD ?_)))
   obtain ⟨x,C⟩:∃x,N.nd[k]? =some x:=⟨_,ω z⟩
   obtain ⟨w,c,E⟩:=ME s C;have L:=A.n k x C;obtain ⟨rb,rc,T⟩:=Wb D (j:=k) (by rw[kj];exact z);have R:=Tq D T;have hidl:B.length<=k:=by rw[hI];exact ap a o k
   refine AF (J (Xz T (k) Z Z Z z S1 NQ Z) (J (qq (f:=40) (e:=k) (off:=0) Z (by omega) Z (R) ((by rw[ς,m7 z];rfl)) Z PN Z) ?_));refine AB Z Z ?_;refine AC (AD (AF (cl Z Z (J (EB Z Z) (J (Cs Z F6 Z Z Z) (J (Eh (f:=40) Z Z (L) Z tO Z) (AC (Jo Z (λH=>?_) (λH=>?_)))))))))
   .refine AF (cl Z Z (cl Z Z (J (EB Z Z) (J (Cs Z G6 Z Z Z) (J (Cs Z QU Z Z Z) ?_)))));refine J (Eh (f:=40) Z Z (L) Z Ag Z) (V (CB 3 Ap Z Z Z Z Z Z Z Z) (V (DQ (B) ([x.it.id]) Z Z Z Z Z Z Z Z Ap (by simp only[η];omega) Z Z Z Z) (AB Z Z (AC (AF (J (Ac Z Z (AJ (k+1) (by omega)) Z) (cl Z Z (AC ?_))))))));exact ⟨(k+1,_),⟨by show k+1<=_;omega,by show _=BU a o (k+1);rw[PM,ϱ (by rw[<-c];simpa using H),<-hI,<-E]⟩,by show N.nd.length-(k+1)<N.nd.length-k;omega,AR hF [901,900,40,50,51] Z (Z) ⟨Z,Z,Z,Z,Z,trivial⟩⟩
   .refine AU (AF (J (Ac Z Z (AJ (k+1) (by omega)) Z) (cl Z Z (AC ?_))));exact ⟨(k+1,_),⟨by show k+1<=_;omega,by show _=BU a o (k+1);rw[PM,υ (by rw[<-c];simpa using H),kZ,<-hI]⟩,by show N.nd.length-(k+1)<N.nd.length-k;omega,AR hF [901,900,40,50,51] Z (Z) ⟨Z,Z,Z,Z,Z,trivial⟩⟩
  .refine Aq (AD ?_);have hke:k=a.length:=by have h:=I;omega
   refine Fi (emb:=TV) 7 900 l Z Z Z Z Z Z Z ?_;refine Fi (emb:=AE) 10 901 B Z Z Z Z Z Z Z (AF (cl Z Z (cl Z Z (AB Z Z (AB Z Z (AB Z Z (AC (A5 ?_))))))));exact ⟨_,[],[],A2 Z,Z,Z,by rw[<-t,<-u,hI,hke],Z⟩
 .refine J (DI Z Z Z) (J (DI Z Z Z) (V (CF 4 KA Z Z Z Z) (V (Bc Z Z Z Z Z Z Z Kr) (AB Z Z (AC ?_)))));refine AD (AD (AF (cl Z Z (J (QV Z Z) (AC (Cr Z (Z) (AU (AD ?_))))))))
  rename_i e
  obtain ⟨i,x,C,hon,hid⟩:=OK hne;obtain ⟨w,c,E⟩:=ME s C;rw[hon] at c;have c:=c.symm;have Y:i<(a.map dr.id).length:=by rw[χ];exact w
  have hei:(a.map dr.id)[i]=e.id:=by rw[hid,E,kR,EC ey w]
  have hby:=Te (nb:=nb) g.i Y;rw[hei] at hby;have hcn:=HY w c
  obtain ⟨f2,rfl⟩:∃f2,f=f2+1:=⟨f-1,by omega⟩
  have Q:FG b a (f2+1) o=(e::(FG b a f2 (BD o i)).1,(FG b a f2 (BD o i)).2):=by rw[Kx (by rw[<-s,VB,hne]),<-hei,Fe g.i Y]
  have y:=ϖ C;have hrm:=eN A C O (K.e x y) (K.l x y).1 (K.l x y).2.1 (λe he=>(K.p x y e he).2) K.m;refine Bm [[],[0],[0,1],[0,1,2],[],[4],rg 6,rg 7] mixed Z (BY (A7 5 Z Z (AK [28] Z (EB Z Z) ?_)));refine AK [29] Z (Cs Z OT Z Z Z) (A1 [30] [40] Z Z (λ_=>A9 (Eh (f:=40) Z Z (A.w) Z Yj Z)) (AK [8] Z (AL Z pP Z Z Z) (A1 [32] [4] Z Z (λ_=>A9 (AQ Z Z Z Ag Z)) (BR 6 Z Z Z (AZ 7 Z Z (EP 31 51 0 Z Z (J (I4 (Ga nb (a.map dr.id)) e.id (.pointer none) (pV (nb i) 0) Z Z Z Yx I2 YF hby Z) (AC ⟨Z,?_⟩))))))));refine AZ 8 Z Z ?_;refine Cy (Zi hrm Z [40] ⟨Z,trivial⟩ Z Z Z Z (λr H' ⟨e1,M',e2,_⟩=>by subst e1 e2;exact ⟨Z,Z,Z⟩) Z) Z ?_;rintro _ ⟨r,H',⟨rfl,M2,rfl,hR2⟩,rfl⟩;refine AC ⟨Z,?_⟩;refine Bb (AF (cl Z Z (J (Ar Z Z r8 Z Z Z) (V (CB 5 df Z Z Z Z Z Z Z Z) (V (DQ (l) ([e]) Z Z Z Z Z Z Z Z df (by simp only[η];omega) Z Z Z Z) (AB Z Z (AC ?_)))))));exact ⟨(BD o i,vt N i x,M2,l++ [e],f2),⟨hR2,xe g.r s w c C,by show EY a.length (BD o i)<=f2;omega,by show (l++ [e]).length+f2<=_;rw[Δ];simp;omega,by show (l++ [e])++(FG b a f2 (BD o i)).1=_;rw[lm,<-u,Q];rfl,by show (FG b a f2 (BD o i)).2=_;rw[<-t,Q]⟩,by show f2<f2+1;omega,AR hF [900,40,50,51] Z (Z) ⟨Z,Z,trivial⟩⟩
theorem L3(l:List Int)(x:Int)(i:l.length<=140737488355328):AI prog 155 [.d (.sl none (l.map AE)),.d (AE x)] (.raw (.bool (decide (x∈l)))):=by
 refine Av func155 Z Z ntmps155 Z Z Z λF j=>(AD (AF ?_));refine AB Z Z (AC (AD (AD (AF (AB Z Z (AC (AX (FR (α:=Nat) (λk=>⟨18,[(0,.d (.sl none (l.map AE))),(1,.d (AE x)),(5,(.d (AE (k:Int))))],[]⟩) (λk=>k<=l.length/\x∉l.take k) (λk=>l.length-k) (0) (⟨κ _,by simp⟩) (Zm ⟨Z,Z,Z,trivial⟩) ?_))))))));rintro k ⟨g,f⟩;refine AD (AD (AF (cl Z Z (cl Z Z (J (BW Z E0 Z) (J (At Z Z Z) (AC (A4 Z (λc=>?_) (λc=>?_)))))))))
 .have a:k<l.length:=BG c;refine AU (AD (AX (AD ?_)));refine AF (cl Z Z (cl Z Z (J (Al (k) Z Z (Z) (AP a) E0 Z BE Z) (J (BZ Z Z Ag Z) (cl Z Z (J (GW Z Z Z) (AC (A4 Z (λb=>?_) (λb=>?_)))))))))
  .refine AD (AF (AB Z Z (AC (A5 ?_))));exact ⟨_,[],[],A2 Z,Z,Z,Sf (by rw[<-b];exact ϑ a),Z⟩
  .refine AU (AF (cl Z Z (J (Ac Z Z (AJ (k+1) (by omega)) Z) (AB Z Z (AC ?_)))));exact ⟨k+1,⟨by show k+1<=_;omega,xJ a f (λe=>b e.symm)⟩,by show l.length-(k+1)<l.length-k;omega,⟨Z,Z,λ_ _=>SW.get (l:=[(0,_),(1,_),(5,_)]) ⟨Z,Z,Z,trivial⟩⟩⟩
 .refine Aq (AD (AF (AB Z Z (AC (A5 ?_)))));exact ⟨_,[],[],A2 Z,Z,Z,Hf (FB (by have h:=c;omega) f),Z⟩
theorem PC.leO(h:PC F){x y z:B}(g:F x y<=0)(a:F y z<=0):F x z<=0:=by
 by_cases f:F x y=0
 .rw[h.eqv x y z f];exact a
 .by_cases i:F y z=0
  .have o:=h.anti y z;have b:F z y=0:=by omega
   have l:=h.eqv z y x b;have k:=h.anti z x;have j:=h.anti y x;omega
  .have:=h.trans x y z (by omega) (by omega);omega
theorem N6{k:Type}{c:k->k->Int}(h:PC c){f:List k}{m:Nat}{x:k}(r:f.Pairwise λa b=>¬c b a<0)(w:∀y∈f.take m,c y x<0)(B:∀y,f[m]? =some y->¬c y x<0):((f.take m++ [x])++f.drop m).Pairwise λa b=>¬c b a<0:=by
 have u:∀y∈f.drop m,¬c y x<0:=λy g=>by
  cases hm:f[m]? with
  | none=>
   rw[nB (List.getElem?_eq_none_iff.1 hm)] at g;cases g
  | some z=>
   obtain ⟨j,s⟩:=φ.1 hm;rw[mR j] at g;have o:=B z hm;rcases ju.1 g with g | g
   .rw[g,s];exact o
   .have t:(f.drop m).Pairwise λa b=>¬c b a<0:=r.sublist (List.drop_sublist _ _);rw[mR j,mC] at t;have v:=t.1 y g;rw[s] at v;have A:=h.anti z x;have C:=h.anti y z;have E:=h.anti y x;have:=h.leO (x:=x) (y:=z) (z:=y) (by omega) (by omega);omega
 rw[rG];refine ⟨?_,r.sublist (List.drop_sublist _ _),λa i b l=>?_⟩
 .rw[rG];refine ⟨r.sublist (List.take_sublist _ _),List.pairwise_singleton _ _,λa i b l=>?_⟩;rw[ξ.1 l];have:=w a i;have A:=h.anti a x;omega
 .rcases ν.1 i with i | i
  .have v:=w a i;have D:=u b l;have A:=h.anti a b;have C:=h.anti b x;have:=h.leO (x:=a) (y:=x) (z:=b) (by omega) (by omega);omega
  .rw[ξ.1 i];exact u b l
theorem Rn{x:B}:((R.take y++ [x])++R.drop y).Perm (R++ [x]):=by
 have h:(R.take y++(x::R.drop y)).Perm (x::(R.take y++R.drop y)):=List.perm_middle;rw[nA] at h;rw[lm];exact h.trans (List.perm_append_singleton x R).symm
theorem dx(f:B->AW){l m g:List B}(c:(l.map f).Nodup)(r:m.Perm l)(i:m.Pairwise λa b=>¬BV (f b) (f a)<0)(j:g.Perm l)(s:g.Pairwise λa b=>¬BV (f b) (f a)<0):g=m:=by
 have o:∀{k:List B},(k.map f).Nodup->(k.Pairwise λa b=>¬BV (f b) (f a)<0)->k.Pairwise λa b=>BV (f a) (f b)<0:=λ{k} c h=>by
  rw[List.Nodup,lA] at c;refine (h.and c).imp λ{a b} ⟨u,t⟩=>?_;have j:=NM.anti (f a) (f b);have s:BV (f a) (f b)≠0:=λe=>t (Ds.1 e);omega
 exact sR (R:=λa b=>BV (f a) (f b)<0) (λx=>by rw[NM.refl];omega) (λx y z=>NM.trans _ _ _) (o ((j.map f).nodup_iff.2 c) s) (o ((r.map f).nodup_iff.2 c) i) λx=>by rw[j.mem_iff,r.mem_iff]
theorem S8(f:List AW):(IM f).Pairwise λa b=>¬OZ f b a<0:=by
 have:=List.pairwise_mergeSort (le:=λi j=>decide (OZ f i j<=0)) (λa b c k l=>?_) (λa b=>?_) (List.range f.length)
 .refine List.Pairwise.imp (λ{a b} h=>?_) this;have k:=(SS f).anti a b
  grind
 .have o:OZ f a b<=0:=by simpa using k
  have g:OZ f b c<=0:=by simpa using l
  have:OZ f a c<=0:=by
   by_cases r:OZ f a b=0
   .rw[(SS f).eqv a b c r];exact g
   .by_cases t:OZ f b c=0
    .have w:=(SS f).anti b c;have s:=(SS f).eqv c b a (by omega);have v:=(SS f).anti a c;have u:=(SS f).anti a b;omega
    .have:=(SS f).trans a b c (by omega) (by omega);omega
  grind
 .have k:=(SS f).anti a b
  grind
theorem qn(p:iB):(j8 p).Perm p.ro:=by grind[j8,jS,χ,ld,EC]
theorem NU(p:iB):(j8 p).Pairwise λa b=>¬BV b.r a.r<0:=by grind[j8,rH,S8,jS,OZ]
theorem RE(c:(h.ro.map gf.r).Nodup)(g:S.Perm h.ro)(f:S.Pairwise λa b=>¬BV b.r a.r<0):S=j8 h:=by grind[dx,qn,NU]
theorem eB(c:Ad h=0)(g:S.Perm h.ro)(f:S.Pairwise λa b=>¬BV b.r a.r<0):S=j8 h:=RE (Da c) g f
theorem QA:PC λx y:gf=>BV x.r y.r:=NM.comap gf.r
theorem RG(p:iB)(B:(p.ro.map gf.r).Nodup)(E:p.ro.length<=100000):AI prog 153 [.d (BM p)] (.sl none ((j8 p).map BT)):=by
 refine Av func153 Z Z ntmps153 Z Z Z λF u=>(AD (AF ?_));refine V (Ba 1 Z Z Z Z Z Z Z) (AB Z Z (AC (AD (AF (AB Z Z (AC (AD (AD ?_))))))));refine JP 3 Z ?_;refine AF (AB Z Z (AC (AX (BC (α:=Nat×List gf) (λq=>⟨51,[(1,(.ptr 1 0 0)),(3,(.d (.sl none (q.2.map BT)))),(4,(.d (AE (q.1:Int))))],[(1,[B3 25 p])]⟩) (λq=>q.1<=p.ro.length/\q.2.Perm (p.ro.take q.1)/\q.2.Pairwise λa b=>¬BV b.r a.r<0) (λq=>p.ro.length-q.1) ((0,[])) (⟨κ _,by simp,List.Pairwise.nil⟩) (AR u [1] Z Z ⟨Z,Z,Z,trivial⟩) ?_))));rintro ⟨k,c⟩ ⟨x,t,v⟩;dsimp only at x t v⊢;refine AD ?_;refine AD (AF (cl Z Z (J (AL Z Kj Z Z Z) (J (AQ Z Z Z Dy Z) (J (BW Z F0 Z) (J (At Z Z Z) (AC (A4 Z (λs=>?_) (λs=>?_)))))))))
 .have j:k<p.ro.length:=BG s;refine AU (AD (AX (AD ?_)));have D:c.length<=100000:=by rw[t.length_eq,θ];omega
  refine AF (AB Z Z (AC (AD (AX (BC (α:=Nat) (λm=>⟨51,[(1,(.ptr 1 0 0)),(3,(.d (.sl none (c.map BT)))),(4,(.d (AE (k:Int)))),(5,(.d (AE (m:Int))))],[(1,[B3 25 p])]⟩) (λm=>m<=c.length/\∀y∈c.take m,BV y.r p.ro[k].r<0) (λm=>c.length-m) (0) (⟨κ _,by simp⟩) (AR u [1] Z Z ⟨Z,Z,Z,Z,trivial⟩) ?_)))));rintro m ⟨C,w⟩;refine AD (AD ?_);refine Bm [[],[],[1],[0,1,2],[0,1,2,3],rg 5,rg 5,rg 7,rg 8,rg 9,rg 5,[0,1,2,3,4,10],rg 5,[0,1,2,3,4,10,11,12],[0,1,2,3,4,10,11,12,13],[0,1,2,3,4,10,11,12,13,14],rg 16,rg 17,rg 18] mixed Z (BY (A7 5 Z Z (A7 3 Z Z (AK [14] Z (BW Z F0 Z) (BR 3 Z Z Z (AZ 4 Z Z (J (At Z Z Z) (AC ⟨Z,?_⟩))))))));refine AZ 5 Z Z (cl Z Z (C5 17 Z (λl=>?_) (λl=>?_)))
  .refine AC ⟨Z,?_⟩;refine BY ?_
   try have i:m<c.length:=BG l
   refine A1 [3,17] [] Z Z (λ_=>BO Z Z Z (FF Z Z)) (A1 [5,17] [] Z Z (λ_=>BO Z Z Z (FF Z Z)) (A1 [18,19,17] [] Z Z (λ_=>BO Z Z Z (Al (m) Z Z (Z) (AP i) F0 Z Bd Z)) (A1 [20,17] [] Z Z (λ_=>BO Z Z Z (Jy Z QS Z Z Z)) (A1 [21,17] [] Z Z (λ_=>BO Z Z Z (CT Z Z C4 Z)) (A1 [1,17] [] Z Z (λ_=>BO Z Z Z (AL Z Kj Z Z Z)) (Ay [23,17] Z Z (λ_=>BO Z Z Z (AQ Z Z Z Dy Z)) ?_))))));refine A1 [4,17] [] Z Z (λ_=>BO Z Z Z (FF Z Z)) (A1 [24,25,17] [] Z Z (λ_=>BO Z Z Z (Al (k) Z Z (Z) (AP j) F0 Z Bd Z)) (A1 [26,17] [] Z Z (λ_=>BO Z Z Z (Jy Z QS Z Z Z)) (A1 [27,17] [] Z Z (λ_=>BO Z Z Z (CT Z Z C4 Z)) (BR 16 Z Z Z (AZ 17 Z Z (AT Z Z Z (J (Ak (Hg c[m].r p.ro[k].r) Z Z) (AC ⟨Z,?_⟩))))))));refine AZ 18 Z Z (AT Z Z Z (J (At Z Z Z) (AC ⟨Z,?_⟩)));refine AZ 19 Z Z (J (B4 Z Z Z Z) (AC ⟨Z,?_⟩));refine Bb (A4 Z (λo=>?_) (λo=>?_))
   .refine AU (AX (AF (cl Z Z (J (Ac Z Z (AJ (m+1) (by omega)) Z) (AB Z Z (AC ?_))))));exact ⟨m+1,⟨by show m+1<=_;omega,by rw[ψ i];intro y f;rcases ν.1 f with f | f;exact w y f;rw[ξ.1 f];exact o⟩,by show c.length-(m+1)<c.length-m;omega,AR u [1] Z (Z) ⟨Z,Z,Z,Z,trivial⟩⟩
   .refine Aq ?_;have g:∀y,c[m]? =some y->¬BV y.r p.ro[k].r<0:=by first | (intro y f;have z:=(φ.1 f).1;exact absurd z (by have h:=l;omega)) | (intro y f;rw[ω i] at f;injection f with f;rw[<-f];exact o)
    refine Bm [[],[],[],[1,2],[0,1,2,3],[],[5],[],[5,6,7],[5,6,7,8],[5,6,7,8,9],rg 11,[],[],[12,13],rg 15,rg 16] mixed Z (BY (Cq [] [20] [(34,_)] Z Z (λ_=>Cd (CB 20 Fv Z Z Z Z Z Z Z Z)) (.inr ⟨34,_,Z,Z,Z,Z,Z⟩) Z Z Z Z Z (A7 3 Z Z ?_)));refine A7 5 Z Z (AK [35,36] Z (Xx (c) (m) Z Z Z (Z) (by omega) F0 Bd (λ_=>rfl) Z) (Cq [34,37] [20] [(38,_)] Z Z (λ_=>Cd (JR (([]:List gf)) (c.take m) Z Z Z Z Z Z (λ_=>rfl) Fv (by simp only[lX,θ];omega) Z Z Z Z)) (.inr ⟨38,_,Z,Z,Z,Z,Z⟩) Z Z Z Z Z (AK [1] Z (AL Z Kj Z Z Z) (A1 [39] [1] Z Z (λ_=>A9 (AQ Z Z Z Dy Z)) (A7 4 Z Z (AK [40,41] Z (Al (k) Z Z (Z) (AP j) F0 Z Bd Z) (AK [42] Z (CT Z Z RA Z) (Cq [43] [21] [(44,_)] Z Z (λ_=>Cd (CB 21 Fv Z Z Z Z Z Z Z Z)) (.inr ⟨44,_,Z,Z,Z,Z,Z⟩) Z Z Z Z Z ?_))))))));refine Ki [34] [38,44] [20,21] [(45,_)] Z Z (λ_=>Cd (DQ (([]++c.take m)) ([p.ro[k]]) Z Z Z Z Z Z Z Z Fv (by simp only[kP,η,θ];omega) Z Z Z Z)) (.inr ⟨45,_,Z,Z,Z,Z,Z⟩) Z Z Z Z Z ?_;refine A7 3 Z Z (A7 5 Z Z (AK [46,47] Z (cW (c) (m) Z Z Z (Z) (by omega) F0 Bd (λ_=>rfl) Z) (BR 15 Z Z Z (AZ 16 Z Z ?_))));refine V (JR ((([]++c.take m)++ [p.ro[k]])) (c.drop m) Z Z Z Z Z Z (λ_=>rfl) Fv (by simp only[kP,Δ,η,θ,l4];omega) Z Z Z Z) ?_;refine AC ⟨Z,?_⟩;refine AZ 17 Z Z (AB Z Z (AC ⟨Z,?_⟩));refine Bb (Fi (emb:=BT) 3 20 ((([]++c.take m)++ [p.ro[k]])++c.drop m) Z Z Z Z Z Z Z (AF (cl Z Z (J (Ac Z Z (AJ (k+1) (by omega)) Z) (AB Z Z (AC ?_))))));exact ⟨(k+1,_),⟨by show k+1<=_;omega,by show (((([]++c.take m)++ [p.ro[k]])++c.drop m):List gf).Perm (p.ro.take (k+1));rw[ψ j,kP];exact Rn.trans (t.append_right _),by show (((([]++c.take m)++ [p.ro[k]])++c.drop m):List gf).Pairwise _;rw[kP];exact N6 QA v w g⟩,by show p.ro.length-(k+1)<p.ro.length-k;omega,AR u [1] Z (Z) ⟨Z,Z,Z,trivial⟩⟩
  .refine AC ⟨Z,?_⟩;refine BY ?_
   try have i:m<c.length:=BG l
   refine A1 [3,17] [] Z Z (λ_=>CL Z Z Z Z) (A1 [5,17] [] Z Z (λ_=>CL Z Z Z Z) (A1 [18,19,17] [] Z Z (λ_=>CL Z Z Z Z) (A1 [20,17] [] Z Z (λ_=>CL Z Z Z Z) (A1 [21,17] [] Z Z (λ_=>CL Z Z Z Z) (A1 [1,17] [] Z Z (λ_=>CL Z Z Z Z) ?_)))));refine A1 [23,17] [] Z Z (λ_=>CL Z Z Z Z) (A1 [4,17] [] Z Z (λ_=>CL Z Z Z Z) (A1 [24,25,17] [] Z Z (λ_=>CL Z Z Z Z) (A1 [26,17] [] Z Z (λ_=>CL Z Z Z Z) (A1 [27,17] [] Z Z (λ_=>CL Z Z Z Z) (BR 16 Z Z Z (AZ 17 Z Z (AN Z Z Z Z (AC ⟨Z,?_⟩))))))));refine AZ 18 Z Z (AN Z Z Z Z (AC ⟨Z,?_⟩));refine AZ 19 Z Z (J (Br Z Z Z Z) (AC ⟨Z,?_⟩));refine Bb (Cr Z Z (Aq ?_));have g:∀y,c[m]? =some y->¬BV y.r p.ro[k].r<0:=by first | (intro y f;have z:=(φ.1 f).1;exact absurd z (by have h:=l;omega)) | (intro y f;rw[ω i] at f;injection f with f;rw[<-f];exact o)
   refine Bm [[],[],[],[1,2],[0,1,2,3],[],[5],[],[5,6,7],[5,6,7,8],[5,6,7,8,9],rg 11,[],[],[12,13],rg 15,rg 16] mixed Z (BY (Cq [] [20] [(34,_)] Z Z (λ_=>Cd (CB 20 Fv Z Z Z Z Z Z Z Z)) (.inr ⟨34,_,Z,Z,Z,Z,Z⟩) Z Z Z Z Z (A7 3 Z Z ?_)));refine A7 5 Z Z (AK [35,36] Z (Xx (c) (m) Z Z Z (Z) (by omega) F0 Bd (λ_=>rfl) Z) (Cq [34,37] [20] [(38,_)] Z Z (λ_=>Cd (JR (([]:List gf)) (c.take m) Z Z Z Z Z Z (λ_=>rfl) Fv (by simp only[lX,θ];omega) Z Z Z Z)) (.inr ⟨38,_,Z,Z,Z,Z,Z⟩) Z Z Z Z Z (AK [1] Z (AL Z Kj Z Z Z) (A1 [39] [1] Z Z (λ_=>A9 (AQ Z Z Z Dy Z)) (A7 4 Z Z (AK [40,41] Z (Al (k) Z Z (Z) (AP j) F0 Z Bd Z) (AK [42] Z (CT Z Z RA Z) (Cq [43] [21] [(44,_)] Z Z (λ_=>Cd (CB 21 Fv Z Z Z Z Z Z Z Z)) (.inr ⟨44,_,Z,Z,Z,Z,Z⟩) Z Z Z Z Z ?_))))))));refine Ki [34] [38,44] [20,21] [(45,_)] Z Z (λ_=>Cd (DQ (([]++c.take m)) ([p.ro[k]]) Z Z Z Z Z Z Z Z Fv (by simp only[kP,η,θ];omega) Z Z Z Z)) (.inr ⟨45,_,Z,Z,Z,Z,Z⟩) Z Z Z Z Z ?_;refine A7 3 Z Z (A7 5 Z Z (AK [46,47] Z (cW (c) (m) Z Z Z (Z) (by omega) F0 Bd (λ_=>rfl) Z) (BR 15 Z Z Z (AZ 16 Z Z ?_))));refine V (JR ((([]++c.take m)++ [p.ro[k]])) (c.drop m) Z Z Z Z Z Z (λ_=>rfl) Fv (by simp only[kP,Δ,η,θ,l4];omega) Z Z Z Z) ?_;refine AC ⟨Z,?_⟩;refine AZ 17 Z Z (AB Z Z (AC ⟨Z,?_⟩));refine Bb (Fi (emb:=BT) 3 20 ((([]++c.take m)++ [p.ro[k]])++c.drop m) Z Z Z Z Z Z Z (AF (cl Z Z (J (Ac Z Z (AJ (k+1) (by omega)) Z) (AB Z Z (AC ?_))))));exact ⟨(k+1,_),⟨by show k+1<=_;omega,by show (((([]++c.take m)++ [p.ro[k]])++c.drop m):List gf).Perm (p.ro.take (k+1));rw[ψ j,kP];exact Rn.trans (t.append_right _),by show (((([]++c.take m)++ [p.ro[k]])++c.drop m):List gf).Pairwise _;rw[kP];exact N6 QA v w g⟩,by show p.ro.length-(k+1)<p.ro.length-k;omega,AR u [1] Z (Z) ⟨Z,Z,Z,trivial⟩⟩
 .refine Aq (AD (AF (cl Z Z (AB Z Z (AC (A5 ?_))))));exact ⟨_,[],[],A2 Z,Z,Z,by rw[RE B (by have A:=t;rw[ζ (by have h:=s;omega)] at A;exact A) v],Z⟩
theorem aY(p:iB)(a:Ad p=0)(b:p.ro.length<=100000):AI prog 153 [.d (BM p)] (.sl none ((j8 p).map BT)):=RG p (Da a) b
theorem VN(p:iB)(b:CY p)(c:Ad p≠0):AI prog 39 [.d (BM p)] (.tup [.sl (some true) [],AE (Ad p)]):=by
 have a:=Ve p b c;refine Av func39 Z Z ntmps39 Z Z Z λF f=>(AD (AF (V (Ba 1 Z Z Z Z Z Z Z) (AB Z Z (AB Z Z (AC (AD (AF ?_))))))));refine J (Ar Z Z CG Z Z Z) (J (Ak (a) Z Z) (cl Z Z (J (DI Z Z Z) (J (DI Z Z Z) (J (DI Z Z Z) (AB Z Z (AB Z Z (AB Z Z ?_))))))));refine AC (AD (AF (cl Z Z (cl Z Z (AB Z Z (AB Z Z (AC (A5 ?_))))))));exact ⟨_,[],[],A2 Z,Z,Z,Z,Z⟩
def gg(p:iB):List Int:=BU (hY p) (JD p).2 (hY p).length
theorem K4(p:iB)(b:CY p)(c:Ad p=0):AI prog 39 [.d (BM p)] (.tup [.sl none ((gg p).map AE),AE 0]):=by
 have a:=Xb p b c;refine Av func39 Z Z ntmps39 Z Z Z λF f=>(AD (AF (V (Ba 1 Z Z Z Z Z Z Z) (AB Z Z (AB Z Z (AC (AD (AF ?_))))))));refine J (Ar Z Z CG Z Z Z) (J (Ak (a) Z Z) (cl Z Z (J (DI Z Z Z) (J (DI Z Z Z) (J (DI Z Z Z) (AB Z Z (AB Z Z (AB Z Z ?_))))))));refine AC (AD (AF (cl Z Z (cl Z Z (AB Z Z (AB Z Z (AC (A5 ?_))))))));exact ⟨_,[],[],A2 Z,Z,Z,Z,Z⟩
theorem R0(p:iB)(s:p.it.length<=1000):AI prog 54 [.d (BM p)] (.sl none (((fl p.it).map dr.id).map AE)):=by
 have c:=Ey p.it s;have j:=O2 p.it
 obtain ⟨S,r⟩:∃S,fl p.it=S:=⟨_,Z⟩
 rw[r] at c j⊢;refine Av func54 Z Z ntmps54 Z Z Z λF l=>(AD (AF (V (Ba 1 Z Z Z Z Z Z Z) (AB Z Z (AC (AD ?_))))));refine AF (J (AL Z JS Z Z Z) (J (AQ Z Z Z DE Z) (J (Ak (c) Z Z) (AB Z Z (AC (AD (AF (AB Z Z ?_))))))));refine AC (AD (AD (IY 4 900 Ap Z Z Z Z (AF (AB Z Z (AC (AX (BC (α:=Nat×List Int) (λq=>⟨24,[(3,(.d (.sl none (S.map Ah)))),(4,(.own 900 0 q.2.length)),(5,(.d (AE (q.1:Int))))],[(900,[.rowD 3 1 (q.2.map AE)])]⟩) (λq=>q.1<=S.length/\q.2=(S.take q.1).map dr.id) (λq=>S.length-q.1) ((0,[])) (⟨κ _,Z⟩) (AR l [900] Z Z ⟨Z,Z,Z,trivial⟩) ?_))))))));rintro ⟨k,b⟩ ⟨i,g⟩;dsimp only at i g⊢;refine AD (AD (AF (cl Z Z (cl Z Z (J (BW Z No Z) (J (At Z Z Z) (AC (A4 Z (λa=>?_) (λa=>?_)))))))))
 .have f:k<S.length:=BG a;refine AU (AD (AX ?_));have o:b.length<=1000:=by rw[g,χ,θ];omega
  refine AF (cl Z Z (cl Z Z (cl Z Z (J (Al (k) Z Z (Z) (AP f) No Z CP Z) (J (IJ Z ST Z Z Z) (J (BZ Z Z Ag Z) ?_))))));refine V (CB 2 Ap Z Z Z Z Z Z Z Z) (V (DQ (b) ([S[k].id]) Z Z Z Z Z Z Z Z Ap (by simp only[η];omega) Z Z Z Z) (AB Z Z (AC (AF (cl Z Z (J (Ac Z Z (AJ (k+1) (by omega)) Z) (AB Z Z (AC ?_))))))));exact ⟨(k+1,_),⟨by show k+1<=_;omega,by show _=(S.take (k+1)).map dr.id;rw[EE f,g]⟩,by show S.length-(k+1)<S.length-k;omega,AR l [900] Z (Z) ⟨Z,Z,Z,trivial⟩⟩
 .refine Aq (AD (Fi (emb:=AE) 4 900 b Z Z Z Z Z Z Z (AF (cl Z Z (AB Z Z (AC (A5 ?_)))))));exact ⟨_,[],[],A2 Z,Z,Z,by rw[g,ζ (by have h:=a;omega)],Z⟩
def BS(l:List Int)(x:Int):List Int:=l.filter λy=>decide (y≠x)
theorem Ql(l:List Int)(x:Int)(r:l.length<=1000):AI prog 105 [.d (.sl none (l.map AE)),.d (AE x)] (.sl none ((BS l x).map AE)):=by
 refine Av func105 Z Z ntmps105 Z Z Z λF j=>(AD (AF (AB Z Z (AC (AD (AF (AB Z Z ?_)))))));refine AC (AD (AD (IY 5 900 Ap Z Z Z Z (AF (AB Z Z (AC (AX (BC (α:=Nat×List Int) (λq=>⟨27,[(0,.d (.sl none (l.map AE))),(1,.d (AE x)),(5,(.own 900 0 q.2.length)),(6,(.d (AE (q.1:Int))))],[(900,[.rowD 3 1 (q.2.map AE)])]⟩) (λq=>q.1<=l.length/\q.2=BS (l.take q.1) x) (λq=>l.length-q.1) ((0,[])) (⟨κ _,Z⟩) (AR j [900] Z Z ⟨Z,Z,Z,Z,trivial⟩) ?_))))))));rintro ⟨k,f⟩ ⟨i,g⟩;dsimp only at i g⊢;refine AD (AD (AF (cl Z Z (cl Z Z (J (BW Z E0 Z) (J (At Z Z Z) (AC (A4 Z (λc=>?_) (λc=>?_)))))))))
 .have a:k<l.length:=BG c;refine AU (AD (AX (AD ?_)));have o:f.length<=1000:=by rw[g];unfold BS;have:=lB (λy=>decide (y≠x)) (l.take k);rw[θ] at this;omega
  refine AF (cl Z Z (cl Z Z (J (Al (k) Z Z (Z) (AP a) E0 Z BE Z) (J (BZ Z Z Ag Z) (cl Z Z (J (DP Z Z Z) (AC (A4 Z (λb=>?_) (λb=>?_)))))))))
  .refine AF (cl Z Z (cl Z Z (cl Z Z (J (Al (k) Z Z (Z) (AP a) E0 Z BE Z) (J (BZ Z Z Ag Z) ?_)))));refine V (CB 1 Ap Z Z Z Z Z Z Z Z) (V (DQ (f) ([l[k]]) Z Z Z Z Z Z Z Z Ap (by simp only[η];omega) Z Z Z Z) (AB Z Z (AC (AF (cl Z Z (J (Ac Z Z (AJ (k+1) (by omega)) Z) (AB Z Z (AC ?_))))))));exact ⟨(k+1,_),⟨by show k+1<=_;omega,by show _=BS (l.take (k+1)) x;unfold BS;rw[cT a,ϱ (by simpa using b),g];rfl⟩,by show l.length-(k+1)<l.length-k;omega,AR j [900] Z (Z) ⟨Z,Z,Z,Z,trivial⟩⟩
  .refine AU (AF (cl Z Z (J (Ac Z Z (AJ (k+1) (by omega)) Z) (AB Z Z (AC ?_)))));exact ⟨(k+1,_),⟨by show k+1<=_;omega,by show _=BS (l.take (k+1)) x;unfold BS;rw[cT a,υ (by simpa using b),kZ,g];rfl⟩,by show l.length-(k+1)<l.length-k;omega,AR j [900] Z (Z) ⟨Z,Z,Z,Z,trivial⟩⟩
 .refine Aq (AD (Fi (emb:=AE) 5 900 f Z Z Z Z Z Z Z (AF (cl Z Z (AB Z Z (AC (A5 ?_)))))));exact ⟨_,[],[],A2 Z,Z,Z,by rw[g,ζ (by have h:=c;omega)],Z⟩
def CO(its:List dr)(x:gf)(l:List Int):Int:=max x.n 0+((its.filter λi=>decide (i.id∈l)).map λi=>BN i x.r).sum
theorem XP(b:t<a.length)(x:gf)(l:List Int):CO (a.take (t+1)) x l=CO (a.take t) x l+if a[t].id∈l then BN a[t] x.r else 0:=by grind[CO,cT]
theorem Ls(i:dr)(r:AW): -1000000000000000<=BN i r/\BN i r<=1000000000000000:=by
 unfold BN
 split
 .simp[*,O0]
 .omega
theorem RZ(a:List dr)(x:gf)(l:List Int):max x.n 0-a.length*1000000000000000<=CO a x l/\CO a x l<=max x.n 0+a.length*1000000000000000:=by
 unfold CO
 induction a with
 | nil=>simp
 | cons i a b=>
  have c:=Ls i x.r
  grind
theorem fC(p:iB)(x:gf)(l:List Int)(y:p.it.length<=30)(w: -100000000000000000<=x.n/\x.n<=100000000000000000)(z:l.length<=1000)(u:∀i∈p.it,YC i):AI prog 107 [.d (BM p),.d (BT x),.d (.sl none (l.map AE))] (AE (max 0 (-(CO p.it x l)))):=by
 have o:(if 0>x.n then 0 else x.n)=max x.n 0:=by rw[Int.max_def];split<;>split<;>omega
 refine Av func107 Z Z ntmps107 Z Z Z λF s=>(AD (AF (V (Ba 1 Z Z Z Z Z Z Z) (V (Ba 2 Z Z Z Z Z Z Z) (AB Z Z (AC ?_))))));refine AD (AF (J (AL Z Jl Z Z Z) (J (AQ Z Z Z FK Z) (J (MP Z Z (Z) Z) (AB Z Z (AC (AD (AD ?_))))))));have r:max x.n 0=CO (p.it.take 0) x l:=by unfold CO;simp
 rw[o,r];refine AF (AB Z Z (AC (AX (BC (α:=Nat) (λk=>⟨40,[(2,.d (.sl none (l.map AE))),(3,(.ptr 1 0 0)),(4,(.ptr 2 0 0)),(7,(.d (AE (CO (p.it.take k) x l)))),(8,(.d (AE (k:Int))))],[(1,[.blk 25 [.d (.sl none (p.ro.map BT)),.d (.sl none (p.it.map Ah))]]),(2,[.blk 100 [.d (AE x.r.k),.d (Am x.r.acc.o),.d (AE x.r.acc.k),.d (Am x.r.acc.a),.d (Am x.r.f),.d (Am x.r.t),.d (AE x.n)]])]⟩) (λk=>k<=p.it.length) (λk=>p.it.length-k) (0) (κ _) (AR s [1,2] Z Z ⟨Z,Z,Z,Z,Z,trivial⟩) ?_))));rintro k t;refine AD ?_;refine AD (AF (cl Z Z (J (AL Z JS Z Z Z) (J (AQ Z Z Z DE Z) (J (BW Z No Z) (J (At Z Z Z) (AC (A4 Z (λg=>?_) (λg=>?_)))))))))
 .have a:k<p.it.length:=BG g;refine AU (AD (AX (AD ?_)));have c:=u _ (ϑ a);have b:=XP a x l;have j:=RZ (p.it.take k) x l;rw[θ] at j;have v:=Ls p.it[k] x.r;refine AF (cl Z Z ?_);refine J (AL Z JS Z Z Z) (J (AQ Z Z Z DE Z) (cl Z Z (J (Al (k) Z Z (Z) (AP a) No Z CP Z) (J (IJ Z ST Z Z Z) (J (BZ Z Z Ag Z) (J (Ak (L3 l p.it[k].id (by omega)) Z Z) (AC (A4 Z (λf=>?_) (λf=>?_)))))))));refine Bm [[],[],[1],[],[1,2,3],[1,2,3,4],[],[6],[1,2,3,4,5,6,7],rg 9,rg 10] mixed Z (BY (A7 7 Z Z (AK [3] Z (AL Z JS Z Z Z) (A1 [28] [1] Z Z (λ_=>A9 (AQ Z Z Z DE Z)) (A7 8 Z Z ?_)))));refine AK [29,30] Z (Al (k) Z Z (Z) (AP a) No Z CP Z) (AK [31] Z (CT Z Z Ev Z) (AK [4] Z (AL Z QS Z Z Z) (A1 [33] [2] Z Z (λ_=>A9 (Ar Z Z C4 Z Z Z)) (AK [32,34] Z (Ak (sQ p.it[k] x.r (by have h:=c.1;omega) (by have h:=c.2.1;omega) (by have h:=c.2.2;omega)) Z Z) (BR 9 Z Z Z (AZ 10 Z Z (J (Ac Z Z (Ξ _ (by omega)) Z) (AC ⟨Z,?_⟩))))))));refine AZ 11 Z Z (AB Z Z (AC ⟨Z,?_⟩));refine Bb ?_
  rotate_left
  refine AU ?_
  all_goals
   first | rw[ϱ (by simpa using f)] at b | rw[υ (by simpa using f),Int.add_zero] at b
   rw[<-b];refine AF (cl Z Z (J (Ac Z Z (AJ (k+1) (by omega)) Z) (AB Z Z (AC ?_))));exact ⟨k+1,(by show k+1<=_;omega),by show p.it.length-(k+1)<p.it.length-k;omega,AR s [1,2] Z (Z) ⟨Z,Z,Z,Z,Z,trivial⟩⟩
 .refine Aq (AD ?_);have j:=RZ p.it x l;rw[ζ (by have h:=g;omega)];refine AF (cl Z Z (J (Wp Z (Ξ _ (by omega)) Z) (J (MP Z Z (Z) Z) (AB Z Z (AC (A5 ?_))))));exact ⟨_,[],[],A2 Z,Z,Z,by rw[show (max 0 (-(CO p.it x l)):Int)=if 0-CO p.it x l>0 then 0-CO p.it x l else 0 by rw[Int.max_def];split<;>split<;>omega],Z⟩
theorem tM(p:iB)(x:gf)(l:List Int)(a:p.it.length<=30)(f: -4000000000000000<=x.n/\x.n<=4000000000000000)(b:l.length<=1000)(c:∀i∈p.it,YC i):AI prog 107 [.d (BM p),.d (BT x),.d (.sl none (l.map AE))] (AE (max 0 (-(CO p.it x l)))):=fC p x l a (by omega) b c
abbrev iA(o:Option I1):D:= .tup [TV (o.getD Ns),Aj o.isSome]
abbrev Xc(e:I1):AM:= .blk 197 [.d (AE e.id),.d (AE e.re),.d (AE e.r.k),.d (Am e.r.acc.o),.d (AE e.r.acc.k),.d (Am e.r.acc.a),.d (Am e.r.f),.d (Am e.r.t),.d (AE e.by_)]
def kH(its:List dr)(l:List Int)(id:Int)(x:gf):Option I1:=if id∈iC its x.r then (((iC its x.r).takeWhile λa=>decide (a≠id)).find? λa=>decide (a∉l)).map λa=>⟨id,1,x.r,a⟩ else none
def B7(p:iB)(l:List Int)(id:Int):Option I1:=match (j8 p).findSome? (kH (fl p.it) l id) with
 | some e=>some e
 | none=>((hG p id).af.find? λa=>decide (a∉l)).map λa=>⟨id,2,FZ,a⟩
theorem Nz{b:Type}{p:b->Bool}:∀{l:List b} {m:Nat} (c:m<l.length),(∀a∈l.take m,p a=true)->p l[m]=false->l.takeWhile p=l.take m
 | a::l,0,_,_,h=>by simp at h;simp[h]
 | a::l,m+1,c,f,h=>by
  have j:p a=true:=f a (by simp);have g:=Nz (l:=l) (m:=m) (by simpa using c) (λx i=>f x (by simp[i])) (by simpa using h);rw[List.takeWhile_cons,j,List.take_succ_cons,<-g];rfl
theorem YH{f:Type}{p q:f->Bool}:∀{l:List f} {m:Nat} (g:m<l.length),(∀a∈l.take m,p a=true/\q a=false)->p l[m]=true->q l[m]=true->(l.takeWhile p).find? q=some l[m]
 | a::l,0,_,_,c,b=>by simp at c b;simp[c,b]
 | a::l,m+1,g,i,c,b=>by
  have h:=i a (by simp);have j:=YH (l:=l) (m:=m) (by simpa using g) (λx k=>i x (by simp[k])) (by simpa using c) (by simpa using b);rw[List.takeWhile_cons,h.1];simp only[if_true,List.find?_cons,h.2]
  simpa using j
theorem iy{id:Int}(f:iC T z.r=Q)(b:id∈Q)(c:y<Q.length)(h:∀a∈Q.take y,a≠id/\a∈j)(g:Q[y]=id):kH T j id z=none:=by grind[kH,Nz]
theorem iw{id:Int}(h:iC T z.r=Q)(b:id∈Q)(g:y<Q.length)(f:∀a∈Q.take y,a≠id/\a∈j)(k:Q[y]≠id)(i:Q[y]∉j):kH T j id z=some ⟨id,1,z.r,Q[y]⟩:=by
 unfold kH;rw[h,ϱ b,YH g (λa c=>⟨by simpa using (f a c).1,by simpa using (f a c).2⟩) (by simpa using k) (by simpa using i)];rfl
theorem ud{id:Int}(b:id∈Q)(c:y<Q.length)(g:∀a∈Q.take y,a≠id)(f:Q[y]≠id):y+1<Q.length:=by
 rcases Nat.lt_or_ge (y+1) Q.length with h | h
 .exact h
 .exfalso
  have e:Q.take (y+1)=Q:=ζ h
  grind[ψ]
theorem SM(p:iB)(Y:CY p)(hE:(p.ro.map gf.r).Nodup)(l:List Int)(id:Int)(hl:l.length<=1000)(hid:id∈p.it.map dr.id):AI prog 106 [.d (BM p),.d (.sl none (l.map AE)),.d (AE id)] (iA (B7 p l id)):=by
 have K:=RG p hE (by have:=Y.r;omega);have z:∀e,(j8 p).findSome? (kH (fl p.it) l id)=some e->B7 p l id=some e:=λe h=>by unfold B7;rw[h]
 have A:(j8 p).findSome? (kH (fl p.it) l id)=none->B7 p l id=((hG p id).af.find? λa=>decide (a∉l)).map λa=>⟨id,2,FZ,a⟩:=λh=>by unfold B7;rw[h]
 have hrl:(j8 p).length<=100:=by rw[(qn p).length_eq];exact Y.r
 have hil:=Y.i;have O:=λ(r:AW)=>KQ p r (by omega) (λi hi=>by have h:=Y.x i ((KI p.it).mem_iff.1 hi);omega);have M:∀r,(iC (fl p.it) r).length<=30:=λr=>by unfold iC;rw[χ];have:=lB (λi=>decide (BN i r<0)) (fl p.it);rw[O2] at this;omega
 obtain ⟨T,hfi,U,_⟩:=Zf hid;have W:=Pg p id (by omega);rw[hfi] at W;have hai:=Y.x (hG p id) (by rw[U];exact ϑ T)
 obtain ⟨b,I⟩:∃b,j8 p=b:=⟨_,Z⟩
 obtain ⟨S,hS⟩:∃S,fl p.it=S:=⟨_,Z⟩
 rw[I] at K z A hrl;rw[hS] at z A O M;refine Av func106 Z Z ntmps106 Z Z Z λF B=>(AD ?_);refine AF (V (Ba 1 Z Z Z Z Z Z Z) (V (CF 2 I5 Z Z Z Z) (AB Z Z (AC (AD (AF (J (Ar Z Z Bx Z Z Z) (J (Ak (K) Z Z) ?_))))))));refine AB Z Z (AC (AD (AD (AF (AB Z Z (AC (AX (BC (α:=Nat) (λk=>⟨89,[(1,.d (.sl none (l.map AE))),(2,.d (AE id)),(3,(.ptr 1 0 0)),(6,(.ptr 2 0 0)),(8,(.d (.sl none (b.map BT)))),(9,(.d (AE (k:Int))))],[(1,[B3 25 p]),(2,[Xc Ns])]⟩) (λk=>k<=b.length/\∀x∈b.take k,kH S l id x=none) (λk=>b.length-k) (0) (⟨κ _,by simp⟩) (AR B [1,2] Z Z ⟨Z,Z,Z,Z,Z,Z,trivial⟩) ?_))))))));rintro k ⟨hk0,o⟩;refine AD (AD (AF (cl Z Z (cl Z Z (J (BW Z F0 Z) (J (At Z Z Z) (AC (A4 Z (λH=>?_) (λH=>?_)))))))))
 .have s:k<b.length:=BG H;refine AU (AD (AX (AD ?_)))
  obtain ⟨Q,hQ⟩:∃Q,iC S b[k].r=Q:=⟨_,Z⟩
  have N:=O b[k].r;have L:=M b[k].r;rw[hQ] at N L;refine Bm [[],[],[],[1,2],[1,2,3],[1,2,3,4],rg 6,rg 7] mixed Z (BY (A1 [3] [1] Z Z (λ_=>A9 (Ar Z Z Bx Z Z Z)) ?_));refine A7 8 Z Z (A7 9 Z Z (AK [23,24] Z (Al (k) Z Z (Z) (AP s) F0 Z Bd Z) (AK [25] Z (Jy Z QS Z Z Z) (AK [26] Z (CT Z Z C4 Z) (BR 6 Z Z Z (AZ 7 Z Z (J (Ak (N) Z Z) (AC ⟨Z,?_⟩))))))));refine AZ 8 Z Z (AB Z Z (AC ⟨Z,?_⟩));refine Bb ?_;refine AD (AD (AF (cl Z Z (cl Z Z (J (Ak (L3 Q id (by omega)) Z Z) (J (JQ Z Z) (AC (A4 Z (λG=>?_) (λG=>?_)))))))))
  .refine Aq (AF (cl Z Z (J (Ac Z Z (AJ (k+1) (by omega)) Z) (AB Z Z (AC ?_)))));exact ⟨k+1,⟨by show k+1<=_;omega,by rw[ψ s];intro e c;rcases ν.1 c with c | c;exact o e c;rw[ξ.1 c];unfold kH;rw[hQ,υ (by simpa using G)]⟩,by show b.length-(k+1)<b.length-k;omega,AR B [1,2] Z (Z) ⟨Z,Z,Z,Z,Z,Z,trivial⟩⟩
  .refine AU (AD ?_);have g:id∈Q:=by simpa using G
   refine AF (AB Z Z (AC (AX (BC (α:=Nat) (λm=>⟨89,[(1,.d (.sl none (l.map AE))),(2,.d (AE id)),(3,(.ptr 1 0 0)),(6,(.ptr 2 0 0)),(8,(.d (.sl none (b.map BT)))),(9,(.d (AE (k:Int)))),(10,(.d (.sl none (Q.map AE)))),(11,(.d (AE (m:Int))))],[(1,[B3 25 p]),(2,[Xc Ns])]⟩) (λm=>m<Q.length/\∀a∈Q.take m,a≠id/\a∈l) (λm=>Q.length-m) (0) (⟨List.length_pos_of_mem g,by simp⟩) (AR B [1,2] Z Z ⟨Z,Z,Z,Z,Z,Z,Z,Z,trivial⟩) ?_))));rintro m ⟨f,u⟩;refine AD (AD ?_);refine AF (cl Z Z (cl Z Z (J (Al (m) Z Z (Z) (AP f) E0 Z BE Z) (J (BZ Z Z Ag Z) (cl Z Z (J (DP Z Z Z) (AC (A4 Z (λt=>?_) (λt=>?_)))))))))
   .refine AU (AD (AX (AD (AF ?_))));refine cl Z Z (cl Z Z (cl Z Z (J (Al (m) Z Z (Z) (AP f) E0 Z BE Z) (J (BZ Z Z Ag Z) (J (Ak (L3 l Q[m] (by omega)) Z Z) (J (JQ Z Z) (AC (A4 Z (λE=>?_) (λE=>?_)))))))))
    .refine AD (Bm [[],[],[],[1,2],[1,2,3],[1,2,3,4],[],[],[6,7],[6,7,8],rg 10,rg 11,rg 12] mixed Z (BY (A7 2 Z Z (A7 8 Z Z (A7 9 Z Z (AK [49,50] Z (Al (k) Z Z (Z) (AP s) F0 Z Bd Z) (AK [51] Z (Jy Z QS Z Z Z) ?_)))))));refine AK [52] Z (CT Z Z C4 Z) (A7 10 Z Z (A7 11 Z Z (AK [54,55] Z (Al (m) Z Z (Z) (AP f) E0 Z BE Z) (AK [56] Z (BZ Z Z Ag Z) (BR 10 Z Z Z (AZ 11 Z Z (J (Dx I5 Ug Z Z Z) (AC ⟨Z,?_⟩))))))));refine AZ 12 Z Z (V (Bc Z Z Z Z Z Z Z I8) (AC ⟨Z,?_⟩));refine AZ 13 Z Z (AB Z Z (AC ⟨Z,?_⟩));refine Bb (A5 ?_);exact ⟨_,[],[],A2 Z,Z,Z,by rw[z _ (Dq s o (iw hQ g f u (by simpa using t) (by simpa using E)))];rfl,Z⟩
    .refine AU (AF (cl Z Z (J (Ac Z Z (AJ (m+1) (by omega)) Z) (AB Z Z (AC ?_)))));exact ⟨m+1,⟨ud g f (λa ha=>(u a ha).1) (by simpa using t),by rw[ψ f];intro e c;rcases ν.1 c with c | c;exact u e c;rw[ξ.1 c];exact ⟨by simpa using t,by simpa using E⟩⟩,by show Q.length-(m+1)<Q.length-m;omega,AR B [1,2] Z (Z) ⟨Z,Z,Z,Z,Z,Z,Z,Z,trivial⟩⟩
   .refine Aq (AF (cl Z Z (J (Ac Z Z (AJ (k+1) (by omega)) Z) (AB Z Z (AC ?_)))));exact ⟨k+1,⟨by show k+1<=_;omega,by rw[ψ s];intro e c;rcases ν.1 c with c | c;exact o e c;rw[ξ.1 c];exact iy hQ g f u (by simpa using t)⟩,by show b.length-(k+1)<b.length-k;omega,AR B [1,2] Z (Z) ⟨Z,Z,Z,Z,Z,Z,trivial⟩⟩
 .refine Aq (AD ?_);have y:=A (Dp (by have e:k=b.length:=(by have h:=H;omega);rw[e,kW] at o;exact o));have R:(p.it.map Ah)[List.idxOf id (p.it.map dr.id)]? =some (Ah (hG p id)):=by rw[AP T,U]
  obtain ⟨X,hX⟩:∃X,hG p id=X:=⟨_,Z⟩
  rw[hX] at R y hai;refine Bm [[],[0],[],[],[2,3],rg 5,rg 6,[],rg 8] mixed Z (BY (AK [3] Z (AL Z JS Z Z Z) (A1 [59] [1] Z Z (λ_=>A9 (AQ Z Z Z DE Z)) (A1 [3] [1] Z Z (λ_=>A9 (Ar Z Z Bx Z Z Z)) ?_))));refine A7 2 Z Z (AK [61,62] Z (Ak (W) Z Z) (AK [60,63] Z (Al (List.idxOf id (p.it.map dr.id)) Z Z (Z) (R) No Z CP Z) (AK [64] Z (CT Z Z Ev Z) (Cq [] [3] [(12,_)] Z Z (λ_=>Cd (CF 3 Tt Z Z Z Z)) (.inr ⟨12,_,Z,Z,Z,Z,Z⟩) Z Z Z Z Z (BR 8 Z Z Z (AZ 9 Z Z (V (Bc Z Z Z Z Z Z Z CP) (AC ⟨Z,?_⟩))))))));refine Bb (AD (AD (AF (AB Z Z (AC (AX (BC (α:=Nat) (λj=>⟨89,[(1,.d (.sl none (l.map AE))),(2,.d (AE id)),(6,(.ptr 2 0 0)),(12,(.ptr 3 0 0)),(13,(.d (AE (j:Int))))],[(2,[Xc Ns]),(3,[.blk 93 [.d (AE X.id),.d (AE X.pr),.d (AE X.sq),.d (.sl none (X.po.map B9)),.d (.sl none (X.pa.map Co)),.d (.sl none (X.af.map AE))]])]⟩) (λj=>j<=X.af.length/\∀a∈X.af.take j,a∈l) (λj=>X.af.length-j) (0) (⟨κ _,by simp⟩) (AR B [2,3] Z Z ⟨Z,Z,Z,Z,Z,trivial⟩) ?_)))))));rintro j ⟨hj0,v⟩;refine AD ?_;refine AD (AF (cl Z Z (J (AL Z Tk Z Z Z) (J (AQ Z Z Z BJ Z) (J (BW Z E0 Z) (J (At Z Z Z) (AC (A4 Z (λD=>?_) (λD=>?_)))))))))
  .have w:j<X.af.length:=BG D;refine AU (AD (AX (AD (AF (cl Z Z ?_)))));refine J (AL Z Tk Z Z Z) (J (AQ Z Z Z BJ Z) (cl Z Z (J (Al (j) Z Z (Z) (AP w) E0 Z BE Z) (J (BZ Z Z Ag Z) (J (Ak (L3 l X.af[j] (by omega)) Z Z) (J (JQ Z Z) (AC (A4 Z (λC=>?_) (λC=>?_)))))))))
   .refine AD (AF (cl Z Z (J (AL Z Tk Z Z Z) ?_)));refine J (AQ Z Z Z BJ Z) (cl Z Z (J (Al (j) Z Z (Z) (AP w) E0 Z BE Z) (J (BZ Z Z Ag Z) (J (Dx I5 Ug Z Z Z) (V (Bc Z Z Z Z Z Z Z I8) (AB Z Z (AC (A5 ?_))))))));exact ⟨_,[],[],A2 Z,Z,Z,by rw[y,Jh w (λx hx=>by simpa using v x hx) (by simpa using C)];rfl,Z⟩
   .refine AU (AF (cl Z Z (J (Ac Z Z (AJ (j+1) (by omega)) Z) (AB Z Z (AC ?_)))));exact ⟨j+1,⟨by show j+1<=_;omega,by rw[ψ w];intro e c;rcases ν.1 c with c | c;exact v e c;rw[ξ.1 c];simpa using C⟩,by show X.af.length-(j+1)<X.af.length-j;omega,AR B [2,3] Z (Z) ⟨Z,Z,Z,Z,Z,trivial⟩⟩
  .refine Aq (AD (AF (J (Dx I5 Ug Z Z Z) (V (Bc Z Z Z Z Z Z Z I8) (AB Z Z (AC (A5 ?_)))))));exact ⟨_,[],[],A2 Z,Z,Z,by rw[y,HS (λx hx=>by have e:j=X.af.length:=(by have h:=D;omega);rw[e,kW] at v;simpa using v x hx)];rfl,Z⟩
theorem bv(p:iB)(c:CY p)(f:Ad p=0)(l:List Int)(id:Int)(b:l.length<=1000)(a:id∈p.it.map dr.id):AI prog 106 [.d (BM p),.d (.sl none (l.map AE)),.d (AE id)] (iA (B7 p l id)):=SM p c (Da f) l id b a
def Ih(its its0:List dr)(l:List Int)(x:gf):Option I1:=if CO its0 x l<0 then ((iC its x.r).reverse.find? λa=>decide (a∈l)).map λa=>⟨a,0,x.r,-1⟩ else none
def ES(p:iB)(l:List Int):Option I1:=match l.findSome? (B7 p l) with
 | some e=>some e
 | none=>(j8 p).findSome? (Ih (fl p.it) p.it l)
theorem eC{p:u->Bool}{Q:List u}(b:y<Q.length)(f:∀a∈Q.drop (y+1),p a=false)(c:p Q[y]=true):Q.reverse.find? p=some Q[y]:=by
 have e:Q.reverse=(Q.drop (y+1)).reverse++(Q[y]::(Q.take y).reverse):=by
  simp
 grind
theorem f7(p:iB)(y:CY p)(hE:Ad p=0)(l:List Int)(hl:l.length<=1000)(W:∀id∈l,id∈p.it.map dr.id):AI prog 104 [.d (BM p),.d (.sl none (l.map AE))] (iA (ES p l)):=by
 have K:=aY p hE (by have:=y.r;omega);have hbr:∀e,l.findSome? (B7 p l)=some e->ES p l=some e:=λe h=>by unfold ES;rw[h]
 have z:l.findSome? (B7 p l)=none->ES p l=(j8 p).findSome? (Ih (fl p.it) p.it l):=λh=>by unfold ES;rw[h]
 have Y:(j8 p).length<=100:=by rw[(qn p).length_eq];exact y.r
 have I:∀x∈j8 p,-4000000000000000<=x.n/\x.n<=4000000000000000:=(Y1 y hE).n;have hil:=y.i;have O:=λ(r:AW)=>KQ p r (by omega) (λi hi=>by have h:=y.x i ((KI p.it).mem_iff.1 hi);omega);have M:∀r,(iC (fl p.it) r).length<=30:=λr=>by unfold iC;rw[χ];have:=lB (λi=>decide (BN i r<0)) (fl p.it);rw[O2] at this;omega
 obtain ⟨b,H⟩:∃b,j8 p=b:=⟨_,Z⟩
 obtain ⟨S,hS⟩:∃S,fl p.it=S:=⟨_,Z⟩
 rw[H] at K z Y I;rw[hS] at z O M;refine Av func104 Z Z ntmps104 Z Z Z λF A=>(AD (AF (V (Ba 1 Z Z Z Z Z Z Z) (V (CF 2 I5 Z Z Z Z) ?_))));refine AB Z Z (AC (AD (AD (AF (AB Z Z (AC (AX (BC (α:=Nat) (λk=>⟨78,[(1,.d (.sl none (l.map AE))),(2,(.ptr 1 0 0)),(4,(.ptr 2 0 0)),(6,(.d (AE (k:Int))))],[(1,[B3 25 p]),(2,[Xc Ns])]⟩) (λk=>k<=l.length/\∀x∈l.take k,B7 p l x=none) (λk=>l.length-k) (0) (⟨κ _,by simp⟩) (AR A [1,2] Z Z ⟨Z,Z,Z,Z,trivial⟩) ?_))))))));rintro k ⟨hk0,t⟩;refine AD (AD (AF (cl Z Z (cl Z Z (J (BW Z E0 Z) (J (At Z Z Z) (AC (A4 Z (λG=>?_) (λG=>?_)))))))))
 .have u:k<l.length:=BG G;refine AU (AD (AX (AD ?_)));have hbl:=bv p y hE l l[k] hl (W _ (ϑ u));refine Bm [[],[],[],[],[2,3],[2,3,4],rg 6,rg 7,rg 8,rg 8,[],[0,1,2,3,4,5,6,7,8,10],rg 12] mixed Z (BY (A1 [2] [1] Z Z (λ_=>A9 (Ar Z Z Bx Z Z Z)) (A7 1 Z Z (A7 1 Z Z (A7 6 Z Z (AK [22,23] Z (Al (k) Z Z (Z) (AP u) E0 Z BE Z) (AK [24] Z (BZ Z Z Ag Z) (AK [20,21,25] Z (Ak (hbl) Z Z) ?_))))))));refine A7 26 Z Z (AK [19] Z (DI Z Z Z) (AK [19] Z (DI Z Z Z) (Cq [] [3] [(7,_)] Z Z (λ_=>Cd (CF 3 I5 Z Z Z Z)) (.inr ⟨7,_,Z,Z,Z,Z,Z⟩) Z Z Z Z Z (Cq [7,27] [3] [] Z Z (λ_=>Cd (Bc Z Z Z Z Z Z Z I8)) (.inl ⟨Z,Z⟩) Z Z Z Z Z (BR 12 Z Z Z (AZ 13 Z Z (AB Z Z (AC ⟨Z,?_⟩))))))));refine Bb (AD (AF ?_))
  cases hbk:B7 p l l[k]
  .refine cl Z Z (AC (Cr Z (Z) (AU (AF (cl Z Z (J (Ac Z Z (AJ (k+1) (by omega)) Z) (AB Z Z (AC ?_))))))));exact ⟨k+1,⟨by show k+1<=_;omega,by rw[ψ u];intro e f;rcases ν.1 f with f | f;exact t e f;rw[ξ.1 f];exact hbk⟩,by show l.length-(k+1)<l.length-k;omega,AR A [1,2] Z (Z) ⟨Z,Z,Z,Z,trivial⟩⟩
  .refine cl Z Z ?_;refine AC (CM Z (Z) (AD (AF (J (Ar Z Z dq Z Z Z) (V (Bc Z Z Z Z Z Z Z I8) (AB Z Z (AC (A5 ?_))))))));exact ⟨_,[],[],A2 Z,Z,Z,by rw[hbr _ (Dq u t hbk)];rfl,Z⟩
 .refine Aq (AD ?_);have U:=z (Dp (by have e:k=l.length:=(by have h:=G;omega);rw[e,kW] at t;exact t));refine AF (J (Ar Z Z Bx Z Z Z) (J (Ak (K) Z Z) ?_));refine AB Z Z (AC (AD (AD (AF (AB Z Z (AC (AX (BC (α:=Nat) (λj=>⟨78,[(1,.d (.sl none (l.map AE))),(2,(.ptr 1 0 0)),(4,(.ptr 2 0 0)),(9,(.d (.sl none (b.map BT)))),(10,(.d (AE (j:Int))))],[(1,[B3 25 p]),(2,[Xc Ns])]⟩) (λj=>j<=b.length/\∀x∈b.take j,Ih S p.it l x=none) (λj=>b.length-j) (0) (⟨κ _,by simp⟩) (AR A [1,2] Z Z ⟨Z,Z,Z,Z,Z,trivial⟩) ?_))))))));rintro j ⟨hj0,o⟩;refine AD (AD (AF (cl Z Z (cl Z Z (J (BW Z F0 Z) (J (At Z Z Z) (AC (A4 Z (λE=>?_) (λE=>?_)))))))))
  .have g:j<b.length:=BG E;refine AU (AD (AX (AD (AD ?_))));have X:=I _ (ϑ g);have R:=tM p b[j] l hil X hl (λi hi=>y.x i hi);refine Bm [[],[],[],[1,2],[1,2,3],[],rg 6,rg 7] mixed Z (BY (A1 [2] [1] Z Z (λ_=>A9 (Ar Z Z Bx Z Z Z)) ?_));refine A7 9 Z Z (A7 10 Z Z (AK [40,41] Z (Al (j) Z Z (Z) (AP g) F0 Z Bd Z) (AK [42] Z (CT Z Z RA Z) (A7 1 Z Z (BR 6 Z Z Z (AZ 7 Z Z (J (Ak (R) Z Z) (AC ⟨Z,?_⟩))))))));refine AZ 8 Z Z (J (GW Z Z Z) (AC ⟨Z,?_⟩));refine Bb (A4 Z (λD=>?_) (λD=>?_))
   .refine Aq (AF (cl Z Z (J (Ac Z Z (AJ (j+1) (by omega)) Z) (AB Z Z (AC ?_)))));exact ⟨j+1,⟨by show j+1<=_;omega,by rw[ψ g];intro e f;rcases ν.1 f with f | f;exact o e f;rw[ξ.1 f];unfold Ih;rw[υ (by have h:=D;rw[Int.max_def] at h;split at h<;>omega)]⟩,by show b.length-(j+1)<b.length-j;omega,AR A [1,2] Z (Z) ⟨Z,Z,Z,Z,Z,trivial⟩⟩
   .refine AU (AD ?_);have T:CO p.it b[j] l<0:=by have h:=D;rw[Int.max_def] at h;split at h<;>omega
    obtain ⟨Q,hQ⟩:∃Q,iC S b[j].r=Q:=⟨_,Z⟩
    have N:=O b[j].r;have L:=M b[j].r;rw[hQ] at N L;refine Bm [[],[],[],[1,2],[1,2,3],[1,2,3,4],rg 6,rg 7] mixed Z (BY (A1 [2] [1] Z Z (λ_=>A9 (Ar Z Z Bx Z Z Z)) ?_));refine A7 9 Z Z (A7 10 Z Z (AK [48,49] Z (Al (j) Z Z (Z) (AP g) F0 Z Bd Z) (AK [50] Z (Jy Z QS Z Z Z) (AK [51] Z (CT Z Z C4 Z) (BR 6 Z Z Z (AZ 7 Z Z (J (Ak (N) Z Z) (AC ⟨Z,?_⟩))))))));refine AZ 8 Z Z (AB Z Z (AC ⟨Z,?_⟩));refine Bb ?_;refine AD (AF (cl Z Z (J (BW Z E0 Z) (J (MC Z Z (Ξ _ (by omega)) Z) (AB Z Z (AC (AX (BC (α:=Nat) (λc=>⟨78,[(1,.d (.sl none (l.map AE))),(2,(.ptr 1 0 0)),(4,(.ptr 2 0 0)),(9,(.d (.sl none (b.map BT)))),(10,(.d (AE (j:Int)))),(11,(.d (.sl none (Q.map AE)))),(12,(.d (AE ((c:Int)-1))))],[(1,[B3 25 p]),(2,[Xc Ns])]⟩) (λc=>c<=Q.length/\∀a∈Q.drop c,a∉l) (λc=>c) (Q.length) (⟨Θ _,by simp⟩) (AR A [1,2] Z Z ⟨Z,Z,Z,Z,Z,Z,Z,trivial⟩) ?_))))))));rintro c ⟨hc0,v⟩;refine AD (AD (AF (cl Z Z (J (EH Z Z Z) (AC (A4 Z (λC=>?_) (λC=>?_)))))))
    .obtain ⟨m,rfl⟩:∃m,c=m+1:=⟨c-1,by have h:=C;omega⟩
     refine AU (AD (AX (AD ?_)));have s:m<Q.length:=by omega
     have hmc:((m+1:Nat):Int)-1=(m:Int):=by omega
     rw[hmc];refine AF (cl Z Z (cl Z Z (cl Z Z (J (Al (m) Z Z (Z) (AP s) E0 Z BE Z) (J (BZ Z Z Ag Z) (J (Ak (L3 l Q[m] (by omega)) Z Z) (AC (A4 Z (λB=>?_) (λB=>?_)))))))))
     .refine AD (Bm [[],[],[0,1],[0,1,2],[],[],[4,5],[4,5,6],[4,5,6,7],rg 9,rg 10,rg 11] mixed Z (BY (A7 11 Z Z (A7 12 Z Z (AK [67,68] Z (Al (m) Z Z (Z) (AP s) E0 Z BE Z) (AK [69] Z (BZ Z Z Ag Z) ?_))))));refine A7 9 Z Z (A7 10 Z Z (AK [71,72] Z (Al (j) Z Z (Z) (AP g) F0 Z Bd Z) (AK [73] Z (Jy Z QS Z Z Z) (AK [74] Z (CT Z Z C4 Z) (BR 9 Z Z Z (AZ 10 Z Z (J (Dx I5 Ug Z Z Z) (AC ⟨Z,?_⟩))))))));refine AZ 11 Z Z (V (Bc Z Z Z Z Z Z Z I8) (AC ⟨Z,?_⟩));refine AZ 12 Z Z (AB Z Z (AC ⟨Z,?_⟩));refine Bb (A5 ?_);exact ⟨_,[],[],A2 Z,Z,Z,by rw[U,Dq g o (by unfold Ih;rw[ϱ T,hQ,eC s (λa w=>by simpa using v a w) (by simpa using B)];rfl)];rfl,Z⟩
     .refine AU (AF (cl Z Z (J (MC Z Z (Ξ _ (by omega)) Z) (AB Z Z (AC ?_)))));exact ⟨m,⟨by omega,by rw[mR s];intro a w;rcases ju.1 w with w | w;rw[w];simpa using B;exact v a w⟩,by show m<m+1;omega,AR A [1,2] Z (Z) ⟨Z,Z,Z,Z,Z,Z,Z,trivial⟩⟩
    .refine Aq (AF (cl Z Z (J (Ac Z Z (AJ (j+1) (by omega)) Z) (AB Z Z (AC ?_)))));exact ⟨j+1,⟨by show j+1<=_;omega,by rw[ψ g];intro e f;rcases ν.1 f with f | f;exact o e f;rw[ξ.1 f];unfold Ih;rw[ϱ T,hQ,HS (λa w=>by have h0:c=0:=(by have h:=C;omega);subst h0;rw[List.drop_zero] at v;simpa using v a (List.mem_reverse.1 w))];rfl⟩,by show b.length-(j+1)<b.length-j;omega,AR A [1,2] Z (Z) ⟨Z,Z,Z,Z,Z,trivial⟩⟩
  .refine Aq (AD (AF (J (Dx I5 Ug Z Z Z) (V (Bc Z Z Z Z Z Z Z I8) (AB Z Z (AC (A5 ?_)))))));exact ⟨_,[],[],A2 Z,Z,Z,by rw[U,Dp (by have e:j=b.length:=(by have h:=E;omega);rw[e,kW] at o;exact o)];rfl,Z⟩
def KP(p:iB):Nat->List Int->List I1×List Int
 | 0,l=>([],l)
 | f+1,l=>match ES p l with
  | none=>([],l)
  | some e=>(e::(KP p f (BS l e.id)).1,(KP p f (BS l e.id)).2)
def Vg(p:iB):List I1×List Int:=KP p (fl p.it).length ((fl p.it).map dr.id)
theorem MU(a:ES h j=none):KP h U j=([],j):=by
 cases U with
 | zero=>rfl
 | succ U=>unfold KP;rw[a]
theorem RB{f:Nat}(a:ES h j=some x):KP h (f+1) j=(x::(KP h f (BS j x.id)).1,(KP h f (BS j x.id)).2):=by
 show (match ES h j with | none=>_ | some x=>_)=_;rw[a]
theorem SN{id:Int}(c:B7 h j id=some x):x.id=id:=by
 unfold B7 at c
 split at c
 .rename_i i g
  injection c with c;subst c
  obtain ⟨b,_,f⟩:=s6 g;unfold kH at f
  split at f
  .obtain ⟨a,_,rfl⟩:=Option.map_eq_some_iff.1 f;rfl
  .cases f
 .obtain ⟨a,_,rfl⟩:=Option.map_eq_some_iff.1 c;rfl
theorem ay(c:ES h j=some x):x.id∈j:=by
 unfold ES at c
 split at c
 .rename_i o i
  injection c with c;subst c
  obtain ⟨b,g,f⟩:=s6 i;rw[SN f];exact g
 .obtain ⟨b,_,f⟩:=s6 c;unfold Ih at f
  split at f
  .obtain ⟨a,k,rfl⟩:=Option.map_eq_some_iff.1 f
   grind
  .cases f
theorem Tz{x:Int}(h:x∈j):(BS j x).length+1<=j.length:=by
 unfold BS
 have:(j.filter λy=>decide (y≠x)).length<j.length:=by
  simp_all
 omega
theorem NP{x y:Int}(h:y∈BS j x):y∈j:=(Φ.1 h).1
theorem Vf(p:iB)(B:CY p)(G:Ad p=0):AI prog 52 [.d (BM p)] (.tup [.sl none ((Vg p).2.map AE),.sl none ((Vg p).1.map TV)]):=by
 have D:=B.i;have r:=R0 p (by omega);have t:=λ(l:List Int) (I:l.length<=1000) (H:∀id∈l,id∈p.it.map dr.id)=>f7 p B G l I H;have v:=O2 p.it;have g:∀id∈(fl p.it).map dr.id,id∈p.it.map dr.id:=λid h=>((KI p.it).map dr.id).mem_iff.1 h;unfold Vg
 obtain ⟨S,E⟩:∃S,fl p.it=S:=⟨_,Z⟩
 rw[E] at r v g⊢;have x:=t (S.map dr.id) (by rw[χ];omega) g;refine Av func52 Z Z ntmps52 Z Z Z λF A=>(AD (AF (V (Ba 1 Z Z Z Z Z Z Z) (AB Z Z (AB Z Z ?_)))));refine AC (AD (AF (J (Ar Z Z Bx Z Z Z) (J (Ak (r) Z Z) (AB Z Z (AC (AD (AF ?_))))))));refine AB Z Z (AC (AD (AD (AF (J (Ar Z Z Bx Z Z Z) (cl Z Z (J (Ak (x) Z Z) (cl Z Z ?_))))))));refine J (DI Z Z Z) (J (DI Z Z Z) (V (CF 2 I5 Z Z Z Z) (V (Bc Z Z Z Z Z Z Z I8) (AB Z Z (AC (AX (IY 5 900 dh Z Z Z Z (BC (α:=List Int×List I1×Nat×Option I1) (λq=>⟨34,[(1,(.ptr 1 0 0)),(4,(.d (.sl none (q.1.map AE)))),(5,(.own 900 0 q.2.1.length)),(6,(.ptr 2 0 0)),(7,(.d (Aj q.2.2.2.isSome)))],[(1,[B3 25 p]),(2,[Xc (q.2.2.2.getD Ns)]),(900,[.rowD 197 9 (q.2.1.map TV)])]⟩) (λq=>ES p q.1=q.2.2.2/\q.1.length<=q.2.2.1/\q.2.1.length+q.2.2.1<=30/\(∀id∈q.1,id∈p.it.map dr.id)/\q.2.1++(KP p q.2.2.1 q.1).1=(KP p S.length (S.map dr.id)).1/\(KP p q.2.2.1 q.1).2=(KP p S.length (S.map dr.id)).2) (λq=>q.2.2.1) ((S.map dr.id,[],S.length,ES p (S.map dr.id))) (⟨Z,by show (S.map dr.id).length<=S.length;rw[χ];exact Θ _,by show 0+S.length<=30;omega,g,Z,Z⟩) (AR A [1,2,900] Z Z ⟨Z,Z,Z,Z,Z,trivial⟩) ?_))))))));rintro ⟨l,a,f,o⟩ ⟨u,y,z,i,c,b⟩;dsimp only at u y z i c b⊢;refine AD (AD (AF (cl Z Z (AC (Jo Z (λj=>?_) (λj=>?_))))))
 .obtain ⟨e,rfl⟩:∃e,o=some e:=Option.isSome_iff_exists.1 (by simpa using j);refine AU (AD (AX ?_));have C:=Tz (ay u)
  obtain ⟨f2,rfl⟩:∃f2,f=f2+1:=⟨f-1,by omega⟩
  have k:=RB (f:=f2) u;have w:=t (BS l e.id) (by omega) (λid h=>i id (NP h));refine Bm [[],[],[1],[0,1,2],[],[],[5],rg 7,rg 8,rg 9] mixed Z (BY (A7 4 Z Z (AK [6] Z (AL Z pT Z Z Z) ?_)));refine A1 [24] [2] Z Z (λ_=>A9 (AQ Z Z Z Ag Z)) (AK [23,25] Z (Ak (Ql l e.id (by omega)) Z Z) (A7 5 Z Z (A1 [6] [2] Z Z (λ_=>A9 (Ar Z Z dq Z Z Z)) (Cq [28] [5] [(29,_)] Z Z (λ_=>Cd (CB 5 dh Z Z Z Z Z Z Z Z)) (.inr ⟨29,_,Z,Z,Z,Z,Z⟩) Z Z Z Z Z (BR 7 Z Z Z (AZ 8 Z Z (V (DQ (a) ([e]) Z Z Z Z Z Z Z Z dh (by simp only[η];omega) Z Z Z Z) (AC ⟨Z,?_⟩))))))));refine AZ 9 Z Z (AB Z Z (AC ⟨Z,?_⟩));refine AZ 10 Z Z (AB Z Z (AC ⟨Z,?_⟩));refine Bb (AD (AD (AF (J (Ar Z Z dq Z Z Z) (AC ?_)))));refine uo [1,900] A Z Z ?_;refine AF (V (CF 2 I5 Z Z Z Z) (V (Bc Z Z Z Z Z Z Z I8) (AC (AF ?_))));refine J (Ar Z Z Bx Z Z Z) (cl Z Z (J (Ak (w) Z Z) (cl Z Z (J (DI Z Z Z) (J (DI Z Z Z) (V (Bc Z Z Z Z Z Z Z I8) (AB Z Z (AC ?_))))))));exact ⟨(BS l e.id,a++ [e],f2,ES p (BS l e.id)),⟨Z,by show (BS l e.id).length<=f2;omega,by show (a++ [e]).length+f2<=30;rw[Δ];simp;omega,λid h=>i id (NP h),by show (a++ [e])++(KP p f2 (BS l e.id)).1=_;rw[lm,<-c,k];rfl,by show (KP p f2 (BS l e.id)).2=_;rw[<-b,k]⟩,by show f2<f2+1;omega,AR A [1,2,900] Z (Z) ⟨Z,Z,Z,Z,Z,trivial⟩⟩
 .refine Aq (AD ?_);have s:ES p l=none:=by rw[u];simpa using j
  rw[MU s,kZ] at c;rw[MU s] at b;refine Fi (emb:=TV) 5 900 a Z Z Z Z Z Z Z (AF (cl Z Z (cl Z Z (AB Z Z (AB Z Z (AC (A5 ?_)))))));exact ⟨_,[],[],A2 Z,Z,Z,by rw[<-c,<-b],Z⟩
theorem GH{b:Type}{p q:b->Bool}:∀{l:List b},(∀x∈l,p x=q x)->l.find? p=l.find? q
 | [],_=>rfl
 | a::l,h=>by
  rw[List.find?_cons,List.find?_cons,h a (k8 ..),GH λx c=>h x (kx _ c)]
theorem L4{b c:Type}{f g:b->Option c}:∀{l:List b},(∀x∈l,f x=g x)->l.findSome? f=l.findSome? g
 | [],_=>rfl
 | a::l,h=>by
  rw[rF,rF,h a (k8 ..),L4 λx i=>h x (kx _ i)]
theorem Ms{b g:Type}{f:b->Option g}{p:b->Bool}:∀{l:List b},(∀x∈l,p x=false->f x=none)->(l.filter p).findSome? f=l.findSome? f
 | [],_=>rfl
 | a::l,h=>by
  have c:=Ms (f:=f) (p:=p) (l:=l) λx i=>h x (kx _ i);rw[lg]
  cases hp:p a with
  | true=>rw[ϱ Z,rF,rF,c]
  | false=>rw[υ (by simp),c,rF,h a (k8 ..) hp]
theorem Nf{c b f:Type}{g:c->b}{p:b->Bool}{h:b->f}:∀{l:List c},((l.map g).find? p).map h=l.findSome? λx=>if p (g x)=true then some (h (g x)) else none
 | []=>rfl
 | a::l=>by
  rw[k7,List.find?_cons,rF]
  cases hp:p (g a) with
  | true=>rw[ϱ rfl];rfl
  | false=>rw[υ (by simp),<-Nf (l:=l)]
theorem Ti{x:dr}(h:Az x=0)(b:Bs G=0):Du (ea x) G=BN x G:=by
 have a:ea x=NA (jt x):=ϱ h;have c:BN x G=Ai (jt x) G:=ϱ ⟨h,b⟩;rw[a,c]
 by_cases f:Ai (jt x) G=0
 .grind[EU,HU,EG]
 .refine jT (by rw[<-a];exact cR x) ?_
  grind[HU,EG,G8]
theorem KD{l:List gf}(h:Db l=0):∀x∈l,Bs x.r=0:=λx b=>by
 have f:=Tr.1 h;obtain ⟨j,a,rfl⟩:=km b;have:=f j (Ω.2 a);unfold If at this;rw[EC IU a] at this
 split at this
 .contradiction
 .rename_i c
  exact Classical.byContradiction λh=>c h
theorem xH{l:List dr}(h:FL l=0):∀x∈l,Az x=0:=λx b=>by
 have f:=Tr.1 h;obtain ⟨j,a,rfl⟩:=km b;have:=f j (Ω.2 a);unfold K7 at this;rw[EC ey a] at this
 split at this
 .contradiction
 .rename_i c
  exact Classical.byContradiction λh=>c h
theorem eW(b:∀x∈a,Az x=0)(c:Bs G=0):iC a G=(iX (a.map ea) G).map λi=>(a.getD i ey).id:=by
 unfold iC iX
 have e:a=(List.range a.length).map λi=>a.getD i ey:=by
  apply ld (by simp)
  grind
 conv=>lhs;rw[e]
 rw[List.filter_map,jy,χ]
 congr 1
 grind[l5,Ti]
theorem Mc(g:(a.map dr.id).Nodup)(c:Nat->Bool)(f:i<a.length):(a.getD i ey).id∈BU a c a.length↔c i=true:=by
 unfold BU;rw[Γ]
 constructor
 .rintro ⟨j,h,e⟩;obtain ⟨l,o⟩:=Φ.1 h;have b:=Ω.1 l;rw[EC ey f,EC ey b] at e
  have:j=i:=by
   have k:(a.map dr.id)[j]'(by simpa using b)=(a.map dr.id)[i]'(by simpa using f):=by
    grind
   exact (List.getElem_inj g).1 k
  grind
 grind
theorem xl{m:List Int}(h:j.Perm m):j.sum=m.sum:=by
 induction h with
 | nil=>rfl
 | cons x _ a=>rw[lW,lW,a]
 | swap x y j=>simp only[lW];omega
 | trans _ _ c b=>rw[c,b]
theorem YT{b:Type}{p:b->Bool}{f:b->Int}:∀{l:List b},((l.filter p).map f).sum=(l.map λi=>if p i=true then f i else 0).sum
 | []=>rfl
 | a::l=>by
  rw[lg,k7,lW,<-YT (l:=l)]
  cases hp:p a with
  | true=>rw[ϱ Z,ϱ Z,k7,lW]
  | false=>rw[υ (by simp),υ (by simp),Int.zero_add]
theorem Tn(h:i<a.length):(iL c a f).nd.getD i CV=J8 (c.map gf.r) a f i:=by
 show ((List.range a.length).map _).getD i CV=_
 grind
theorem OL(h:i∈iX k G):i<k.length:=Ω.1 (Φ.1 h).1
theorem HR(a:List dr):a=(List.range a.length).map λi=>a.getD i ey:=by
 apply ld (by simp)
 grind
structure mZ (p:iB) (ros:List gf) (its:List dr):Prop where
 e:Ad p=0
 f:CY p
 s:vN ros its
 hr:j8 p=ros
 hi:fl p.it=its
 v:∀x∈its,Az x=0
 w:∀x∈ros,Bs x.r=0
 up:ros.Pairwise λa b=>BV a.r b.r<0
theorem eX(c:Ad h=0)(j:CY h):mZ h (j8 h) (fl h.it):=by
 have k:hY h=fl h.it:=ϱ c;have g:=Y1 j c;rw[k] at g;refine ⟨c,j,g,Z,Z,λx f=>xH (HZ c).2.1 x ((KI h.it).mem_iff.1 f),λx f=>KD (HZ c).1 x ((qn h).mem_iff.1 f),?_⟩;have i:=g.r;rw[List.Nodup,lA] at i;refine ((NU h).and i).imp λ{a b} ⟨r,l⟩=>?_;have k:=NM.anti a.r b.r;have o:BV a.r b.r≠0:=λe=>l (Ds.1 e);omega
theorem Uk(b:mZ h c a)(j:Nat->Bool)(s:z∈c):CO h.it z (BU a j a.length)=max z.n 0+E1 (a.map ea) j z.r:=by
 unfold CO
 congr 1
 have u:h.it.Perm a:=by rw[<-b.hi];exact (KI h.it).symm
 rw[xl ((u.filter _).map _)]
 obtain ⟨l,r⟩:∃l,BU a j a.length=l:=⟨_,Z⟩
 rw[r]
 have e:((a.filter λi=>decide (i.id∈l)).map λi=>BN i z.r).sum=((List.range a.length).map λi=>if decide ((a.getD i ey).id∈l)=true then BN (a.getD i ey) z.r else 0).sum:=by
  conv=>lhs;rw[HR a]
  rw[List.filter_map,jy,YT];rfl
 have k:(a.map ea).length=a.length:=by simp
 rw[e];unfold E1;rw[k]
 congr 1
 refine kT λi v=>?_;have f:=Ω.1 v;have g:=Mc b.s.i j f;rw[r] at g;have t:=Ti (b.v (a.getD i ey) (by rw[EC ey f];exact ϑ f)) (b.w z s);have w:(a.map ea).getD i []=ea (a.getD i ey):=by rw[EC [] (by simpa using f),EC ey f,kR]
 rw[w,t]
 by_cases o:j i=true
 .rw[ϱ o,ϱ (Υ (g.2 o))]
 .rw[υ o,υ (by simpa using λb=>o (g.1 b))]
theorem o4(b:mZ h c a)(g:Nat->Bool)(o:z∈c):Ih a h.it (BU a g a.length) z=W5 (iL c a g) (ej (a.map ea) g z):=by
 unfold Ih W5;rw[Uk b g o]
 have k:(Q2 (ej (a.map ea) g z) (ej (a.map ea) g z).sum=true)↔max z.n 0+E1 (a.map ea) g z.r<0:=by
  unfold Q2 jL ej;rw[lh];dsimp only;have:(0:Int)<=max z.n 0:=Int.le_max_right _ _;omega
 by_cases l:max z.n 0+E1 (a.map ea) g z.r<0
 .rw[ϱ l,ϱ (k.2 l),eW b.v (b.w z o),<-List.map_reverse,List.find?_map];show Option.map _ (Option.map _ _)=Option.map _ ((iX (a.map ea) z.r).reverse.find? _)
  have e:(iX (a.map ea) z.r).reverse.find? ((λf=>decide (f∈BU a g a.length))∘λi=>(a.getD i ey).id)=(iX (a.map ea) z.r).reverse.find? (kV (iL c a g)):=GH λi r=>by
   have j:=OL (List.mem_reverse.1 r);rw[χ] at j;show decide ((a.getD i ey).id∈_)=kV _ i;unfold kV;rw[Tn j];show _=g i;have:=Mc b.s.i g j
   cases ho:g i with
   | true=>exact Υ (this.2 ho)
   | false=>exact kD λb=>by rw[this.1 b] at ho;cases ho
  rw[e]
  cases hf:(iX (a.map ea) z.r).reverse.find? (kV (iL c a g)) with
  | none=>rfl
  | some i=>
   have j:=OL (List.mem_reverse.1 (List.mem_of_find?_eq_some hf));rw[χ] at j;show some _=some _
   congr 1
   have s:(iL c a g).nd.getD i CV=J8 (c.map gf.r) a g i:=Tn j;show I1.mk (a.getD i ey).id 0 z.r (-1)=I1.mk ((iL c a g).nd.getD i CV).it.id 0 z.r (-1);rw[s];rfl
 .rw[υ l,υ λb=>l (k.1 b)]
theorem V9{b:Type}(p:b->Bool):∀(A:List b),A.find? p=A[A.findIdx p]?
 | []=>rfl
 | a::A=>by
  rw[List.find?_cons,List.findIdx_cons]
  cases hp:p a with
  | true=>rfl
  | false=>rw[V9 p A];rfl
theorem pq(X:dr):(ea X).Pairwise λa b=>BV a.1 b.1<0:=by
 unfold ea
 split
 .exact Lt (jt X)
 .exact List.Pairwise.nil
theorem rl(f:mZ h c a)(k:List (List (AW×Int)))(X:dr):l7 (c.map gf.r) k (ea X)=(c.filter λx=>decide (Du (ea X) x.r<0)).map λx=>((c.map gf.r).idxOf x.r,(iX k x.r).length):=by
 have l:((ea X).filter λd=>decide (d.1∈c.map gf.r) && decide (d.2<0)).map Prod.fst=(c.filter λx=>decide (Du (ea X) x.r<0)).map gf.r:=by
  refine sR (R:=λg b=>BV g b<0) (λx=>by rw[NM.refl];omega) (λx y z=>NM.trans x y z) ?_ ?_ λr=>?_
  .rw[lA];exact List.Pairwise.filter _ (pq X)
  .rw[lA];exact List.Pairwise.filter _ f.up
  .constructor
   .intro s;obtain ⟨d,j,rfl⟩:=Γ.1 s;obtain ⟨t,i⟩:=Φ.1 j;rw[kQ,lh,lh] at i;obtain ⟨x,o,e⟩:=Γ.1 i.1;refine Γ.2 ⟨x,Φ.2 ⟨o,?_⟩,e⟩;have:Du (ea X) d.1=d.2:=jT (cR X) t;rw[e,this];exact Υ i.2
   .intro s;obtain ⟨x,o,rfl⟩:=Γ.1 s;obtain ⟨t,i⟩:=Φ.1 o;have i:=lG i
    have v:x.r∈(ea X).map Prod.fst:=Classical.byContradiction λu=>by
     have:Du (ea X) x.r=0:=EU u;omega
    obtain ⟨d,j,e⟩:=Γ.1 v;have:Du (ea X) d.1=d.2:=jT (cR X) j;rw[e] at this;refine Γ.2 ⟨d,Φ.2 ⟨j,?_⟩,e⟩;rw[kQ,lh,lh];exact ⟨by rw[e];exact Γ.2 ⟨x,t,Z⟩,by omega⟩
 have w:l7 (c.map gf.r) k (ea X)=(((ea X).filter λd=>decide (d.1∈c.map gf.r) && decide (d.2<0)).map Prod.fst).map λr=>((c.map gf.r).idxOf r,(iX k r).length):=by
  unfold l7;rw[jy];rfl
 rw[w,l,jy];rfl
theorem ei(b:mZ h c a)(g:Nat->Bool)(i:z∈c):(iL c a g).po.getD ((c.map gf.r).idxOf z.r) Ce=ej (a.map ea) g z:=by
 obtain ⟨j,k,rfl⟩:=km i;have f:j<(c.map gf.r).length:=by simpa using k
 have e:(c.map gf.r).idxOf c[j].r=j:=by
  have:=Fe b.s.r f
  grind
 rw[e];show (c.map _).getD j Ce=_
 grind
theorem Mn(f:(a.map dr.id).Nodup){i j:Nat}(c:i<a.length)(b:j<a.length)(h:(a.getD i ey).id=(a.getD j ey).id):i=j:=by
 rw[EC ey c,EC ey b] at h
 have g:(a.map dr.id)[i]'(by simpa using c)=(a.map dr.id)[j]'(by simpa using b):=by
  grind
 exact (List.getElem_inj f).1 g
theorem Za(b:mZ h c a)(g:Nat->Bool)(D:i<a.length)(C:z∈c):
  kH a (BU a g a.length) (a.getD i ey).id z=if Du (ea (a.getD i ey)) z.r<0 then (if kw (iL c a g) ((c.map gf.r).idxOf z.r,(iX ((a.map ea).take i) z.r).length)=true then some (TU (iL c a g) (J8 (c.map gf.r) a g i) ((c.map gf.r).idxOf z.r,(iX ((a.map ea).take i) z.r).length)) else none) else none:=by
 have kL:i<(a.map ea).length:=by simpa using D
 have N:(a.map ea).getD i []=ea (a.getD i ey):=by rw[EC [] kL,EC ey D,kR]
 have M:=eW b.v (b.w z C);obtain ⟨B,t,E,T⟩:=LN kL z.r;rw[N] at t
 have y:(a.getD i ey).id∈iC a z.r↔Du (ea (a.getD i ey)) z.r<0:=by
  rw[M,Γ]
  constructor
  .rintro ⟨j,u,e⟩;have k:=OL u;rw[χ] at k;have:=Mn b.s.i k D e;subst this;have:=(Φ.1 u).2;rw[N] at this;exact lG this
  .intro l;refine ⟨i,?_,Z⟩;rw[t,ϱ l];simp
 unfold kH
 by_cases l:Du (ea (a.getD i ey)) z.r<0
 .rw[ϱ (y.2 l),ϱ l];rw[ϱ l] at t
  obtain ⟨A,Q⟩:∃A,iX ((a.map ea).take i) z.r=A:=⟨_,Z⟩
  rw[Q] at t E⊢
  have L:iC a z.r=A.map (λj=>(a.getD j ey).id)++((a.getD i ey).id::B.map λj=>(a.getD j ey).id):=by
   rw[M,t,kA,List.singleton_append,k7]
  have s:(A.map λj=>(a.getD j ey).id).length=A.length:=χ _;have w:A.length<(iC a z.r).length:=by rw[L,Δ,s];simp
  have v:(iC a z.r).take A.length=A.map λj=>(a.getD j ey).id:=by rw[L,<-s,List.take_left'];rfl
  have K:(iC a z.r)[A.length]=(a.getD i ey).id:=by
   have:(iC a z.r)[A.length]? =some (a.getD i ey).id:=by
    rw[L,rC (by omega),s,Nat.sub_self];rfl
   rw[ω w] at this;exact Option.some.inj this
  rw[Nz w (λf l=>by
   rw[v] at l;obtain ⟨j,u,rfl⟩:=Γ.1 l;have:=E j u
   exact Υ λe=>by have:=Mn b.s.i (by omega) D e;omega) (by rw[K];simp),v,List.find?_map]
  have S:A.find? ((λf=>decide (f∉BU a g a.length))∘λj=>(a.getD j ey).id)=A.find? λj=>!g j:=GH λj u=>by
   have k:j<a.length:=by have:=E j u;omega
   have:=Mc b.s.i g k;show decide ((a.getD j ey).id∉_)=!g j
   cases ho:g j with
   | true=>exact kD λH=>H (this.2 ho)
   | false=>exact Υ λH=>by rw[this.1 H] at ho;cases ho
  rw[S,V9]
  have I:((iL c a g).po.getD ((c.map gf.r).idxOf z.r) Ce).mi=if A.findIdx (λj=>!g j)<A.length then A.findIdx λj=>!g j else (([i]:List Nat)++B).findIdx (λj=>!g j)+A.length:=by
   rw[ei b g C];show ft g (iX (a.map ea) z.r)=_;unfold ft;rw[t,Vc]
  have G:((iL c a g).po.getD ((c.map gf.r).idxOf z.r) Ce).q=iX (a.map ea) z.r:=by rw[ei b g C];rfl
  have F:((iL c a g).po.getD ((c.map gf.r).idxOf z.r) Ce).r=z.r:=by rw[ei b g C];rfl
  unfold kw TU;dsimp only;rw[I,G,F]
  by_cases o:A.findIdx (λj=>!g j)<A.length
  .rw[ϱ o,ϱ (Υ o),ω o];have J:=ϑ o;have k:A[A.findIdx λj=>!g j]<a.length:=by have:=E _ J;omega
   have R:(iX (a.map ea) z.r).getD (A.findIdx λj=>!g j) 0=A[A.findIdx λj=>!g j]:=by
    rw[t,Ψ,nU o,ω o];rfl
   rw[R,Tn k];rfl
  .rw[υ o,υ (by simp),mQ (by omega)];rfl
 .rw[υ (λO=>l (y.1 O)),υ l]
theorem iu(b:mZ h c a)(g:Nat->Bool)(t:i<a.length):B7 h (BU a g a.length) (a.getD i ey).id=G5 (iL c a g) (J8 (c.map gf.r) a g i):=by
 have k:a.getD i ey∈a:=by rw[EC ey t];exact ϑ t
 have r:a.getD i ey∈h.it:=by rw[<-b.hi] at k;rw[<-b.hi];exact (KI h.it).mem_iff.1 k
 have E:c.findSome? (kH a (BU a g a.length) (a.getD i ey).id)=((l7 (c.map gf.r) ((a.map ea).take i) (ea (a.getD i ey))).find? (kw (iL c a g))).map (TU (iL c a g) (J8 (c.map gf.r) a g i)):=by
  rw[rl b,Nf,<-Ms (p:=λx=>decide (Du (ea (a.getD i ey)) x.r<0)) (λx u v=>by rw[Za b g t u,υ (of_decide_eq_false v)])]
  grind[L4,Za]
 have D:hG h (a.getD i ey).id=a.getD i ey:=by
  obtain ⟨y,_,B,A⟩:=Zf (p:=h) (id:=(a.getD i ey).id) (Γ.2 ⟨_,r,Z⟩);refine OR (Xy (HZ b.e).2.1) (by rw[B];exact ϑ y) r A
 have C:(a.getD i ey).af.find? (λf=>decide (f∉BU a g a.length))=(a.getD i ey).af.find? (je (iL c a g)):=GH λf z=>by
  have w:=b.s.a _ k f z;have s:=my w;have l:=nJ s;unfold je;rw[QN]
  generalize (a.map dr.id).idxOf f=j at s l⊢
  have o:j<a.length:=by simpa using s
  rw[kR] at l;rw[Tn o];show _=!g j;have:=Mc b.s.i g o
  grind
 unfold B7;rw[b.hr,b.hi,E,D,C];unfold G5
 show _=match (l7 (c.map gf.r) ((a.map ea).take i) (ea (a.getD i ey))).find? (kw (iL c a g)) with
  | some e=>some (TU (iL c a g) (J8 (c.map gf.r) a g i) e)
  | none=>match (a.getD i ey).af.find? (je (iL c a g)) with
   | some id=>some ⟨(a.getD i ey).id,2,FZ,id⟩
   | none=>none
 cases (l7 (c.map gf.r) ((a.map ea).take i) (ea (a.getD i ey))).find? (kw (iL c a g)) with
 | some e=>rfl
 | none=>
  show ((a.getD i ey).af.find? (je (iL c a g))).map _=_
  cases (a.getD i ey).af.find? (je (iL c a g))<;>rfl
theorem So(b:mZ h c a)(g:Nat->Bool):ES h (BU a g a.length)=Dl (iL c a g):=by
 have u:(BU a g a.length).findSome? (B7 h (BU a g a.length))=(iL c a g).nd.findSome? (Ra (iL c a g)):=by
  show (((List.range a.length).filter g).map λi=>(a.getD i ey).id).findSome? _=((List.range a.length).map _).findSome? _;rw[List.findSome?_map,List.findSome?_map]
  rw[<-Ms (p:=g) (l:=List.range a.length) (f:=Ra (iL c a g)∘J8 (c.map gf.r) a g) (λi _ k=>by
   show Ra _ (J8 _ _ _ i)=none;unfold Ra;rw[υ];show ¬(g i=true)
   rw[k];simp)]
  refine L4 λi o=>?_;obtain ⟨s,r⟩:=Φ.1 o;show B7 h _ (a.getD i ey).id=Ra _ (J8 _ _ _ i);rw[iu b g (Ω.1 s)];unfold Ra;rw[ϱ];exact r
 have t:c.findSome? (Ih a h.it (BU a g a.length))=(iL c a g).po.findSome? (W5 (iL c a g)):=by
  show _=(c.map _).findSome? _;rw[List.findSome?_map];exact L4 λx j=>o4 b g j
 unfold ES Dl;rw[b.hr,b.hi,u,t]
 grind
theorem NO(c:(a.map dr.id).Nodup)(b:Nat->Bool)(f:i<a.length):BS (BU a b a.length) (a.getD i ey).id=BU a (BD b i) a.length:=by
 unfold BS BU;rw[List.filter_map,List.filter_filter]
 grind[l5,J2,Mn,HC]
theorem dw{p:iB}{b:List gf}{a:List dr}(h:mZ p b a):∀(f:Nat) (c:Nat->Bool),KP p f (BU a c a.length)=((FG b a f c).1,BU a (FG b a f c).2 a.length)
 | 0,c=>rfl
 | f+1,c=>by
  cases hne:Dl (iL b a c) with
  | none=>rw[MU (by rw[So h,hne]),Kz hne]
  | some e=>
   obtain ⟨i,x,s,t,l⟩:=OK hne
   have u:BH (iL b a c)=iL b a c:=by
    unfold BH iL;dsimp only;rw[jy,jy];rfl
   obtain ⟨o,_,k⟩:=ME u s;have j:(a.getD i ey).id=e.id:=by rw[l,k]
   have g:(a.map dr.id).idxOf e.id=i:=by
    have r:=Fe h.s.i (i:=i) (by simpa using o);rw[kR] at r;rw[<-j,EC ey o];exact r
   rw[RB (by rw[So h,hne]),Kx hne,g,<-j,NO h.s.i c o,dw h f]
theorem p9(b:Ad h=0)(c:CY h):Vg h=((JD h).1,gg h):=by
 have a:=eX b c;have g:hY h=fl h.it:=ϱ b
 have f:(fl h.it).map dr.id=BU (fl h.it) (λ_=>true) (fl h.it).length:=by
  conv=>lhs;rw[HR (fl h.it)]
  unfold BU;rw[jy,rE.2 (λ_ _=>rfl)];rfl
 unfold Vg gg JD;rw[g,f,dw a]
def yR(p:iB)(n:Nat):Prop:=p.it.length<=n/\p.ro.length<=30/\∀i∈p.it,i.po.length<=8/\i.pa.length<=8/\i.af.length<=8
instance (p:iB) (n:Nat):Decidable (yR p n):=inferInstanceAs (Decidable (_/\_/\∀i∈p.it,_))
def D0(p:iB)(l:List Int):Prop:=(∀id∈l,B7 p l id=none)/\∀x∈p.ro,¬CO p.it x l<0
noncomputable instance (p:iB) (l:List Int):Decidable (D0 p l):=Classical.propDecidable _
theorem TR(p:iB)(w:CY p)(M:(p.ro.map gf.r).Nodup)(z:∀x∈p.ro,-100000000000000000<=x.n/\x.n<=100000000000000000)(l:List Int)(D:l.length<=1000)(u:∀id∈l,id∈p.it.map dr.id):AI prog 55 [.d (BM p),.d (.sl none (l.map AE))] (Aj (decide (D0 p l))):=by
 have A:=w.i;have H:=w.r;refine Av func55 Z Z ntmps55 Z Z Z λF y=>(AD (AF (V (Ba 1 Z Z Z Z Z Z Z) ?_)));refine AB Z Z (AC (AD (AD (AF (AB Z Z (AC (AX (BC (α:=Nat) (λk=>⟨42,[(1,.d (.sl none (l.map AE))),(2,(.ptr 1 0 0)),(5,(.d (AE (k:Int))))],[(1,[B3 25 p])]⟩) (λk=>k<=l.length/\∀x∈l.take k,B7 p l x=none) (λk=>l.length-k) (0) (⟨κ _,by simp⟩) (AR y [1] Z Z ⟨Z,Z,Z,trivial⟩) ?_))))))));rintro k ⟨I,f⟩;refine AD (AD (AF (cl Z Z (cl Z Z (J (BW Z E0 Z) (J (At Z Z Z) (AC (A4 Z (λr=>?_) (λr=>?_)))))))))
 .have b:k<l.length:=BG r;refine AU (AD (AX (AD ?_)));have B:=SM p w M l l[k] D (u _ (ϑ b));refine Bm [[],[],[],[],[2,3],[2,3,4],rg 6,rg 7,rg 8,rg 8,[],[0,1,2,3,4,5,6,7,8,10],rg 12] mixed Z (BY (A1 [2] [1] Z Z (λ_=>A9 (Ar Z Z Bx Z Z Z)) (A7 1 Z Z (A7 1 Z Z (A7 5 Z Z (AK [18,19] Z (Al (k) Z Z (Z) (AP b) E0 Z BE Z) (AK [20] Z (BZ Z Z Ag Z) (AK [16,17,21] Z (Ak (B) Z Z) ?_))))))));refine A7 22 Z Z (AK [15] Z (DI Z Z Z) (AK [15] Z (DI Z Z Z) (Cq [] [2] [(6,_)] Z Z (λ_=>Cd (CF 2 I5 Z Z Z Z)) (.inr ⟨6,_,Z,Z,Z,Z,Z⟩) Z Z Z Z Z (Cq [6,23] [2] [] Z Z (λ_=>Cd (Bc Z Z Z Z Z Z Z I8)) (.inl ⟨Z,Z⟩) Z Z Z Z Z (BR 12 Z Z Z (AZ 13 Z Z (AB Z Z (AC ⟨Z,?_⟩))))))));refine Bb (AD (AF ?_))
  cases hbk:B7 p l l[k]
  .refine cl Z Z (AC (Cr Z (Z) (AU (AF (cl Z Z (J (Ac Z Z (AJ (k+1) (by omega)) Z) (AB Z Z (AC ?_))))))));exact ⟨k+1,⟨by show k+1<=_;omega,by rw[ψ b];intro e a;rcases ν.1 a with a | a;exact f e a;rw[ξ.1 a];exact hbk⟩,by show l.length-(k+1)<l.length-k;omega,AR y [1] Z (Z) ⟨Z,Z,Z,trivial⟩⟩
  .refine cl Z Z (AC (CM Z (Z) (AD (AF (AB Z Z (AC (A5 ?_)))))));exact ⟨_,[],[],A2 Z,Z,Z,Hf (λh=>by have C:=h.1 _ (ϑ b);rw[hbk] at C;cases C),Z⟩
 .refine Aq (AD (AD ?_));have v:∀id∈l,B7 p l id=none:=by have e:k=l.length:=(by have h:=r;omega);rw[e,kW] at f;exact f
  refine AF (AB Z Z (AC (AX (BC (α:=Nat) (λj=>⟨42,[(1,.d (.sl none (l.map AE))),(2,(.ptr 1 0 0)),(8,(.d (AE (j:Int))))],[(1,[B3 25 p])]⟩) (λj=>j<=p.ro.length/\∀x∈p.ro.take j,¬CO p.it x l<0) (λj=>p.ro.length-j) (0) (⟨κ _,by simp⟩) (AR y [1] Z Z ⟨Z,Z,Z,trivial⟩) ?_))));rintro j ⟨K,t⟩;refine AD ?_;refine AD (AF (cl Z Z (J (AL Z Kj Z Z Z) (J (AQ Z Z Z Dy Z) (J (BW Z F0 Z) (J (At Z Z Z) (AC (A4 Z (λo=>?_) (λo=>?_)))))))))
  .have c:j<p.ro.length:=BG o;refine AU (AD (AX (AD ?_)));have s:=fC p p.ro[j] l A (z _ (ϑ c)) D (λi L=>w.x i L);refine Bm [[],[],[1],[],[1,2,3],[1,2,3,4],[],rg 7,rg 8] mixed Z (BY (A1 [2] [1] Z Z (λ_=>A9 (Ar Z Z Bx Z Z Z)) (AK [2] Z (AL Z Kj Z Z Z) ?_)));refine A1 [34] [1] Z Z (λ_=>A9 (AQ Z Z Z Dy Z)) (A7 8 Z Z (AK [35,36] Z (Al (j) Z Z (Z) (AP c) F0 Z Bd Z) (AK [37] Z (CT Z Z RA Z) (A7 1 Z Z (BR 7 Z Z Z (AZ 8 Z Z (J (Ak (s) Z Z) (AC ⟨Z,?_⟩))))))));refine AZ 9 Z Z (J (H1 Z Z Z) (AC ⟨Z,?_⟩));refine Bb (A4 Z (λg=>?_) (λg=>?_))
   .refine AD (AF (AB Z Z (AC (A5 ?_))));exact ⟨_,[],[],A2 Z,Z,Z,Hf (λh=>by have C:=h.2 _ (ϑ c);have E:=g;rw[Int.max_def] at E;split at E<;>omega),Z⟩
   .refine AU (AF (cl Z Z (J (Ac Z Z (AJ (j+1) (by omega)) Z) (AB Z Z (AC ?_)))));exact ⟨j+1,⟨by show j+1<=_;omega,by rw[ψ c];intro e a;rcases ν.1 a with a | a;exact t e a;rw[ξ.1 a];have h:=g;rw[Int.max_def] at h;split at h<;>omega⟩,by show p.ro.length-(j+1)<p.ro.length-j;omega,AR y [1] Z (Z) ⟨Z,Z,Z,trivial⟩⟩
  .refine Aq (AD (AF (AB Z Z (AC (A5 ?_)))));exact ⟨_,[],[],A2 Z,Z,Z,Sf ⟨v,λx G=>t x (by rw[ζ (by have h:=o;omega)];exact G)⟩,Z⟩
theorem f9(a:List gf)(b:List dr)(c:Nat->Bool):BH (iL a b c)=iL a b c:=by
 unfold BH iL;dsimp only;rw[jy,jy];rfl
theorem oh(t:(a.map dr.id).Nodup)(h:Dl (iL c a f)=some x):∃i,i<a.length/\f i=true/\(a.getD i ey).id=x.id/\(a.map dr.id).idxOf x.id=i:=by
 obtain ⟨i,b,r,g,k⟩:=OK h;obtain ⟨o,s,j⟩:=ME (f9 c a f) r;have l:(a.getD i ey).id=x.id:=by rw[k,j]
 refine ⟨i,o,by rw[<-s];exact g,l,?_⟩;have u:=Fe t (i:=i) (by simpa using o)
 grind
theorem i7(n:Nat)(a:Nat->Bool):EY n a<=n:=by grind[EY]
theorem Xp{id:Int}(g:∀x∈L,x∈j)(a:B7 h L id=none):B7 h j id=none:=by
 unfold B7 at a⊢
 cases h1:(j8 h).findSome? (kH (fl h.it) L id) with
 | some e=>rw[h1] at a;cases a
 | none=>
  rw[h1] at a
  have f:(j8 h).findSome? (kH (fl h.it) j id)=none:=Dp λx b=>by
   have c:=List.findSome?_eq_none_iff.1 h1 x b;unfold kH at c⊢
   simp_all
  rw[f]
  simp_all
theorem Ul{x:gf}{l t:List Int}(g:∀y∈t,y∈l):∀{its:List dr},(∀i∈its,i.id∈l->i.id∉t->0<=BN i x.r)->CO its x t<=CO its x l
 | [],_=>Int.le_refl _
 | a::its,h=>by
  have f:=Ul g (its:=its) λi j=>h i (kx _ j);have k:=h a (k8 ..);unfold CO at f⊢;rw[lg,lg]
  by_cases b:a.id∈t
  .rw[ϱ (Υ b),ϱ (Υ (g _ b))];simp only[k7,lW];omega
  .rw[υ (by simpa using b)]
   by_cases c:a.id∈l
   .rw[ϱ (Υ c)];have:=k c b;simp only[k7,lW];omega
   .rw[υ (by simpa using c)];exact f
theorem fV{p:iB}(U:Ad p=0){l t:List Int}(F:D0 p t)(J:∀y∈t,y∈l){e:I1}(r:ES p l=some e):e.id∉t:=λg=>by
 unfold ES at r
 split at r
 .rename_i X k
  injection r with r;subst r
  obtain ⟨id,O,f⟩:=s6 k;have o:=SN f;rw[o] at g;rw[Xp J (F.1 id g)] at f;cases f
 .obtain ⟨x,I,f⟩:=s6 r;have D:=(qn p).mem_iff.1 I;unfold Ih at f
  split at f
  .rename_i W
   obtain ⟨a,T,rfl⟩:=Option.map_eq_some_iff.1 f;dsimp only at g;obtain ⟨S,u,v,E,L⟩:=List.find?_eq_some_iff_append.1 T
   have s:iC (fl p.it) x.r=v.reverse++a::u.reverse:=by
    have:=jr List.reverse E;rw[List.reverse_reverse,List.reverse_append,List.reverse_cons,lm] at this;exact this
   have C:(iC (fl p.it) x.r).Nodup:=by
    have k:((fl p.it).map dr.id).Nodup:=((KI p.it).map dr.id).nodup_iff.2 (Xy (HZ U).2.1);unfold iC;exact k.sublist ((lp).map dr.id)
   have G:a∉v.reverse:=λM=>by
    rw[s,mc] at C;exact C.2.2 _ M _ (k8 ..) rfl
   have h:=F.1 a g
   have B:∀b∈v.reverse,b∈t:=λb R=>by
    unfold B7 at h
    cases k:(j8 p).findSome? (kH (fl p.it) t a) with
    | some e=>rw[k] at h;cases h
    | none=>
     have o:=List.findSome?_eq_none_iff.1 k x I;unfold kH at o;rw[ϱ (by rw[s];simp)] at o;have A:v.reverse.length<(iC (fl p.it) x.r).length:=by rw[s,Δ];simp
     have w:(iC (fl p.it) x.r).take v.reverse.length=v.reverse:=by rw[s,List.take_left'];rfl
     have H:(iC (fl p.it) x.r)[v.reverse.length]=a:=by
      have:(iC (fl p.it) x.r)[v.reverse.length]? =some a:=by
       rw[s,rC (Θ _),Nat.sub_self];rfl
      rw[ω A] at this;exact Option.some.inj this
     rw[Nz A (λc K=>by rw[w] at K;exact Υ λe=>G (e▸K)) (by rw[H];simp),w] at o
     have V:v.reverse.find? (λa=>decide (a∉t))=none:=by
      cases hf:v.reverse.find? (λa=>decide (a∉t)) with
      | none=>rfl
      | some c=>rw[hf] at o;cases o
     have:=List.find?_eq_none.1 V b R
     simpa using this
   have N:=Ul (x:=x) J (its:=p.it) λi Q k f=>Classical.byContradiction λz=>by
    have j:i.id∈iC (fl p.it) x.r:=Γ.2 ⟨i,Φ.2 ⟨(KI p.it).mem_iff.2 Q,by simpa using z⟩,Z⟩;rw[s] at j;rcases ν.1 j with j | j
    .exact f (B _ j)
    .rcases ju.1 j with j | j
     .rw[j] at f;exact f g
     .have:=L _ (List.mem_reverse.1 j)
      simp at this
      exact this k
   exact F.2 x D (by omega)
  .cases f
theorem bK(k:Ad h=0)(w:CY h)(u:D0 h L)(z:∀y∈L,y∈h.it.map dr.id):∀y∈L,y∈gg h:=by
 have a:=eX k w;have A:hY h=fl h.it:=ϱ k
 have o:∀(f:Nat) (b:Nat->Bool),(∀y∈L,y∈BU (fl h.it) b (fl h.it).length)->∀y∈L,y∈BU (fl h.it) (FG (j8 h) (fl h.it) f b).2 (fl h.it).length:=by
  intro f
  induction f with
  | zero=>intro b c;exact c
  | succ f r=>
   intro b c
   cases hne:Dl (iL (j8 h) (fl h.it) b) with
   | none=>rw[Kz hne];exact c
   | some e=>
    obtain ⟨i,v,_,j,s⟩:=oh a.s.i hne;rw[Kx hne,s];refine r (BD b i) λy l=>?_;have g:=fV k u c (by rw[So a];exact hne);rw[<-NO a.s.i b v,j];exact Φ.2 ⟨c y l,Υ λx=>g (x▸l)⟩
 grind[gg,JD,BU,HR,KI]
def jf(p:iB):List AW:=p.ro.map gf.r
def dR(rs:List AW)(i:dr):List (AW×Int):=(ea i).filter λd=>decide (d.1∈rs)
theorem iY(a:List AW)(i:dr):((dR a i).map Prod.fst).Nodup:=List.Nodup.sublist (List.Sublist.map _ lp) (cR i)
theorem Ea{b:Type}[DecidableEq u]{O:List (u×b)}{x:u}{v:b}(h:x∉O.map Prod.fst):B2 O x v=O++ [(x,v)]:=by
 induction O with
 | nil=>rfl
 | cons a l c=>
  grind[B2]
theorem Hk{x y:Au}:Bf (Bf M C x) C y=Bf M C y:=by grind[Fj,Gt]
theorem Rd{x:Au}(h:M C=some x):Bf M C x=M:=by grind[Fj,Gt]
theorem OM(a:X.Nodup)(b:A<X.length):X[A]∉X.take A:=by grind[nA]
abbrev WF:FuncId:=119
structure Jz (N:MF) (b:Nat) (l:List Int):Prop where
 ex:∃m,N b=some (.cells 137 [mD m])/\N m=some (.map none (Bi AE Aj (Aw l)))
abbrev Zt(b:Nat):D:= .fn WF [] [pD b 0]
theorem Gw(l:List Int)(j:l.Nodup)(v:l.length<=1000000):AO prog 66 [.d (.sl none (l.map AE))] [] λr t=>∃b N,r= .d (Zt b)/\t=[(41,[.multi N])]/\Jz N b l:=by
 refine Av func66 Z Z ntmps66 Z Z Z λF h=>(AD (AF (AB Z Z (AC ?_))));refine AD (II 41 Z Z Z (AF (V (SV 1 Z Z Z Z) (R7 6 1 41 h Z Z Z Z Z Z Z Z Z Z (λ_=>rfl) λm u=>(OJ 41 m Z (Fj _ _ _) Z (V (CF 2 rL Z Z Z Z) (V (Bc Z Z Z Z Z Z Z rT) (AC ?_))))))));refine AD (AD (AF (cl Z Z (J (BW Z E0 Z) (cl Z Z (AC (AX (BC (α:=Nat×MF) (λq=>⟨17,[(3,(.ptr 2 0 0)),(7,(.d (.sl none (l.map AE)))),(8,(.d (AE (l.length:Int)))),(9,(.d (AE (q.1:Int))))],[(2,[.blk 137 [.d (mD m)]]),(41,[.multi q.2])]⟩) (λq=>q.1<=l.length/\q.2 m=some (.map none (Bi AE Aj (Aw (l.take q.1))))) (λq=>l.length-q.1) ((0,_)) (⟨κ _,Fj _ _ _⟩) (AR h [2,41] Z Z ⟨Z,Z,Z,Z,trivial⟩) ?_))))))));rintro ⟨k,N⟩ ⟨o,g⟩;dsimp only at o g⊢;refine AD (AF (J (At Z Z Z) (AC (AD (A4 Z (λc=>?_) (λc=>?_))))))
 .refine AU (AD (AX (AD ?_)));have a:k<l.length:=BG c;refine AF (J (Al (k) Z Z (Z) (AP a) E0 Z BE Z) (J (BZ Z Z Ag Z) (AB Z Z (AC ?_))));refine AF (J (AQ Z Z Z Uq Z) (cl Z Z (V (UO (f:=41) (Aw (l.take k)) l[k] true Z Z g Z FU I2 Z Z) (AC (AF (J (Ac Z Z (AJ (k+1) (by omega)) Z) (cl Z Z (AC ?_))))))));exact ⟨(k+1,_),⟨a,by show Bf _ _ _ _=_;rw[Fj,ψ a,jU (OM j a)]⟩,by show l.length-(k+1)<l.length-k;omega,AR h [2,41] Z (Z) ⟨Z,Z,Z,Z,trivial⟩⟩
 .refine Aq (AD ?_);have i:k=l.length:=by have:=c;omega
  rw[i,kW] at g;refine cS (ds:=[mD m]) 3 2 41 h Z Z Z Z Z Z Z Z Z Z Z (λ_=>rfl) λb s=>(AF (J (W0 (ds:=[]) (es:=[pD b 0]) Z Z Z Z Z) (AB Z Z (AC (A5 ?_)))));exact ⟨_,[41],_,A2 Z,Z,Z,b,_,Z,Z,⟨m,Fj _ _ _,by rw[Gt (λe=>by rw[e,s] at g;cases g)];exact g⟩⟩
theorem JW{N:MF}(h:Jz N C j)(id:Int):AO prog WF [.d (AE id),.d (pD C 0)] [(41,[.multi N])] λr g=>r= .d (Aj (decide (id∈j)))/\g=[(41,[.multi N])]:=by
 obtain ⟨m,c,a⟩:=h;refine Av func119 Z Z ntmps119 Z Z Z λF i=>(AD (AF (AB Z Z ?_)));refine AC (AD (AF (J (Eh (f:=41) Z Z c Z Uq Z) (cl Z Z (J (UQ (f:=41) (Aw j) id false _ Z Z a Z FU I2 W4 (Zh j id) Z) (AB Z Z (AC (A5 ?_))))))));exact ⟨_,[41],_,A2 Z,Z,Z,Z,Z⟩
theorem bq(p:iB)(l:List Int)(c:FE p)(b:l.length<=100000)(a:p.it.length<=1000):AI prog 64 [.d (BM p),.d (.sl none (l.map AE))] (AE (EZ p l)):=by
 refine Av func64 Z Z ntmps64 Z Z Z λF f=>(AD (AF (V (Ba 1 Z Z Z Z Z Z Z) (AB Z Z ?_))));refine AC (AD (AF (J (Ar Z Z CG Z Z Z) (cl Z Z (J (Ak (cr p l c b a) Z Z) (cl Z Z (J (DI Z Z Z) (J (DI Z Z Z) ?_))))))));refine AB Z Z (AB Z Z (AC (AD (AF (cl Z Z (AB Z Z (AC (A5 ?_))))))));exact ⟨_,[],[],A2 Z,Z,Z,Z,Z⟩
abbrev D1(e:dr×Nat):D:= .agg [AE e.1.id,AE e.1.pr,AE e.1.sq,.sl none (e.1.po.map B9),.sl none (e.1.pa.map Co),.sl none (e.1.af.map AE),mD e.2]
abbrev Nr(m:List (AW×Int)):List (D×D):=Bi Bn AE m
def YD(rs:List AW)(M:MF)(E:List (dr×Nat)):Prop:=∀e∈E,M e.2=some (.map none (Nr (dR rs e.1)))
theorem YD.add(h:YD o M E)(a:M C=none):YD o (Bf M C (.map none (Nr (dR o W)))) (E++ [(W,C)]):=by grind[YD,Bf]
def dK(rs:List AW)(i:dr)(j:Nat):List (AW×Int):=((ea i).take j).filter λd=>decide (d.1∈rs)
theorem u4(a:List AW)(i:dr):dK a i (ea i).length=dR a i:=by unfold dK dR;rw[kW]
theorem u3(g:A<(ea W).length)(h:((ea W)[A]).1∈o):B2 (dK o W A) ((ea W)[A]).1 ((ea W)[A]).2=dK o W (A+1):=by
 have f:=cR W
 have k:((ea W)[A]).1∉(dK o W A).map Prod.fst:=λa=>by
  obtain ⟨d,b,e⟩:=Γ.1 a;have c:d∈(ea W).take A:=(Φ.1 b).1;have l:((ea W)[A]).1∈((ea W).map Prod.fst).take A:=by rw[<-List.map_take,<-e];exact mo c
  grind[OM]
 grind[Ea,dK,ψ]
theorem pu(a:A<(ea W).length)(h:((ea W)[A]).1∉o):dK o W (A+1)=dK o W A:=by
 unfold dK;rw[ψ a,mB]
 simp[h]
def Vl(a b:dr):Int:=if E8 a b<0 then -1 else 1
theorem Vk{b:dr}:Vl Y b<0↔E8 Y b<0:=by grind[Vl]
theorem iI:Go.Sort.SWO (ltOf Vl):=by
 have e:ltOf Vl=ltOf E8:=by
  funext a b
  exact decide_eq_decide.2 Vk
 rw[e];exact EO.swo
theorem Xd(a b:dr):AI prog 116 [.d (Ah a),.d (Ah b)] (AE (Vl a b)):=by
 refine Av func116 Z Z ntmps116 Z Z Z λF f=>(AD (AF (V (Ba 1 Z Z Z Z Z Z Z) (V (Ba 2 Z Z Z Z Z Z Z) (AB Z Z ?_)))));refine AC (AD (AD (AF (J (Ar Z Z Cc Z Z Z) (J (Ar Z Z Cc Z Z Z) (J (Ak (jA a b) Z Z) (AC (A4 Z (λc=>?_) (λc=>?_)))))))))
 .refine AD (AF (AB Z Z (AC (A5 ?_))));exact ⟨_,[],[],A2 Z,Z,Z,Ae (by unfold Vl;rw[ϱ c]),Z⟩
 .refine AU (AD (AF (AB Z Z (AC (A5 ?_)))));exact ⟨_,[],[],A2 Z,Z,Z,Ae (by unfold Vl;rw[υ c]),Z⟩
theorem bk(l:List dr)(c:l.length<=1000000):AO prog 114 [.d (.sl none (l.map Ah))] [] λr b=>r= .own 20 0 l.length/\b=[(20,[.rowD 55 6 (l.map Ah)])]:=by
 refine Av func114 Z Z ntmps114 Z Z Z λF f=>(AD (AF (AB Z Z ?_)));skip;refine AC (AD (AD (AF (cl Z Z (GE 3 Z (λa=>?_) ?_)))))
 .refine J (Em Qs Z Z) (AC (CM Z (Z) (AD (AF (AB Z Z (Yq 2 20 QZ Z Z Z Z (AC (A5 ?_))))))));exact ⟨_,[20],_,A2 Z,Z,Z,by rw[List.map_eq_nil_iff.1 a];rfl,by rw[List.map_eq_nil_iff.1 a];rfl⟩
 .refine J (Em Qs Z Z) ?_;refine AC (Cr Z (Z) (AU (AD (AF (V (CB 20 QZ Z Z Z Z Z Z Z Z) (cl Z Z (V (JR (([]:List dr)) (l) Z Z Z Z Z Z (λ_=>rfl) QZ (by simp only[lX];omega) Z Z Z Z) (AB Z Z ?_))))))));skip;refine AC (A5 ?_);exact ⟨_,[20],_,A2 Z,Z,Z,by simp,Z⟩
theorem tD(a:(jf h).Nodup)(b:t<h.ro.length):B2 (Aw ((jf h).take t)) h.ro[t].r true=Aw ((jf h).take (t+1)):=by grind[jf,jU,OM,ψ]
theorem Rx(p:iB)(hE:Ad p=0)(hf:CY p)(g:FuncId)(o:List D)(N:MF)(I:Int->Bool)(hq:∀id,AO prog g (.d (AE id)::dL o) [(41,[.multi N])] λr H'=>r= .d (Aj (I id))/\H'=[(41,[.multi N])]):
  AO prog 65 [.d (BM p),.d (.fn g [] o)] [(41,[.multi N])] λr H'=>∃E M,r= .d (.sl none (E.map D1))/\H'=[(41,[.multi N]),(40,[.multi M])]/\YD (jf p) M E/\E.map Prod.fst=(hY p).filter λi=>I i.id:=by
 have hO:hY p=fl p.it:=ϱ hE;rw[hO]
 obtain ⟨c,s⟩:∃c,fl p.it=c:=⟨_,Z⟩
 have Y:c.length=p.it.length:=by rw[<-s];exact O2 p.it
 have K:∀i∈c,i∈p.it:=λi hi=>by rw[<-s] at hi;exact (KI p.it).mem_iff.1 hi
 have hi30:=hf.i;have T:=hf.r;have R:(jf p).Nodup:=Da hE;have S:(jf p).length=p.ro.length:=χ _;have Q:=Iv (HZ hE).2.1;rw[s];refine Av func65 Z Z ntmps65 Z Z Z λF w=>(AD (AF ?_));refine V (Ba 1 Z Z Z Z Z Z Z) (AB Z Z (AC (AD (AF (V (SV 50 Z Z Z Z) (AB Z Z (AC (AD ?_))))))));refine AD (AF (J (AL Z Gm Z Z Z) (J (AQ Z Z Z Uo Z) (J (BW Z b0 Z) (cl Z Z (AC (AX (BC (α:=Nat) (λk=>⟨76,[(1,.d (.fn g [] o)),(2,(.ptr 1 0 0)),(5,(.map 50 0)),(19,(.d (.sl none (p.ro.map BT)))),(20,(.d (AE (p.ro.length:Int)))),(21,(.d (AE (k:Int))))],[(1,[.blk 39 [.d (.sl none (p.ro.map BT)),.d (.sl none (p.it.map Ah))]]),(50,[B6 Bn Aj (Aw ((jf p).take k))]),(41,[.multi N])]⟩) (λk=>k<=p.ro.length) (λk=>p.ro.length-k) (0) (κ _) (AR w [1,50,41] Z Z ⟨Z,Z,Z,Z,Z,Z,trivial⟩) ?_))))))));rintro k hk;refine AD (AF (J (At Z Z Z) (AC (AD (A4 Z (λH=>?_) (λH=>?_))))))
 .refine AU (AD (AX (AD ?_)));have l:k<p.ro.length:=BG H;refine AF (J (Al (k) Z Z (Z) (AP l) b0 Z QY Z) ?_);refine J (CT Z Z dm Z) (V (CF 2 Tu Z Z Z Z) (V (Bc Z Z Z Z Z Z Z QY) (AC (AF (cl Z Z (J (AL Z GK Z Z Z) (J (Ar Z Z Cw Z Z Z) (V (Wa (Aw ((jf p).take k)) (p.ro[k].r) (true) Z Z Z Yy Ck Z Z) ?_))))))));rw[tD R l];refine AC (AF (J (Ac Z Z (AJ (k+1) (by omega)) Z) (cl Z Z (AC ?_))));exact ⟨k+1,l,by omega,AR w [1,50,41] Z (Z) ⟨Z,Z,Z,Z,Z,Z,trivial⟩⟩
 .refine Aq (AD ?_);have z:k=p.ro.length:=by have:=H;omega
  rw[z,<-S,kW];refine AF (AB Z Z (AC (AD (AF (J (AL Z FO Z Z Z) (J (AQ Z Z Z Md Z) (V (F8 (bk p.it (by omega)) Z [20] ⟨Z,trivial⟩ Z Z Z Z Z Z Z Z Z) (AB Z Z ?_))))))));refine AC (AD (AF (cl Z Z (V (OB sE (k:=6) (by decide) isAgg55 sizeOf55 func116 Z Z VV Vl iI p.it c (by omega) (λx _ y _=>Xd x y) (λys g1 g2=>by rw[<-s];exact Sl Q g1 (g2.imp λ{a b} h h2=>h (Vk.2 h2))) Z Z Z My Z Z Z Z Z) (AC (AD (AD (Fi (emb:=Ah) 9 20 c Z Z Z Y.symm Z Z Z ?_))))))));refine II 40 Z Z Z (AF (cl Z Z (J (BW Z Qs Z) (cl Z Z (AC (AX (IY 8 30 dg Z Z Z Z (BC (α:=Nat×List (dr×Nat)×MF) (λq=>⟨76,[(1,.d (.fn g [] o)),(2,(.ptr 1 0 0)),(5,(.map 50 0)),(8,(.own 30 0 q.2.1.length)),(34,(.d (.sl none (c.map Ah)))),(35,(.d (AE (c.length:Int)))),(36,(.d (AE (q.1:Int))))],[(50,[B6 Bn Aj (Aw (jf p))]),(41,[.multi N]),(30,[.rowD 131 7 (q.2.1.map D1)]),(40,[.multi q.2.2])]⟩) (λq=>q.1<=c.length/\YD (jf p) q.2.2 q.2.1/\q.2.1.map Prod.fst=(c.take q.1).filter λi=>I i.id) (λq=>c.length-q.1) ((0,[],_)) (⟨κ _,(λe he=>by cases he),Z⟩) (AR w [50,41,30,40] Z Z ⟨Z,Z,Z,Z,Z,Z,Z,trivial⟩) ?_))))))));rintro ⟨k,E,M⟩ ⟨hk,O,t⟩;dsimp only at hk O t⊢;refine AD (AF (J (At Z Z Z) (AC (AD (A4 Z (λG=>?_) (λG=>?_))))))
  .refine AU (AD (AX (AD ?_)));have l:k<c.length:=BG G;have W:=K _ (ϑ l);have U:=hf.x _ W;have hEl:E.length<=30:=by have h1:(E.map Prod.fst).length<=c.length:=(by rw[t];exact jq (lB _ _) (by rw[θ];omega));rw[χ] at h1;omega
   refine AF (J (Al (k) Z Z (Z) (AP l) Qs Z DT Z) (J (CT Z Z Cc Z) (V (CF 2 Fk Z Z Z Z) (V (Bc Z Z Z Z Z Z Z DT) (AC (AD ?_))))));refine AD (AF (cl Z Z (J (AL Z QU Z Z Z) (J (AQ Z Z Z Ag Z) (V (cQ (hq c[k].id) Z [41] ⟨Z,trivial⟩ Z Z Z Z Z Z Z Z Z) (J (QV Z Z) (AC (Jo Z (λC=>?_) (λC=>?_)))))))))
   .have u:¬I c[k].id=true:=by simpa using C
    refine Aq (AF (J (Ac Z Z (AJ (k+1) (by omega)) Z) (cl Z Z (AC ?_))));exact ⟨(k+1,E,M),⟨l,O,by show _=(c.take (k+1)).filter _;rw[ψ l,mB,t,lg,υ u];simp⟩,by show c.length-(k+1)<c.length-k;omega,AR w [50,41,30,40] Z (Z) ⟨Z,Z,Z,Z,Z,Z,Z,trivial⟩⟩
   .have u:I c[k].id=true:=by simpa using C
    refine AU (AD (AF (J (Ar Z Z Cc Z Z Z) (V (SV 51 Z Z Z Z) (R7 46 51 40 w Z Z Z Z Z Z Z Z Z Z (λ_=>rfl) λL hb=>(OJ 40 L Z (Fj _ _ _) Z ?_))))));rw[Hk];refine J (Dx O5 wN Z Z Z) (V (CF 3 O5 Z Z Z Z) (V (Bc Z Z Z Z Z Z Z IL) (AC (AD ?_))));refine AF (J (Ar Z Z Cc Z Z Z) (J (Ak (Vr c[k] (by omega) (by omega) (by omega)) Z Z) (cl Z Z (J (DI Z Z Z) (J (DI Z Z Z) (AB Z Z (AB Z Z (AC ?_))))))));refine AD (AD (AF (cl Z Z (J (BW Z underlying215 Z) (cl Z Z (AC (AX (BC (α:=Nat) (λj=>⟨76,[(1,.d (.fn g [] o)),(2,(.ptr 1 0 0)),(5,(.map 50 0)),(8,(.own 30 0 E.length)),(12,(.ptr 3 0 0)),(34,(.d (.sl none (c.map Ah)))),(35,(.d (AE (c.length:Int)))),(36,(.d (AE (k:Int)))),(53,(.d (.sl none ((ea c[k]).map Qc)))),(54,(.d (AE ((ea c[k]).length:Int)))),(55,(.d (AE (j:Int))))],[(3,[.blk 131 [.d (AE c[k].id),.d (AE c[k].pr),.d (AE c[k].sq),.d (.sl none (c[k].po.map B9)),.d (.sl none (c[k].pa.map Co)),.d (.sl none (c[k].af.map AE)),.d (mD L)]]),(50,[B6 Bn Aj (Aw (jf p))]),(41,[.multi N]),(30,[.rowD 131 7 (E.map D1)]),(40,[.multi (Bf M L (.map none (Nr (dK (jf p) c[k] j))))])]⟩) (λj=>j<=(ea c[k]).length) (λj=>(ea c[k]).length-j) (0) (κ _) (AR w [3,50,41,30,40] Z Z ⟨Z,Z,Z,Z,Z,Z,Z,Z,Z,Z,Z,trivial⟩) ?_))))))));rintro j hj;refine AD (AF (J (At Z Z Z) (AC (AD (A4 Z (λB=>?_) (λB=>?_))))))
    .refine AU (AD (AX (AD ?_)));have hdl:=OX (x:=c[k]) U;have v:j<(ea c[k]).length:=BG B;refine AF (J (Al (j) Z Z (Z) (AP v) underlying215 Z YQ Z) (J (CT Z Z rf Z) (V (CF 4 c6 Z Z Z Z) (V (Bc Z Z Z Z Z Z Z YQ) ?_))));refine AC (AD (AF (cl Z Z (J (AL Z L9 Z Z Z) (J (Ar Z Z Cw Z Z Z) (J (I4 (Aw (jf p)) ((ea c[k])[j]).1 false _ Z Z Z Yy Ck W4 (Zh _ _) Z) (AC (A4 Z (λA=>?_) (λA=>?_)))))))))
     .refine AF (J (AL Z OU Z Z Z) (J (AQ Z Z Z Ym Z) (J (AL Z L9 Z Z Z) (J (Ar Z Z Cw Z Z Z) (J (AL Z ZS Z Z Z) (J (AQ Z Z Z FK Z) (V (UO (f:=40) (dK (jf p) c[k] j) ((ea c[k])[j]).1 ((ea c[k])[j]).2 Z Z (Fj _ _ _) Z C6 Ck Z Z) ?_)))))));rw[Hk,u3 v A];refine AC (AF (J (Ac Z Z (AJ (j+1) (by omega)) Z) (cl Z Z (AC ?_))));exact ⟨j+1,v,by omega,AR w [3,50,41,30,40] Z (Z) ⟨Z,Z,Z,Z,Z,Z,Z,Z,Z,Z,Z,trivial⟩⟩
     .refine AU (AF (J (Ac Z Z (AJ (j+1) (by omega)) Z) (cl Z Z (AC ?_))));exact ⟨j+1,v,by omega,AR w [3,50,41,30,40] Z (by simp only[pu v A];rfl) ⟨Z,Z,Z,Z,Z,Z,Z,Z,Z,Z,Z,trivial⟩⟩
    .refine Aq ?_;have X:j=(ea c[k]).length:=by have:=B;omega
     rw[X,u4];refine AF (cl Z Z ?_);refine J (Ar Z Z NS Z Z Z) (V (CB 31 dg Z Z Z Z Z Z Z Z) (V (DQ (E) ([(c[k],L)]) Z Z Z Z Z Z Z Z dg (by simp only[η];omega) Z Z Z Z) (AB Z Z (AC (AF (J (Ac Z Z (AJ (k+1) (by omega)) Z) (cl Z Z (AC ?_))))))));exact ⟨(k+1,E++ [(c[k],L)],_),⟨l,O.add hb,by show _=(c.take (k+1)).filter _;rw[ψ l,mB,kA,t,lg,ϱ u];rfl⟩,by show c.length-(k+1)<c.length-k;omega,AR w [50,41,30,40] Z (Z) ⟨Z,Z,Z,Z,Z,Z,Z,trivial⟩⟩
  .refine Aq (AD ?_);have z:k=c.length:=by have:=G;omega
   rw[z,kW] at t;refine Fi (emb:=D1) 8 30 E Z Z Z Z Z Z Z (AF (cl Z Z (AB Z Z (AC (A5 ?_)))));exact ⟨_,[41,40],_,A2 Z,Z,Z,E,M,Z,Z,O,t⟩
abbrev AY(n:Nat):D:=AE (n:Int)
abbrev j0(l:List Nat):D:= .sl none (l.map AY)
theorem Pe(h:t<s.length):(s.map AY)[t]? =some (AY (hU s t)):=by rw[AP h,Qf h]
theorem eqv{a b:D}(h:a=b):AV.d a=AV.d b:=by rw[h]
theorem x6{j:List Nat}{a:Nat}(f:a<s.length)(c:C<s.length):((s++j).set a (hU s C)).set C (hU s a)=NR s a C++j:=by
 rw[List.set_append_left _ _ f,List.set_append_left _ _ (by simpa using c)];rfl
theorem rP(l j:List Nat){x:Nat}:((l++j).map AY).take l.length++ [AY x].take 1=(l++ [x]).map AY:=by
 rw[<-List.map_take,List.take_left];simp
theorem xm{j:List Nat}(h:0<s.length):s.take (s.length-1)++([hU s (s.length-1)]++j)=s++j:=by grind[nA,mR,Qf]
theorem xk(j:Nat):Int.tdiv ((j:Int)-1) 2=(((j-1) / 2:Nat):Int):=by grind
theorem AO.top{P:Program}{f:FuncId}{a:List AV}{k j:Hp}(h:AO P f a k λr c=>(∃b:Bool,r= .d (Aj b))/\c=j):AO P f a k λr c=>r= .top/\c=j:=
 ⟨h.1,λF l o y x i w u t=>(h.2 F l o y x i w u t).mono λe B ⟨v,r,c,g,A,⟨_,z⟩,_,s⟩=>⟨v,.top,c,g,A,⟨Z,z⟩,.top,s⟩⟩
theorem yJ{p q:Prop}[Decidable p][Decidable q](h:p↔q):AV.d (Aj (decide p))=AV.d (Aj (decide q)):=by rw[decide_eq_decide.2 h]
theorem wB:F1 prog 3=true:=by kernel_rfl
theorem eY:F1 prog 321=true:=by kernel_rfl
theorem w7:Kl prog 321 "Len" 223:=λb w=>by kernel_rfl
theorem fx:Kl prog 321 "Less" 296:=λb w=>by kernel_rfl
theorem fw:Kl prog 321 "Swap" 299:=λb w=>by kernel_rfl
theorem w6:Kl prog 321 "Push" 298:=λb w=>by kernel_rfl
theorem xz:Kl prog 321 "Pop" 297:=λb w=>by kernel_rfl
abbrev Nb(g:List (List Nat)):D:= .sl none (g.map j0)
structure GB (g:List (List Nat)):Prop where
 n:g.length<=65536
 e:∀l∈g,l.length<=1048576
 lt:∀l∈g,∀x∈l,x<g.length
theorem Fs(h:i<g.length):gs g i=g[i]:=by simp[gs,h]
theorem ba(h:i<g.length):(g.map j0)[i]? =some (j0 (gs g i)):=by rw[AP h,Fs h]
theorem GB.len(h:GB g){i:Nat}(a:i<g.length):(gs g i).length<=1048576:=by rw[Fs a];exact h.e _ (ϑ a)
theorem GB.suc(h:GB g){x:Nat}(b:i<g.length)(a:x∈gs g i):x<g.length:=by rw[Fs b] at a;exact h.lt _ (ϑ b) x a
def T5(g:List (List Nat))(i j:Nat):Nat:=((List.range i).map λa=>(gs g a).count j).sum
theorem SF(g:List (List Nat))(i j:Nat):T5 g (i+1) j=T5 g i j+(gs g i).count j:=by
 unfold T5;rw[ki,kA,mj];simp
theorem Z3{g:List (List Nat)}(h:GB g)(j:Nat):∀i,i<=g.length->T5 g i j<=i*1048576
 | 0,_=>by simp[T5]
 | i+1,b=>by
  have:=Z3 h j i (by omega);have:=List.count_le_length (a:=j) (l:=gs g i);have:=h.len (i:=i) (by omega);rw[SF];omega
theorem i6(g:List (List Nat))(j:Nat):T5 g g.length j=NB g [] j:=by
 unfold T5 NB
 congr 1
theorem Wi(h:t<s.length)(j:Nat):(s.take (t+1)).count j=(s.take t).count j+if hU s t=j then 1 else 0:=by grind[ψ,Qf]
theorem iS(h:t<s.length):s.drop t=hU s t::s.drop (t+1):=by rw[Qf h];exact mR h
theorem vv(n:Nat):List.replicate n (D.raw (.int .i64 0))=(List.replicate n 0).map AY:=by rw[List.map_replicate];rfl
theorem og(n k:Nat):hU (List.replicate n 0) k=0:=by
 unfold hU;rw[Ψ,List.getElem?_replicate];split<;>rfl
theorem uQ{y v:Nat}(h:y<w.length):((w.set y v).map AY)[y]? =some (AY v):=by grind
theorem pt(h:GB g)(done:List Nat)(j:Nat):NB g done j<=g.length*1048576:=by
 have b:∀n,n<=g.length->((List.range n).map λi=>if i∈done then 0 else (gs g i).count j).sum<=n*1048576:=by
  intro n
  induction n with
  | zero=>intro _;exact κ _
  | succ n c=>
   intro s;have r:=c (by omega);have o:=List.count_le_length (a:=j) (l:=gs g n);have k:=h.len (i:=n) (by omega)
   have f:(if n∈done then 0 else (gs g n).count j)<=1048576:=by
    by_cases e:n∈done
    .rw[ϱ e];exact κ _
    .rw[υ e];exact jq o k
   rw[ki,kA,mj,List.map_singleton,List.sum_singleton,Nat.succ_mul];exact Nat.add_le_add r f
 exact b _ (Θ _)
theorem tQ{q b:List Nat}{y:Nat}(c:GB g)(h:OI g K w q I (y::b))(f:y<g.length)(j:b.length<=1048576):hU w y<=69000000000:=by
 have o:=pt c I y;have k:=c.n;have i:=List.count_le_length (a:=y) (l:=y::b);rw[h.deg y f];rw[mN] at i;omega
theorem tR{q:List Nat}{x:Nat}(h:OI g K w q I ((gs g x).drop t))(e:t=(gs g x).length):OI g K w q I []:=by
 rw[e,List.drop_length] at h;exact h
noncomputable def kr(g:List (List Nat))(K:Nat->Nat):List Nat:=Classical.epsilon λout=>SX g K out/\∀y,¬D2 g out y
theorem o6(i:∀a b,a<g.length->b<g.length->K a=K b->a=b)(f:SX g K I)(c:∀y,¬D2 g I y):kr g K=I:=by
 have h:SX g K (kr g K)/\∀y,¬D2 g (kr g K) y:=Classical.epsilon_spec (p:=λI=>SX g K I/\∀y,¬D2 g I y) ⟨I,f,c⟩;exact gk i h.1 f h.2 c
structure FI (K:Nat->Nat) (w:List Nat) (i:Nat) (l:List Nat):Prop where
 nd:l.Nodup
 mem:∀x,x∈l↔x<i/\hU w x=0
 hp:JU K l
theorem FI.le(h:FI K w i s):s.length<=i:=by
 have:=cU h.nd (m:=List.range i) λx a=>Ω.2 ((h.mem x).1 a).1
 grind
theorem pL(K:Nat->Nat)(w:List Nat):FI K w 0 []:=⟨.nil,λx=>by simp,λi b a=>by simp at a⟩
theorem pN(h:FI K w i s)(c:hU w i=0):FI K w (i+1) (N8 K s i):=by
 have a:=P9 K s i;refine ⟨a.nodup_iff.2 (nE.2 ⟨λb=>mq _ ((h.mem i).1 b).1,h.nd⟩),λx=>?_,Pa h.hp i⟩;rw[a.mem_iff,ju,h.mem]
 grind
theorem pM(h:FI K w i s)(a:hU w i≠0):FI K w (i+1) s:=by
 refine ⟨h.nd,λx=>?_,h.hp⟩;rw[h.mem]
 grind
structure CW (g:List (List Nat)) (i k:Nat) (w:List Nat):Prop where
 len:w.length=g.length
 val:∀j,j<g.length->hU w j=T5 g i j+((gs g i).take k).count j
theorem pv(g:List (List Nat)):CW g 0 0 (List.replicate g.length 0):=⟨by simp,λj _=>by rw[og];simp[T5]⟩
theorem pw(c:GB g)(h:CW g i t w)(s:i<g.length)(o:t<(gs g i).length):
  hU (gs g i) t<w.length/\hU w (hU (gs g i) t)<=100000000000/\CW g i (t+1) (w.set (hU (gs g i) t) (hU w (hU (gs g i) t)+1)):=by
 have f:hU (gs g i) t<g.length:=c.suc s (EQ o);have b:hU (gs g i) t<w.length:=by rw[h.len];exact f
 refine ⟨b,?_,⟨by simpa using h.len,λj r=>?_⟩⟩
 .rw[h.val _ f];have:=Z3 c (hU (gs g i) t) i (by omega);have:=List.count_le_length (a:=hU (gs g i) t) (l:=(gs g i).take t);rw[θ] at this;have:=c.len s;have:=c.n;omega
 .rw[LL b,Wi o]
  by_cases e:hU (gs g i) t=j
  .rw[ϱ e.symm,ϱ e,e,h.val j r];omega
  .rw[υ λu=>e u.symm,υ e,h.val j r];omega
theorem u5(h:CW g i (gs g i).length w):CW g (i+1) 0 w:=⟨h.len,λj a=>by rw[h.val j a,kW,SF];simp⟩
theorem u6(h:CW g g.length 0 w):w.length=g.length/\∀j,j<g.length->hU w j=NB g [] j:=
 ⟨h.len,λj a=>by rw[h.val j a,i6];simp⟩
def YA(rs:List AW)(a b:dr):Prop:=(∃d∈dR rs a,d.2<0/\0<Af (dR rs b) d.1 0)\/b.id∈a.af
noncomputable instance (rs:List AW) (a b:dr):Decidable (YA rs a b):=Classical.propDecidable _
theorem J5{b a:List u}{x:List u}{y:u}{c:List u}(h:(b++x).Perm c)(f:x.Perm (y::a)):((b++ [y])++a).Perm c:=by
 refine List.Perm.trans ?_ h;rw[lm];exact (List.Perm.append_left b f).symm
theorem gE{a:Type}{m:List (u×a)}{x:u×a}(h:m[A]? =some x):x∈m:=ϖ h
theorem nY(a b:dr×Nat)(H:M a.2=some (.map none (Nr (dR o a.1))))(w:M b.2=some (.map none (Nr (dR o b.1))))(R:a.1.af.length<=100000):
  AO prog 132 [.d (D1 a),.d (D1 b)] [(40,[.multi M])] λr H'=>r= .d (Aj (decide (YA o a.1 b.1)))/\H'=[(40,[.multi M])]:=by
 obtain ⟨a,l⟩:=a;obtain ⟨b,O⟩:=b;dsimp only at H w R⊢
 obtain ⟨L,T⟩:∃L,dR o a=L:=⟨_,Z⟩
 have I:YA o a b↔((∃d∈L,d.2<0/\0<Af (dR o b) d.1 0)\/b.id∈a.af):=by rw[<-T];exact Iff.rfl
 rw[T] at H;refine Av func132 Z Z ntmps132 Z Z Z λF S=>(AD (SQ 40 l Z H (λ_ _=>rfl) λB c Y X=>?_))
 obtain ⟨C,s⟩:∃C,Bf M l (.map (some (B,c)) (Nr L))=C:=⟨_,Z⟩
 rw[s];have i:C l=some (.map (some (B,c)) (Nr L)):=by rw[<-s,Fj]
 have z:∃bs,C O=some (.map bs (Nr (dR o b))):=by
  by_cases e:O=l
  .subst e;rw[H] at w;injection w with w;injection w with _ w;exact ⟨_,by rw[i,w]⟩
  .exact ⟨none,by rw[<-s,Gt e];exact w⟩
 obtain ⟨bsb,z⟩:=z;have j:Bf C l (.map none (Nr L))=M:=by rw[<-s,Hk];exact Rd H
 refine AF (V (Ba 20 Z Z Z Z Z Z Z) (V (Ba 21 Z Z Z Z Z Z Z) (AB Z Z (AC ?_))));refine AD (AD (AF (J (AL Z OU Z Z Z) (J (AQ Z Z Z Ym Z) (V (Qr 22 (f:=40) Z Z (i) Z C6 Z Z Z Z) (AC (AX (BC (α:=List Nat×List (AW×Int)) (λq=>⟨31,[(2,(.ptr 20 0 0)),(3,(.ptr 21 0 0)),(9,(.ptr 22 0 0))],[(20,[.blk 131 [.d (AE a.id),.d (AE a.pr),.d (AE a.sq),.d (.sl none (a.po.map B9)),.d (.sl none (a.pa.map Co)),.d (.sl none (a.af.map AE)),.d (mD l)]]),(21,[.blk 131 [.d (AE b.id),.d (AE b.pr),.d (AE b.sq),.d (.sl none (b.po.map B9)),.d (.sl none (b.pa.map Co)),.d (.sl none (b.af.map AE)),.d (mD O)]]),(22,[.iter 40 l c q.1]),(40,[.multi C])]⟩) (λq=>(q.2++CX L B q.1).Perm L/\∀d∈q.2,¬(d.2<0/\0<Af (dR o b) d.1 0)) (λq=>(CX L B q.1).length) (([],[])) (⟨by show ([]++CX L B []).Perm L;rw[Dn (by simpa [Bi] using Y)];exact List.Perm.refl _,(λd y=>by cases y)⟩) (AR S [20,21,22,40] Z Z ⟨Z,Z,Z,trivial⟩) ?_))))))));rintro ⟨seen,A⟩ ⟨K,N⟩;dsimp only at K N⊢;refine AD (AF (Yo (L) Z Z Z (i) Z (λE=>?_) (λQ k x D v G U g=>⟨_,Z,?_⟩)))
 .rw[E] at K;refine OJ 40 l Z i Z ?_;rw[j];refine J (D6 Z Z Z) (AC (AD (Cr Z Z (Aq (AD (AF (J (AL Z Jk Z Z Z) ?_)))))));refine J (AL Z GL Z Z Z) (J (AQ Z Z Z BJ Z) (J (AL Z Jk Z Z Z) (J (AL Z QU Z Z Z) (J (AQ Z Z Z Ag Z) (J (Ak (Pw a.af b.id (by omega)) Z Z) (AB Z Z (AC (A5 ?_))))))));exact ⟨_,[40],_,A2 Z,Z,Z,by rw[decide_eq_decide.2 (I.trans ⟨λh=>h.resolve_left λ⟨d,y,W⟩=>N d ((show A.Perm L by simpa using K).mem_iff.2 y) W,.inr⟩)],Z⟩
 .refine J (D6 Z Z Z) (AC (AD ?_));refine CM Z Z (AU (AX (AD (AF (J (Qv (L) Q k Z Z Z (i) v G Z) (J (D6 Z Z Z) (J (D6 Z Z Z) (V (CF 23 MI Z Z Z Z) ?_))))))));refine V (Bc Z Z Z Z Z Z Z dA) (AB Z Z (AC (AD (AF (cl Z Z (J (At Z Z Z) (cl Z Z (C5 17 Z (λu=>?_) (λu=>?_)))))))))
  .refine AT Z Z Z (J (AL Z OU Z Z Z) (AT Z Z Z (J (AQ Z Z Z Ym Z) ?_)));refine AT Z Z Z (J (Ar Z Z Cw Z Z Z) (AT Z Z Z (J (UQ (f:=40) (dR o b) x 0 _ Z Z z Z C6 Ck QQ Z Z) (AT Z Z Z (J (H1 Z Z Z) (J (B4 Z Z Z Z) (AC (A4 Z (λt=>?_) (λt=>?_)))))))))
   .refine AD (qj 40 l Z i Z ?_);rw[j];refine AF (AB Z Z (AC (A5 ?_)));exact ⟨_,[40],_,A2 Z,Z,Z,by rw[Υ (I.2 (.inl ⟨_,gE v,u,t⟩))],Z⟩
   .refine AU ?_;exact ⟨(seen++ [k],A++ [(x,D)]),⟨J5 K g,λd y=>(ν.1 y).elim (N d) λe=>by rw[ξ.1 e];first | exact λh=>u h.1 | exact λh=>t h.2⟩,by show (CX L B (seen++ [k])).length<(CX L B seen).length;rw[g.length_eq];exact mS _,AR S [20,21,22,40] Z (Z) ⟨Z,Z,Z,trivial⟩⟩
  .refine AN Z Z Z Z (AN Z Z Z Z (AN Z Z Z Z (AN Z Z Z Z (AN Z Z Z Z (J (Br Z Z Z Z) (AC (Cr Z Z (AU ?_))))))));exact ⟨(seen++ [k],A++ [(x,D)]),⟨J5 K g,λd y=>(ν.1 y).elim (N d) λe=>by rw[ξ.1 e];first | exact λh=>u h.1 | exact λh=>t h.2⟩,by show (CX L B (seen++ [k])).length<(CX L B seen).length;rw[g.length_eq];exact mS _,AR S [20,21,22,40] Z (Z) ⟨Z,Z,Z,trivial⟩⟩
def D4(E:List (dr×Nat))(k:Nat):dr:=(E.getD k (ey,0)).1
noncomputable def mA(rs:List AW)(E:List (dr×Nat))(a:dr)(k:Nat):List Nat:=(List.range k).filter λj=>decide (YA rs a (D4 E j))
noncomputable def lJ(rs:List AW)(E:List (dr×Nat)):List (List Nat):=E.map λe=>mA rs E e.1 E.length
theorem n4(h:YA o Y (D4 E t)):mA o E Y (t+1)=mA o E Y t++ [t]:=by
 unfold mA;rw[ki,mB];simp[h]
theorem ct(h:¬YA o Y (D4 E t)):mA o E Y (t+1)=mA o E Y t:=by
 unfold mA;rw[ki,mB];simp[h]
theorem YJ(b:List AW)(E:List (dr×Nat))(a:dr)(k:Nat):(mA b E a k).length<=k:=by grind[mA]
theorem DL(a:t<E.length):D4 E t=(E[t]).1:=by unfold D4;rw[Ψ,ω a];rfl
theorem F3(a:List AW)(E:List (dr×Nat)):(lJ a E).length=E.length:=χ _
theorem pH(E:List (dr×Nat))(x:YD o M E)(C:E.length<=1000)(w:∀e∈E,e.1.af.length<=100000):
  AO prog 77 [.d (.sl none (E.map D1))] [(40,[.multi M])] λr D=>r= .d (Nb (lJ o E))/\D=[(40,[.multi M])]:=by
 refine Av func77 Z Z ntmps77 Z Z Z λF l=>?_;refine AD (AF (AB Z Z (AC (AD (AF (AB Z Z (AC (AD ?_))))))));refine AD (AF (cl Z Z (J (BW Z T1 Z) (cl Z Z (AC (AX (IY 3 10 Y4 Z Z Z Z (BC (α:=Nat×List (List Nat)) (λq=>⟨36,[(0,.d (.sl none (E.map D1))),(3,(.own 10 0 q.2.length)),(9,(.d (.sl none (E.map D1)))),(10,(.d (AE (E.length:Int)))),(11,(.d (AE (q.1:Int))))],[(10,[.rowD 28 1 (q.2.map j0)]),(40,[.multi M])]⟩) (λq=>q.1<=E.length/\q.2=(lJ o E).take q.1) (λq=>E.length-q.1) ((0,[])) (⟨κ _,Z⟩) (AR l [10,40] Z Z ⟨Z,Z,Z,Z,Z,trivial⟩) ?_))))))));rintro ⟨i,G⟩ ⟨z,s⟩;dsimp only at z s⊢;refine AD (AF (J (At Z Z Z) (AC (AD (A4 Z (λg=>?_) (λg=>?_))))))
 .refine AU (AD (AX (AD ?_)));have b:i<E.length:=BG g;have B:G.length<=1000:=by rw[s,θ];omega
  have j:=ϑ b;refine AF (J (Al (i) Z Z (Z) (AP b) T1 Z IL Z) ?_);refine J (CT Z Z NS Z) (V (CF 21 O5 Z Z Z Z) (V (Bc Z Z Z Z Z Z Z IL) (AC (AD (AF (AB Z Z (AC (AD ?_))))))));refine AD (AF (cl Z Z (J (BW Z T1 Z) (cl Z Z (AC (AX (IY 6 11 Ap Z Z Z Z (BC (α:=Nat×List Nat) (λq=>⟨36,[(0,.d (.sl none (E.map D1))),(3,(.own 10 0 G.length)),(5,(.ptr 21 0 0)),(6,(.own 11 0 q.2.length)),(9,(.d (.sl none (E.map D1)))),(10,(.d (AE (E.length:Int)))),(11,(.d (AE (i:Int)))),(15,(.d (.sl none (E.map D1)))),(16,(.d (AE (E.length:Int)))),(17,(.d (AE (q.1:Int))))],[(21,[.blk 131 [.d (AE (E[i]).1.id),.d (AE (E[i]).1.pr),.d (AE (E[i]).1.sq),.d (.sl none ((E[i]).1.po.map B9)),.d (.sl none ((E[i]).1.pa.map Co)),.d (.sl none ((E[i]).1.af.map AE)),.d (mD (E[i]).2)]]),(11,[.rowD 3 1 (q.2.map AY)]),(10,[.rowD 28 1 (G.map j0)]),(40,[.multi M])]⟩) (λq=>q.1<=E.length/\q.2=mA o E (E[i]).1 q.1) (λq=>E.length-q.1) ((0,[])) (⟨κ _,Z⟩) (AR l [21,11,10,40] Z Z ⟨Z,Z,Z,Z,Z,Z,Z,Z,Z,Z,trivial⟩) ?_))))))));rintro ⟨k,T⟩ ⟨y,h⟩;dsimp only at y h⊢;refine AD (AF (J (At Z Z Z) (AC (AD (A4 Z (λf=>?_) (λf=>?_))))))
  .refine AU (AD (AX (AD ?_)));have a:k<E.length:=BG f;have A:T.length<=1000:=by have:=YJ o E (E[i]).1 k;rw[<-h] at this;omega
   have v:=ϑ a;refine AF (cl Z Z (J (Al (k) Z Z (Z) (AP a) T1 Z IL Z) (J (CT Z Z NS Z) (V (CF 22 O5 Z Z Z Z) (AB Z Z ?_)))));refine V (Bc Z Z Z Z Z Z Z IL) (AC (AD (AF (J (Ar Z Z NS Z Z Z) (J (Ar Z Z NS Z Z Z) (V (F8 (nY E[i] E[k] (x _ j) (x _ v) (w _ j)) Z [40] ⟨Z,trivial⟩ Z Z Z Z Z Z Z Z Z) (AC (A4 Z (λc=>?_) (λc=>?_)))))))))
   .refine AF (cl Z Z ?_);refine cl Z Z (V (CB 30 Ap Z Z Z Z Z Z Z Z) (V (DQ (T) ([k]) Z Z Z Z Z Z Z Z Ap (by simp only[η];omega) Z Z Z Z) (AB Z Z (AC (AF (J (Ac Z Z (AJ (k+1) (by omega)) Z) (cl Z Z (AC ?_))))))));exact ⟨(k+1,T++ [k]),⟨a,by show _=mA o E _ (k+1);rw[n4 (by rw[DL a];exact c),h]⟩,by show E.length-(k+1)<E.length-k;omega,AR l [21,11,10,40] Z (Z) ⟨Z,Z,Z,Z,Z,Z,Z,Z,Z,Z,trivial⟩⟩
   .refine AU (AF (J (Ac Z Z (AJ (k+1) (by omega)) Z) (cl Z Z (AC ?_))));exact ⟨(k+1,T),⟨a,by show _=mA o E _ (k+1);rw[ct (by rw[DL a];exact c),h]⟩,by show E.length-(k+1)<E.length-k;omega,AR l [21,11,10,40] Z (Z) ⟨Z,Z,Z,Z,Z,Z,Z,Z,Z,Z,trivial⟩⟩
  .refine Aq ?_;have t:k=E.length:=by have:=f;omega
   rw[t] at h;refine Fi (emb:=AY) 6 11 T Z Z Z Z Z Z Z ?_;rw[h];refine AF (cl Z Z ?_);refine cl Z Z (V (CB 31 Y4 Z Z Z Z Z Z Z Z) (V (DQ (G) ([mA o E (E[i]).1 E.length]) Z Z Z Z Z Z Z Z Y4 (by simp only[η];omega) Z Z Z Z) (AB Z Z (AC (AF (J (Ac Z Z (AJ (i+1) (by omega)) Z) (cl Z Z (AC ?_))))))));exact ⟨(i+1,G++ [mA o E (E[i]).1 E.length]),⟨b,by show _=(lJ o E).take (i+1);rw[s,ψ (by rw[F3];exact b)];congr 1;simp[lJ]⟩,by show E.length-(i+1)<E.length-i;omega,AR l [10,40] Z (Z) ⟨Z,Z,Z,Z,Z,trivial⟩⟩
 .refine Aq (AD ?_);have u:i=E.length:=by have:=g;omega
  refine Fi (emb:=j0) 3 10 G Z Z Z Z Z Z Z ?_;rw[s,u,ζ (by rw[F3];exact Θ _)];refine AF (cl Z Z (AB Z Z (AC (A5 ?_))));exact ⟨_,[40],_,A2 Z,Z,Z,Z,Z⟩
def An(E:List (dr×Nat))(l:List Nat):List Int:=l.map λk=>(D4 E k).id
theorem wk(E:List (dr×Nat))(l:List Nat)(r:∀k∈l,k<E.length)(o:l.length<=1000000):AI prog 78 [.d (.sl none (E.map D1)),.d (j0 l)] (.sl none ((An E l).map AE)):=by
 refine Av func78 Z Z ntmps78 Z Z Z λF j=>?_;refine AD (AF (AB Z Z (AC (AD (AF (AB Z Z (AC (AD ?_))))))));refine AD (AF (cl Z Z (J (IR Z (χ ..) E0 Z) (cl Z Z (AC (AX (IY 5 10 Ap Z Z Z Z (BC (α:=Nat×List Int) (λq=>⟨25,[(0,.d (.sl none (E.map D1))),(5,(.own 10 0 q.2.length)),(8,(.d (j0 l))),(9,(.d (AE (l.length:Int)))),(10,(.d (AE (q.1:Int))))],[(10,[.rowD 3 1 (q.2.map AE)])]⟩) (λq=>q.1<=l.length/\q.2=An E (l.take q.1)) (λq=>l.length-q.1) ((0,[])) (⟨κ _,Z⟩) (AR j [10] Z Z ⟨Z,Z,Z,Z,Z,trivial⟩) ?_))))))));rintro ⟨k,T⟩ ⟨s,f⟩;dsimp only at s f⊢;refine AD (AF (J (At Z Z Z) (AC (AD (A4 Z (λb=>?_) (λb=>?_))))))
 .refine AU (AD (AX (AD ?_)));have a:k<l.length:=BG b;have t:T.length<=1000000:=by rw[f];unfold An;rw[χ,θ];omega
  have c:l[k]<E.length:=r _ (ϑ a);have h:(l.map AY)[k]? =some (AY l[k]):=AP a;have i:(E.map D1)[l[k]]? =some (D1 E[l[k]]):=AP c;refine AF (J (Al (k) Z Z (Z) (h) E0 Z BE Z) (J (BZ Z Z Ag Z) (AB Z Z ?_)));refine AC (AF (cl Z Z (cl Z Z (cl Z Z (J (Al (l[k]) Z Z (Z) (i) T1 Z IL Z) (J (Jy Z Jk Z Z Z) (J (IJ Z QU Z Z Z) (J (BZ Z Z Ag Z) ?_))))))));rw[show ((E[l[k]]).1.id:Int)=(D4 E l[k]).id by rw[DL c]];refine V (CB 30 Ap Z Z Z Z Z Z Z Z) (V (DQ (T) ([(D4 E l[k]).id]) Z Z Z Z Z Z Z Z Ap (by simp only[η];omega) Z Z Z Z) (AB Z Z (AC (AF (J (Ac Z Z (AJ (k+1) (by omega)) Z) (cl Z Z (AC ?_)))))));exact ⟨(k+1,T++ [(D4 E l[k]).id]),⟨a,by show _=An E (l.take (k+1));rw[f];unfold An;rw[ψ a,kA];rfl⟩,by show l.length-(k+1)<l.length-k;omega,AR j [10] Z (Z) ⟨Z,Z,Z,Z,Z,trivial⟩⟩
 .refine Aq (AD ?_);have g:k=l.length:=by have:=b;omega
  rw[g,kW] at f;refine Fi (emb:=AE) 5 10 T Z Z Z Z Z Z Z ?_;rw[f];refine AF (cl Z Z (AB Z Z (AC (A5 ?_))));exact ⟨_,[],[],A2 Z,Z,Z,Z,Z⟩
end Go.Proofs.YteifpcnphnhaoaaGreat
namespace Go.Proofs.YteifpcnphnhaoaaGreat
variable{E:List (dr×Nat)}{f:Nat->Nat}{U:List (AW×Nat)}{a:List AW}{C:Nat->Nat->Prop}{c:Nat->AW->Prop}{g:Prop}{k h j:Nat}{i:AW}{o s t:Nat}
noncomputable def dec(p:Prop):Bool:= @decide p (Classical.propDecidable p)
theorem G7:dec g=true↔g:= @decide_eq_true_iff g (Classical.propDecidable g)
theorem SA(h:g):dec g=true:=G7.2 h
theorem Z1(h:¬g):dec g=false:=by grind[dec]
theorem Xg{q:Prop}[Decidable g](h:g↔q):decide g=dec q:=by grind[SA,Z1]
def Km(rs:List AW)(a b:dr):Prop:=b.id∈a.af\/a.id∈b.af\/∃r,r∈(dR rs a).map Prod.fst/\r∈(dR rs b).map Prod.fst
noncomputable instance (rs:List AW) (a b:dr):Decidable (Km rs a b):=Classical.propDecidable _
theorem Km.symm{c b:dr}(h:Km a c b):Km a b c:=by grind[Km]
noncomputable def ta(rs:List AW)(E:List (dr×Nat))(i:Nat):List Nat:=(List.range E.length).filter λj=>decide (i<E.length/\Km rs (D4 E i) (D4 E j))
theorem Eo:j∈ta a E t↔t<E.length/\j<E.length/\Km a (D4 E t) (D4 E j):=by grind[ta]
def Cn(rs:List AW)(E:List (dr×Nat)):Nat->Nat->Prop:=Rh (ta rs E)
theorem Rh.sym{c:Nat->List Nat}(g:∀i j,j∈c i->i∈c j)(h:Rh c s o):Rh c o s:=by
 induction h with
 | refl=>exact .refl _
 | step _ e f=>exact (Rh.one (g _ _ e)).trans f
theorem Cn.symm(h:Cn a E t j):Cn a E j t:=
 Rh.sym (λt j h=>Eo.2 ⟨(Eo.1 h).2.1,(Eo.1 h).1,(Eo.1 h).2.2.symm⟩) h
def E3(f:Nat->Nat)(a b:Nat):Nat->Nat:=λk=>if f k=max (f a) (f b) then min (f a) (f b) else f k
theorem Hq(h:f t=f j):E3 f s o t=E3 f s o j:=by unfold E3;rw[h]
theorem Rk:E3 f s o s=E3 f s o o:=by grind[E3]
structure UF (n:Nat) (C:Nat->Nat->Prop) (f:Nat->Nat):Prop where
 le:∀k,k<n->f k<=k
 ff:∀k,k<n->f (f k)=f k
 snd:∀i j,i<n->j<n->f i=f j->C i j
theorem UF.join(c:UF h C f)(x:∀i j k,C i j->C j k->C i k)(y:∀i j,C i j->C j i)(v:s<h)(u:o<h)(r:C s o):UF h C (E3 f s o):=by
 have z:min (f s) (f o)=f s\/min (f s) (f o)=f o:=by omega
 have F:max (f s) (f o)=f s\/max (f s) (f o)=f o:=by omega
 have B:f (min (f s) (f o))=min (f s) (f o):=by
  rcases z with e | e
  .rw[e];exact c.ff s v
  .rw[e];exact c.ff o u
 have E:∀i,i<h->f i=max (f s) (f o)->C i s:=λi l e=>by
  rcases F with g | g
  .exact c.snd i s l v (e.trans g)
  .exact x _ _ _ (c.snd i o l u (e.trans g)) (y _ _ r)
 have D:∀i,i<h->f i=min (f s) (f o)->C i s:=λi l e=>by
  rcases z with g | g
  .exact c.snd i s l v (e.trans g)
  .exact x _ _ _ (c.snd i o l u (e.trans g)) (y _ _ r)
 refine ⟨λk t=>?_,λk t=>?_,λi j l A e=>?_⟩
 .have:=c.le k t;unfold E3;split<;>omega
 .by_cases e:f k=max (f s) (f o)
  .grind[E3]
  .have w:E3 f s o k=f k:=υ e;rw[w];unfold E3;rw[c.ff k t,υ e]
 .unfold E3 at e
  by_cases w:f i=max (f s) (f o)<;>by_cases g:f j=max (f s) (f o)
  .grind
  .grind
  .grind
  .rw[υ w,υ g] at e;exact c.snd i j l A e
theorem UF.id(n:Nat)(a:∀i,C i i):UF n C (λk=>k):=⟨λ_ _=>Θ _,λ_ _=>rfl,λi j _ _ (e:i=j)=>by subst e;exact a i⟩
noncomputable def mY(n:Nat)(C:Nat->Nat->Prop):List (List Nat):=((List.range n).filter λk=>dec (∀j,j<k->¬C k j)).map λk=>(List.range n).filter λj=>dec (C k j)
def bO(n:Nat)(f:Nat->Nat)(k:Nat):List Nat:=(List.range n).filter λj=>decide (f j=k)
def LU(n m:Nat)(f:Nat->Nat):List (List Nat):=((List.range m).filter λk=>decide (f k=k)).map (bO n f)
theorem gH{m:Nat}(a:f m=m):LU h (m+1) f=LU h m f++ [bO h f m]:=by
 unfold LU;rw[ki,mB,kA];simp[a]
theorem bN{m:Nat}(a:¬f m=m):LU h (m+1) f=LU h m f:=by
 unfold LU;rw[ki,mB,kA];simp[a]
theorem gG(n m:Nat)(f:Nat->Nat):(LU n m f).length<=m:=by grind[LU]
theorem ow(a:UF h C f)(w:∀i j,i<h->j<h->C i j->f i=f j):LU h h f=mY h C:=by
 have g:∀k,k<h->(f k=k↔∀j,j<k->¬C k j):=λk b=>by
  constructor
  .intro e j v t;have y:=w k j b (by omega) t;have u:=a.le j (by omega);omega
  .intro x;have y:=a.le k b;rcases Nat.lt_or_ge (f k) k with u | u
   .exact absurd (a.snd k (f k) b (by omega) (a.ff k b).symm) (x _ u)
   .omega
 unfold LU mY;rw[show ((List.range h).filter λk=>decide (f k=k))=(List.range h).filter λk=>dec (∀j,j<k->¬C k j) from l5 λk b=>Xg (g k (Ω.1 b))];refine kT λk b=>?_;obtain ⟨s,r⟩:=Φ.1 b;have c:=Ω.1 s;have o:f k=k:=(g k c).2 (G7.1 r);unfold bO;refine l5 λj v=>Xg ?_;have l:=Ω.1 v;exact ⟨λe=>a.snd k j c l (by rw[o,e]),λt=>by rw[<-w k j c l t,o]⟩
structure Qi (rs:List AW) (E:List (dr×Nat)) (P:Nat->AW->Prop) (U:List (AW×Nat)) (f:Nat->Nat):Prop where
 ok:∀e∈U,e.2<E.length/\e.1∈(dR rs (D4 E e.2)).map Prod.fst
 has:∀k r,P k r->r∈U.map Prod.fst/\f (Af U r 0)=f k
theorem Qi.keep{P:Nat->AW->Prop}{b:Nat->Nat}(h:Qi a E P U f)(g:∀i j,f i=f j->b i=b j):Qi a E P U b:=
 ⟨h.ok,λk r c=>⟨(h.has k r c).1,g _ _ (h.has k r c).2⟩⟩
theorem Qi.mono{P:Nat->AW->Prop}(h:Qi a E P U f)(b:∀k r,c k r->P k r):Qi a E c U f:=⟨h.ok,λk r g=>h.has k r (b k r g)⟩
theorem om(h:i∈U.map Prod.fst):(i,Af U i 0)∈U:=Iq h
theorem Qi.new{P:Nat->AW->Prop}(h:Qi a E P U f)(j:i∉U.map Prod.fst)(v:k<E.length)(u:i∈(dR a (D4 E k)).map Prod.fst)(l:∀b s,c b s->P b s\/(b=k/\s=i)):Qi a E c (B2 U i k) f:=by
 rw[Ea j];refine ⟨λe g=>?_,λb s o=>?_⟩
 .rcases ν.1 g with g | g
  .exact h.ok e g
  grind
 .rw[<-Ea j,Ip];rcases l b s o with t | ⟨rfl,rfl⟩
  .obtain ⟨x,w⟩:=h.has b s t
   grind[Ea]
  grind[Ea]
theorem Qi.join{P:Nat->AW->Prop}(h:Qi a E P U f)(j:i∈U.map Prod.fst)(l:∀b s,c b s->P b s\/(b=k/\s=i)):Qi a E c U (E3 f (Af U i 0) k):=
 ⟨h.ok,λb s o=>(l b s o).elim (λg=>⟨(h.has b s g).1,Hq (h.has b s g).2⟩) λ⟨u,t⟩=>by subst u t;exact ⟨j,Rk⟩⟩
theorem Qi.zero(a:List AW)(E:List (dr×Nat))(f:Nat->Nat):Qi a E (λ_ _=>False) [] f:=⟨λe b=>(by cases b),λk r h=>h.elim⟩
def OF(E:List (dr×Nat))(k:Nat):List (Int×Nat):=(List.range k).map λj=>((D4 E j).id,j)
theorem eo(E:List (dr×Nat))(k:Nat):OF E (k+1)=OF E k++ [((D4 E k).id,k)]:=by unfold OF;rw[ki,kA];rfl
theorem Yb{x:Int}:x∈(OF E k).map Prod.fst↔∃j,j<k/\(D4 E j).id=x:=by grind[OF]
def cO(E:List (dr×Nat)):Prop:=∀i j,i<E.length->j<E.length->(D4 E i).id=(D4 E j).id->i=j
theorem oV(c:cO E)(b:k<E.length):B2 (OF E k) (D4 E k).id k=OF E (k+1):=by
 rw[Ea λa=>by
  obtain ⟨j,f,e⟩:=Yb.1 a;have:=c j k (by omega) b e
  omega,eo]
theorem Ya(a:cO E){x:Int}(h:x∈(OF E E.length).map Prod.fst):Af (OF E E.length) x 0<E.length/\(D4 E (Af (OF E E.length) x 0)).id=x:=by grind[OF,Iq]
theorem ep(b:cO E)(a:j<E.length):(D4 E j).id∈(OF E E.length).map Prod.fst/\Af (OF E E.length) (D4 E j).id 0=j:=by
 have c:(D4 E j).id∈(OF E E.length).map Prod.fst:=Yb.2 ⟨j,a,Z⟩;obtain ⟨g,f⟩:=Ya b c;exact ⟨c,b _ _ g a f⟩
end Go.Proofs.YteifpcnphnhaoaaGreat
namespace Go.Proofs.YteifpcnphnhaoaaGreat
open Go.RowKit
variable{a:Nat->List Nat}{c:List (Nat×Nat)}{f:Nat}{S:TS}{g k h:Nat}{i j:Nat->Nat}{o:Nat->Int}{s:Nat}{x:Nat×Nat}{t:Nat}
abbrev rowN(n:Nat)(f:Nat->Nat):List D:=(List.range n).map λv=>AY (f v)
abbrev IT(n:Nat)(f:Nat->Int):List D:=(List.range n).map λv=>AE (f v)
theorem O4{n i:Nat}{f:Nat->Nat}(h:i<n):(rowN n f)[i]? =some (AY (f i)):=by simp[h]
theorem eA(h:s<f):(IT f o)[s]? =some (AE (o s)):=by simp[h]
theorem OC{a h:Nat->D}(c:∀j,j<f->j≠s->a j=h j){x:D}(b:x=h s):((List.range f).map a).set s x=(List.range f).map h:=by
 refine ld (by simp) λj k g=>?_
 grind
theorem EM{x:Nat}:(rowN f i).set s (AY x)=rowN f (BK i s x):=by grind[OC,H3,MH]
theorem dz{x:Int}:(IT f o).set s (AE x)=IT f (BK o s x):=by grind[OC,H3,MH]
theorem EN(n:Nat)(f:Nat->Nat):(rowN n f).length=n:=by simp
theorem UX(n:Nat)(f:Nat->Int):(IT n f).length=n:=by simp
theorem tF(n:Nat):List.replicate n (D.raw (.int .i64 0))=rowN n (λ_=>0):=by
 refine ld (by simp) λj b a=>?_
 simp
theorem xf(n:Nat):List.replicate n (D.raw (.int .i64 0))=IT n (λ_=>0):=by
 refine ld (by simp) λj b a=>?_
 simp
abbrev bc(f:Nat×Nat):D:= .agg [AY f.1,AY f.2]
def pend:Option Nat->List (Nat×Nat)
 | none=> []
 | some v=> [(v,0)]
theorem Mq{l j:List (Nat×Nat)}(h:k=l.length):((l++ [x]++j).map bc)[k]? =some (bc x):=by
 subst h;simp
theorem xb{l j:List (Nat×Nat)}{y:Nat×Nat}(h:k=l.length):((l++ [x]++j).map bc).set k (bc y)=(l++ [y]++j).map bc:=by
 subst h;simp
theorem v8(l j:List (Nat×Nat)){x:Nat×Nat}:((l++j).map bc).take l.length++ [bc x].take 1=(l++ [x]).map bc:=by
 rw[<-List.map_take,List.take_left];simp
theorem tc(a b:Nat):(if (b:Int)<(a:Int) then (b:Int) else (a:Int))=((min a b:Nat):Int):=by
 split<;>omega
def mu(n:Nat)(suc:Nat->List Nat)(S:TS):Nat:=((List.range n).map λv=>if S.idx v=0 then (suc v).length+1 else 0).sum+(S.cs.map λf=>(suc f.1).length-f.2+1).sum
theorem fh{n:Nat}{a:Nat->List Nat}{S:TS}{v:Nat}(g:v<n)(j:S.idx v=0){l:Nat->Nat}{st:List Nat}{c:Nat}:
  mu n a ⟨BK S.idx v (S.clk+1),l,S.of,st,S.cs++ [(v,0)],S.cnt,c⟩=mu n a S:=by
 unfold mu;dsimp only
 have:=YS (n:=n) (i:=v) (f:=λv=>if S.idx v=0 then (a v).length+1 else 0) (h:=λu=>if BK S.idx v (S.clk+1) u=0 then (a u).length+1 else 0) (c:=(a v).length+1) g
  (λk _ b=>by rw[H3 b]) (by rw[MH,ϱ j,υ (by omega)];omega)
 grind
theorem XU(b:S.cs=c++ [(h,k)])(g:k<(a h).length):mu f a {S with low:=j,cs:=c++ [(h,k+1)]}<mu f a S:=by grind[mu]
theorem fi(b:S.cs=c++ [(h,k)]){o:Nat->Int}{i:List Nat}{g:Nat}:mu f a ⟨S.idx,j,o,i,c,g,S.clk⟩<mu f a S:=by grind[mu]
structure TH (n:Nat) (suc:Nat->List Nat) (r:Nat) (S:TS) (p:Option Nat):Prop where
 ti:TI n suc S p
 k1:∀f∈S.cs,1<=f.2
 old:∀v,v<r->S.idx v≠0
 rt:S.idx r≠0\/p=some r
structure TB (n:Nat) (suc:Nat->List Nat) (r:Nat) (S:TS) (cs0:List (Nat×Nat)) (v k:Nat):Prop where
 ti:TI n suc S none
 hcs:S.cs=cs0++ [(v,k)]
 k1:∀f∈cs0,1<=f.2
 old:∀v,v<r->S.idx v≠0
 rt:S.idx r≠0
theorem nf{p:Option Nat}(h:TH f a g S p)(c:S.cs++pend p≠ []):∃b v k,S.cs++pend p=b++ [(v,k)]/\v<f/\(k=0->S.cs=b/\p=some v)/\(k≠0->S.cs=b++ [(v,k)]/\p=none):=by
 cases p with
 | some v=>exact ⟨S.cs,v,0,Z,(h.ti.pnd v Z).1,λ_=>⟨Z,Z⟩,λh=>(h Z).elim⟩
 | none=>
  rw[pend,kZ] at c⊢;rcases List.eq_nil_or_concat S.cs with e | ⟨l,⟨v,k⟩,e⟩
  .grind
  .rw[List.concat_eq_append] at e;have i:(v,k)∈S.cs:=by rw[e];exact mG _ (ξ.2 Z)
   have:=h.k1 _ i;have j:=h.ti.lt v ((h.ti.st v).1 (h.ti.csm _ i)).1
   grind
theorem cx(b:TH f a g S (some h)):
  TB f a g ⟨BK S.idx h (S.clk+1),BK S.low h (S.clk+1),S.of,S.st++ [h],S.cs++ [(h,0)],S.cnt,S.clk+1⟩ S.cs h 0:=by
 refine ⟨cu b.ti,Z,b.k1,λw c=>?_,?_⟩
 .show BK S.idx h (S.clk+1) w≠0
  by_cases e:w=h
  .subst e;rw[MH];omega
  .rw[H3 e];exact b.old w c
 .show BK S.idx h (S.clk+1) g≠0
  by_cases e:g=h
  .subst e;rw[MH];omega
  .rw[H3 e];exact b.rt.resolve_right λi=>e (Option.some.inj i).symm
theorem sj(b:TH f a g S none)(j:S.cs=c++ [(h,k)]):TB f a g S c h k:=
 ⟨b.ti,j,λi l=>b.k1 i (by rw[j];exact mP _ l),b.old,b.rt.resolve_right λe=>by cases e⟩
theorem Wh(b:TB f a g S c h k):h<f/\h∈S.st/\S.idx h≠0/\k<=(a h).length:=by
 have i:(h,k)∈S.cs:=by rw[b.hcs];exact mG _ (ξ.2 Z)
 have l:=b.ti.csm _ i;have j:=((b.ti.st h).1 l).1;exact ⟨b.ti.lt h j,l,j,(b.ti.gry _ i).1⟩
theorem sk(b:TB f a g S c h k)(z:(a h)[k]? =some t)(o:t<f)(s:S.idx t=0):
  TH f a g {S with cs:=c++ [(h,k+1)]} (some t):=by
 refine ⟨Wg b.ti b.hcs z o (low':=S.low) (λw=>Θ _) (λw u=>(b.ti.lw w u).2) (.inr Z) (λx e=>⟨(Option.some.inj e).symm,s⟩) (λy=>absurd s ((b.ti.st t).1 y).1),λi l=>?_,b.old,.inl b.rt⟩;rcases ν.1 l with l | l
 .exact b.k1 i l
 grind
theorem sm(b:TB f a g S c h k)(z:(a h)[k]? =some t)(s:t<f)(A:S.idx t≠0)(B:S.of t<0):
  TH f a g {S with low:=BK S.low h (min (S.low h) (S.idx t)),cs:=c++ [(h,k+1)]} none:=by
 have o:t∈S.st:=(b.ti.st t).2 ⟨A,B⟩;refine ⟨Wg b.ti b.hcs z s (λw=>?_) (λw u=>?_) (.inl A) (λx e=>by cases e) (λ_=>by rw[MH];omega),λi l=>?_,b.old,.inl b.rt⟩
 .grind[MH,H3]
 .by_cases e:w=h
  .subst e;rw[MH];rcases Nat.lt_or_ge (S.idx t) (S.low w) with C | C
   .exact ⟨t,o,by omega,Rh.one (ϖ z)⟩
   .obtain ⟨y,D,F,E⟩:=(b.ti.lw w u).2
    grind
  .rw[H3 e];exact (b.ti.lw w u).2
 .rcases ν.1 l with l | l
  .exact b.k1 i l
  grind
theorem nk(b:TB f a g S c h k)(z:(a h)[k]? =some t)(o:t<f)(A:S.idx t≠0)(u:¬S.of t<0):
  TH f a g {S with cs:=c++ [(h,k+1)]} none:=by
 refine ⟨Wg b.ti b.hcs z o (low':=S.low) (λw=>Θ _) (λw s=>(b.ti.lw w s).2) (.inl A) (λx e=>by cases e) (λy=>absurd ((b.ti.st t).1 y).2 u),λi l=>?_,b.old,.inl b.rt⟩;rcases ν.1 l with l | l
 .exact b.k1 i l
 grind
theorem w4(a b:Nat):(if (b:Int)>(a:Int) then (b:Int) else (a:Int))=((max a b:Nat):Int):=by split<;>omega
def bR(f:Nat->Nat)(a b k:Nat):Nat->Nat:=λj=>if j<k then E3 f a b j else f j
theorem gP(f:Nat->Nat)(a b:Nat):bR f a b 0=f:=by funext j;unfold bR;rw[υ (by omega)]
theorem tu(f:Nat->Nat)(a b k:Nat):bR f a b k k=f k:=υ (by omega)
theorem oy{a b:Nat}(h:i k=max (i a) (i b)):BK (bR i a b k) k (min (i a) (i b))=bR i a b (k+1):=by grind[MH,bR,E3,H3]
theorem gQ{a b:Nat}(h:¬i k=max (i a) (i b)):bR i a b (k+1)=bR i a b k:=by grind[bR,E3]
theorem RD{n:Nat}{f h:Nat->Nat}(e:∀j,j<n->f j=h j):rowN n f=rowN n h:=by simp_all
abbrev HJ(n:Nat)(f:Nat->Nat):Hp:=[(930,[.blk 28 [.own 931 0 n]]),(931,[.rowD 3 1 (rowN n f)])]
set_option maxRecDepth 100000 in
theorem ZJ(n:Nat)(f:Nat->Nat)(a b:Nat)(s:a<n)(o:b<n)(w:n<=100000):AO prog 67 [.d (AY a),.d (AY b),.ptr 930 0 0] (HJ n f) λr v=>r= .tup []/\v=HJ n (E3 f a b):=by
 refine Av func67 Z Z ntmps67 Z Z Z λF t=>(AD (Bm [[],[],[0,1],[0,1,2],[],[],[4,5],[4,5,6],rg 8,[],[],[9,10],[9,10,11],[],[],[13,14],[13,14,15],[9,10,11,12,13,14,15,16],rg 9,rg 19] mixed Z (BY (Ay [2] Z Z (λ_=>A9 (AQ Z Z Z BJ Z)) (A7 0 Z Z (Ay [8,9] Z Z (λ_=>A9 (DO (a) Z Z (Z) (s) Z E0 BE Z)) (Ay [10] Z Z (λ_=>A9 (ED Z Z (O4 s) Z Ag Z)) (Ay [2] Z Z (λ_=>A9 (AQ Z Z Z BJ Z)) ?_))))))));refine A7 1 Z Z (Ay [12,13] Z Z (λ_=>A9 (DO (b) Z Z (Z) (o) Z E0 BE Z)) (Ay [14] Z Z (λ_=>A9 (ED Z Z (O4 o) Z Ag Z)) (AK [11,15] Z (MP Z Z (w4 _ _) Z) (Ay [2] Z Z (λ_=>A9 (AQ Z Z Z BJ Z)) (A7 0 Z Z (Ay [17,18] Z Z (λ_=>A9 (DO (a) Z Z (Z) (s) Z E0 BE Z)) (Ay [19] Z Z (λ_=>A9 (ED Z Z (O4 s) Z Ag Z)) (Ay [2] Z Z (λ_=>A9 (AQ Z Z Z BJ Z)) ?_))))))));refine A7 1 Z Z (Ay [21,22] Z Z (λ_=>A9 (DO (b) Z Z (Z) (o) Z E0 BE Z)) (Ay [23] Z Z (λ_=>A9 (ED Z Z (O4 o) Z Ag Z)) (AK [20,24] Z (S7 Z Z (tc _ _) Z) (AK [16] Z (J1 Z Z) (BR 19 Z Z Z (AZ 20 Z Z (AB Z Z (AC ⟨Z,?_⟩))))))));refine Bb (AD (AF (J (AQ Z Z Z BJ Z) (J (QT Z E0 Z) (cl Z Z (AC (AX ?_)))))));have u:rowN n f=rowN n (bR f a b 0):=(by rw[gP]);unfold HJ;rw[u];refine BC (α:=Nat) (λk=>⟨42,[(2,(.ptr 930 0 0)),(5,(.d (AY (max (f a) (f b))))),(6,(.d (AY (min (f a) (f b))))),(27,(.d (AY n))),(28,(.d (AY k)))],[(930,[.blk 28 [.own 931 0 n]]),(931,[.rowD 3 1 (rowN n (bR f a b k))])]⟩) (λk=>k<=n) (λk=>n-k) (0) (κ _) (AR t [930,931] Z Z ⟨Z,Z,Z,Z,Z,trivial⟩) ?_;rintro k x;refine AD (AF (J (At Z Z Z) (AC (AD (A4 Z (λl=>?_) (λl=>?_))))))
 .refine AU (AD (AX (AD ?_)));have c:k<n:=BG l;refine AF ?_;refine cl Z Z (AB Z Z (AC (AD (AF (J (AQ Z Z Z BJ Z) (cl Z Z (J (DO (k) Z Z (Z) (c) Z E0 BE Z) (J (ED Z Z (O4 c) Z Ag Z) ?_))))))));rw[tu];refine cl Z Z (J (GW Z Z Z) (AC (A4 Z (λi=>?_) (λi=>?_))))
  .have g:f k=max (f a) (f b):=Int.ofNat.inj i;refine AF (J (AQ Z Z Z BJ Z) (cl Z Z (cl Z Z (J (DO (k) Z Z (Z) (c) Z E0 BE Z) (V (Zp Z Z Z Z Z (by rw[EN];exact c) EM Z BE) ?_)))));rw[oy g];refine AC (AF (J (Ac Z Z (AJ (k+1) (by omega)) Z) (cl Z Z (AC ?_))));exact ⟨k+1,c,by omega,AR t [930,931] Z (Z) ⟨Z,Z,Z,Z,Z,trivial⟩⟩
  .have g:¬f k=max (f a) (f b):=λe=>i (by rw[e]);refine AU (AF (J (Ac Z Z (AJ (k+1) (by omega)) Z) (cl Z Z (AC ?_))));exact ⟨k+1,c,by omega,AR t [930,931] Z (by simp only[gQ g];rfl) ⟨Z,Z,Z,Z,Z,trivial⟩⟩
 .refine Aq ?_;exact ⟨_,[930,931],_,A2 Z,Z,Z,Z,by rw[RD (f:=E3 f a b) (h:=bR f a b k) λj y=>by unfold bR;rw[ϱ (by have:=l;omega)]]⟩
end Go.Proofs.YteifpcnphnhaoaaGreat
