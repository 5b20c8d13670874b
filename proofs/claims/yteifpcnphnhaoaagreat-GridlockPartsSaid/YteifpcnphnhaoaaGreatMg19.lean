import Derived.Test.YteifpcnphnhaoaaGreatMg18
import Derived.Shelf.SlSortCmp.Whole1
open Go.Proofs.Tryz
set_option maxHeartbeats 4000000
namespace Go.Proofs.YteifpcnphnhaoaaGreat
open Go.RowKit Go.Shelf
open Go.Sort (putRow Holds PermIn SortedIn SWO mapBlock onCells putCells)
variable{P:Program}
section
variable{ρr:Ren}{τ:Type}
variable{a:Option (Nat×Bool)}{c:Array TypeId}{f:Array Edge}{g:Type}{h:g->Value}{i:Array Obj}{j:Array g}{k:String}{o:TypeId}{w:World}{s:FuncId}{t:Nat}{u:AV}{F:Fr}{x:AS}{y:Nat}
theorem rf[Inhabited g]{c m:Nat}{a:Nat}(k:a≠y)(f:a<w.heap.size):(sortWorld h w y c m j i).heap[a]? =w.heap[a]?:=by
 unfold sortWorld;rw[Go.Sort.heap_grow_old _ _ (by rw[Go.Sort.size_putRow];exact f)];show (w.heap.modify y _)[a]? =_
 grind
theorem H8[Inhabited g]{a m:Nat}:w.heap.size<=(sortWorld h w y a m j i).heap.size:=by simp[*,sortWorld]
theorem bL(L:SlLaysF.n6 P ρr){E:TypeId}{g g6:FuncId}{fn:Func}(hfn:P.funcs[g]? =some fn)(hnm:(fn.name== "runtime.NumGoroutine")=false){c:Code}(hbody:fn.body=some c){A:τ->Nat}{px:τ->List D}{tx:τ->TypeId}(cf:τ->τ->Int)(hO:SWO (ltOf cf))(k B:List τ)(hsz:k.length<4611686018427387904)(hc:∀x∈k,∀y∈k,AL P g [.d (.ptr (.agg (px x))),.d (.ptr (.agg (px y)))] (.raw (.int .i64 (cf x y))))(hu:∀ys:List τ,ys.Perm k->ys.Pairwise (λa b=>¬cf b a<0)->ys=B){F:Fr}{s:AS}{d:Nat}{x y:Operand}{ty:TypeId}{pos:String}{aft:Array Edge}{gd:Option (Nat×Bool)}{at_:Array TypeId}{f b t n:Nat}{M:MF}{fa:AV}{row:List D}{hp':Hp}(hg:ρr.f 6=g6)(hM:fl s.hp f=some [.multi M])(hpx:∀x∈k,M (A x)=some (.cells (tx x) (px x)))(h1x:∀x∈k,∀c∈px x,c.one=true)(hx:s.ev x=some (.d (.raw (sV b n t))))(hy:s.ev y=some fa)(hfa:∀w O V v,A7 w O V fa v->v= .func (.func g) #[] #[])(hb:M b=some (.row E 1 t row))(N:row=k.map λx=>pD (A x) 0)(hn:n=k.length)(hxs:k≠ [])(hh:Bn s.hp f (B5 M b (.row E 1 t (B.map λx=>pD (A x) 0)))=some hp')(hd:Nat.blt d s.n=true):
  AG P F ⟨some d,.call {callee:= .value (.func g6),args:= #[x,y],argTypes:=at_},ty,pos,aft,gd⟩ s ⟨s.n,(d,.d (.tup []))::s.env,hp'⟩ (λ_ _=>true):=by
 subst hg N hn;intro V U w hs
 obtain ⟨fn6,hf1,hf2,hf3⟩:∃fn,P.funcs[ρr.f 6]? =some fn/\(fn.name== "runtime.NumGoroutine")=false/\fn.body.isSome=true:=by
  obtain ⟨nm,hn,hf⟩:=L.f6;exact ⟨_,hf,hn,Z⟩
 unfold Oper.wp;rw[show (#[x,y]:Array Operand)=[x,y].toArray from rfl,DG hf1 hf2 hf3,Oper.upon_enter]
 suffices R:Calls P (ρr.f 6) ([x,y].map U.eval).toArray w λe w'=>e= .returned (.tuple #[])/\SR F ⟨s.n,s.env,hp'⟩ V U w' by
  refine R.mono λe w' ⟨G,hsr⟩=>?_;subst G;exact ⟨V,hsr.put (IW hd) (.d (.tup Z λi c v hc=>by cases hc)),λ_ _ _=>rfl⟩
 have r0:=hs.raw hx;have r1:=hfa _ _ _ _ (hs.ev hy);have h3:=hs.heap
 have hO0:BG V s.hp b:=⟨f,b,_,by rw[Gj hM,hb];rfl,by rw[(hs.rowN hM hb).1];rfl⟩
 obtain ⟨hρ,us,q1,q2,q3⟩:=hs.rowN hM hb;show Calls P (ρr.f 6) #[U.eval x,U.eval y] w _;rw[r1,r0];have hn:0<k.length:=jf.2 hxs
 have hus:us=k.map λx=>pV (A x) 0:=by
  apply jk
  intro i;rw[ν]
  by_cases C:i<k.length
  .rw[ω C];obtain ⟨u,h1,h2,h4⟩:=q2.2.2 i (pD (A k[i]) 0) (by rw[ν,ω C];rfl) 0 (pD (A k[i]) 0) rfl;rw[jD,ib] at h1;rw[h1]
   cases h4 with
   | raw _=>rfl
  .have:us.length=k.length:=by have:=q2.1;rwa [χ,jD] at this
   rw[j8 (by omega),j8 (by omega)];rfl
 obtain ⟨r,p1,p2,p3,p3',p4⟩:∃r,w.heap[b]? =some (.cells r E (0,0))/\r.size=t/\k.length<=t/\t<=maxLen/\r.toList.take k.length=us:=by
  rcases q1.2 with ⟨_,h⟩ | ⟨K,cap',r,G,_,T,e3,e4,e5,e6⟩
  .rw[χ] at h;omega
  .rw[χ] at G;injection G with G e7 e8
   injection G with G
   injection G with G
   subst G e8;rw[χ] at e3 e6;exact ⟨r,T,by omega,e3,e4,by rwa [jD] at e6⟩
 rw[χ] at*;have hlt:b<w.heap.size:=(iq.1 p1).1;have hOb:F.O V s.hp b:= .inr hO0;have hOl:∀K,F.O V s.hp K->K<w.heap.size:=λK h=>h3.ltO h
 let x0:τ:=k[0]
 let ix:Nat->Nat:=λi=>if i<k.length then i else 0
 let el:Nat->τ:=λi=>(k[ix i]?).getD x0
 have Q:∀i,el i∈k:=λi=>by
  have hix:ix i<k.length:=by show (if _ then _ else _)<_;split<;>omega
  show (k[ix i]?).getD x0∈k;rw[ω hix];exact ϑ hix
 have X:∀i (C:i<k.length),el i=k[i]:=λi C=>by
  show (k[ix i]?).getD x0=_;rw[show ix i=i from ς C,ω C];rfl
 let o:Nat->Value:=λi=>pV (A (el i)) 0
 let cf':Nat->Nat->Int:=λi j=>cf (el i) (el j)
 have hO':SWO (ltOf cf'):=⟨λx=>hO.irrefl (el x),λx y z=>hO.trans (el x) (el y) (el z),λx y z=>hO.ntrans (el x) (el y) (el z)⟩
 have henc1:OneCell o:=λ_=>rfl;have hd0:∀i,i<k.length->(Array.range k.length)[i]! =i:=λi C=>by rw[getElem!_pos _ i (by simpa using C)];simp
 have hcu:∀i (C:i<k.length),r[i]? =some (pV (A k[i]) 0):=λi C=>by
  have:us[i]? =r.toList[i]?:=by rw[<-p4,jt C]
  rw[hus,ν,ω C] at this;rw[<-jH];exact this.symm
 have hH:Holds o w b 0 (Array.range k.length):=by
  intro j J;simp only[jw] at J;rw[hd0 _ J];refine ⟨?_,?_⟩
  .simp only[World.cell?,p1,i9];rw[hcu j J];show _=some (pV (A (el j)) 0);rw[X j J];rfl
  .simp only[World.frozen?,p1]
   simp
 have hcmp:CmpLays1 P g #[] o cf' b 0 (Array.range k.length).size w:=by
  intro m os dk _ x y;have hWs:w.heap.size<=(sortWorld o w b 0 m dk os).heap.size:=H8
  let O':Nat->Prop:=λK=>F.O V s.hp K/\K≠A (el x)/\K≠A (el y)
  have hne:∀i,A (el i)≠b:=λi e=>by
   have:=hpx _ (Q i);rw[e,hb] at this;cases this
  have W:∀i,i=x\/i=y->AY (sortWorld o w b 0 m dk os) O' (.ptr (.agg (px (el i)))) (pV (A (el i)) 0):=λi C=>by
   obtain ⟨_,vs,c1,c2,c3,c4⟩:=hs.cellsN hM (hpx _ (Q i));have hl:A (el i)<w.heap.size:=(iq.1 c1).1
   have hOn:¬O' (A (el i)):=λh=>by
    rcases C with e | e
    .exact h.2.1 (by rw[e])
    .exact h.2.2 (by rw[e])
   show AY _ _ (.ptr (.agg (px (el i)))) (.pointer (some ⟨A (el i),0,none⟩));refine AY.ptr (x:= .agg (px (el i))) (λj=>vs.getD j undef) (jB hl hWs) hOn (h1x _ (Q i)) (λj c J=>?_) λj c J=>?_
   .have hj':j<vs.length:=by rw[c2];exact (φ.1 J).1
    simp only[World.cell?,rf (hne i) hl,c1,i9]
    simp[hj']
   .have hj':j<vs.length:=by rw[c2];exact (φ.1 J).1
    have I:vs[j]? =some vs[j]:=ω hj';have:vs.getD j undef=vs[j]:=by rw[Φ,I];rfl
    rw[this];exact (c3 j c _ J I).mono hWs (λK hl hno=>rf (λe=>hno (e▸hOb)) hl) (λ_ _ h=>h.1)
  refine (R8 (hc (el x) (Q x) (el y) (Q y)) (w:=sortWorld o w b 0 m dk os) (O:=O') (λK h=>jB (hOl K h.1) hWs) (vs:=[pV (A (el x)) 0,pV (A (el y)) 0]) Z (λi a v S I=>?_)).mono λe w' ⟨v,G,T,e3,e4,e5⟩=>⟨?_,Ou e3 e4 e5⟩
  .match i,S,I with
   | 0,S,I=>injection S with S;injection I with I;subst S I;exact .d (W x (.inl Z))
   | 1,S,I=>injection S with S;injection I with I;subst S I;exact .d (W y (.inr Z))
  .cases T with
   | raw _=>exact G
 have eg:∀args w,(callFunc g args).run P w= .ok (.enter g args) w:=enters_of hfn hnm hbody;have R:=Any.slices_SortFunc L o henc1 cf' hO' g #[] b 0 t (Array.range k.length) w eg hcmp hH hlt (by simpa using hsz);rw[jw] at R;refine R.mono λe w' ⟨G,Y,n,os,hp,hsort,hw⟩=>?_;subst G hw;obtain ⟨s1,_,s3⟩:=hp;rw[jw] at s1
 have hperm:Y.toList.Perm (List.range k.length):=by
  have G:Y.extract 0 k.length=Y:=by rw[<-s1];exact Array.extract_size
  have T:(Array.range k.length).extract 0 k.length=Array.range k.length:=by
   conv=>lhs;arg 3;rw[<-jw (n:=k.length)]
   exact Array.extract_size
  rw[G,T] at s3
  simpa using s3
 refine ⟨Z,?_⟩
 have hys:Y.toList.map el=B:=by
  apply hu
  .refine (hperm.map el).trans (List.Perm.of_eq ?_)
   apply ir (by simp)
   intro i h5 h6;simp only[iC,k6];exact X i h6
  .rw[ia];intro i j C J hij;simp only[χ,jn] at C J;have:=hsort i j (ζ _) hij (by omega);rw[getElem!_pos _ j J,getElem!_pos _ i C] at this;simp only[ltOf,decide_eq_false_iff_not] at this
   simpa using this
 have hlen':B.length=k.length:=by rw[<-hys];simp[s1]
 -- the world: first what lies in the row, then the new blocks
 have hheap:(sortWorld o w b 0 n Y os).heap[b]? =some (.cells (putCells o 0 Y r) E (0,0)):=by
  unfold sortWorld;rw[Go.Sort.heap_grow_old _ _ (by rw[Go.Sort.size_putRow];exact hlt)];show (w.heap.modify b _)[b]? =_;rw[js,ς Z,p1];rfl
 refine hs.writeG f b (.nr b E 1 t (k.map λx=>pD (A x) 0)) (.nr b E 1 t (B.map λx=>pD (A x) 0)) (by rw[Gj hM,hb];rfl) (λg i=>?_) Z Z Z H8 (Nat.le_add_right _ _) (λK hl hno=>rf (λe=>hno (by rw[e,hρ];rfl)) hl) (λ_ _ e=>by cases e) λhrep=>?_
 .rw[DU hh]
  by_cases e:g=f
  .subst e;rw[ς Z,Gj hM]
   by_cases T:i=b
   .subst T;rw[ς ⟨Z,Z⟩,GG];rfl
   .rw[κ (λh=>T h.2),ID T]
  .rw[κ e,κ (λh=>e h.1)]
 have hcs:(putCells o 0 Y r).size=t:=by simp only[putCells,Array.size_mapIdx];omega
 have N:(putCells o 0 Y r).toList.take B.length=B.map λx=>pV (A x) 0:=by
  apply jk
  intro i
  by_cases C:i<k.length
  .rw[jt (by omega),ν,<-hys,ν,jH,jH,iW (by omega),iW (by omega)];simp only[putCells,Array.getElem_mapIdx,ij];rw[ς ⟨ζ _,by omega⟩];simp only[Nat.sub_zero];rw[getElem!_pos _ i (by omega)]
  .rw[j8 (by rw[ϱ];omega),j8 (by rw[χ];omega)]
 refine ⟨hρ,B.map λx=>pV (A x) 0,⟨by simp,.inr ⟨b,t,_,by simp only[χ],ζ _,hheap,by rw[χ,hlen'];exact p3,p3',by rw[hcs];omega,by rw[χ,jD,N]⟩⟩,⟨by simp,λx l=>?_,λi x l j c H=>?_⟩,λx l c H=>?_⟩
 .obtain ⟨y,_,rfl⟩:=Θ.1 l;rfl
 .rw[ν] at l
  cases gu:B[i]? with
  | none=>rw[gu] at l;cases l
  | some q=>
   rw[gu] at l;injection l with l;subst l
   match j,H with
   | 0,H=>
    injection H with H;subst H
    exact ⟨pV (A q) 0,by rw[jD,ib,ν,gu];rfl,Z,.raw Z⟩
 .obtain ⟨y,_,rfl⟩:=Θ.1 l
  cases H with
  | head=>rfl
  | tail _ h=>cases h
theorem Yi(L:SlLaysF.n6 P ρr){b y:Operand}(G:ρr.f 6=s)(D:x.ev b=some (.d (.raw (.slice none 0 0))))(R:x.ev y=some u)(I:Nat.blt t x.n=true):
  AG P F ⟨some t,.call {callee:= .value (.func s),args:= #[b,y],argTypes:=c},o,k,f,a⟩ x ⟨x.n,(t,.d (.tup []))::x.env,x.hp⟩ (λ_ _=>true):=by
 subst G;intro B h w A
 obtain ⟨K,r,l,j⟩:∃z,P.funcs[ρr.f 6]? =some z/\(z.name== "runtime.NumGoroutine")=false/\z.body.isSome=true:=by
  obtain ⟨Q,E,H⟩:=L.f6;exact ⟨_,H,E,Z⟩
 unfold Oper.wp;rw[show (#[b,y]:Array Operand)=[b,y].toArray from rfl,DG r l j,Oper.upon_enter];have C:=A.raw D;show Calls P (ρr.f 6) #[h.eval b,h.eval y] w _;rw[C];refine (AnyF.slices_SortFunc_none {L with} none 0 _ w).mono λe O ⟨N,M⟩=>?_;subst N M;exact ⟨B,A.put (IW I) (.d (.tup Z λi g v J=>by cases J)),λ_ _ _=>rfl⟩
end
end Go.Proofs.YteifpcnphnhaoaaGreat
namespace Go.Proofs.YteifpcnphnhaoaaGreat
open Go.RowKit Go.Shelf
variable{M:MF}{f a c:Nat->Nat}{N:gK}{g:Nat}{h:Type}{i j k o:Nat}{t:TypeId}{s:Nat}{u:Al}
set_option maxRecDepth 100000 in
theorem ml(x y:Po):AL prog 142 [.d (.ptr (.agg (lN x))),.d (.ptr (.agg (lN y)))] (AF (Bk x.r y.r)):=by
 refine Av func142 Z Z ntmps142 Z Z Z λF a=>(AC ?_);refine AE (AB Z Z (AD (AC (CK [[],[0],[0,1],[0,1,2],[],[4],[4,5],[4,5,6],rg 8,rg 9] mixed Z (By (Ap 0 Z Z (AR [5] Z (KY Z Z) (AR [6] Z (VK Z Nc Z Z Z) ?_))))))));refine AR [7] Z (C7 Z Z C9 Z) (Ap 1 Z Z (AR [9] Z (KY Z Z) (AR [10] Z (VK Z Nc Z Z Z) (AR [11] Z (C7 Z Z C9 Z) (Bu 8 Z Z Z (Ab 9 Z Z (J (Au (MZ x.r y.r) Z Z) (AD ⟨Z,?_⟩))))))));refine Ab 10 Z Z (AB Z Z (AD ⟨Z,?_⟩));refine Bz (A2 ?_);exact ⟨_,[],[],A0 Z,Z,Z,Z,Z⟩
theorem HF{m:Al}(a:M i=none)(h:M s=some m):B5 M i u s=some m:=by grind[ID]
theorem Mj(f:M i=none){h:Hd}{b:List D}(a:B1 M h t o b):B1 (B5 M i u) h t o b:=by
 match h,a with
 | none,a=>exact a
 | some (g,c),a=>exact ⟨a.1,HF f a.2⟩
theorem CX.fresh(h:CX j k c a N M){m:Al}(g:M i=none):CX j k c a N (B5 M i m):=
 ⟨λf x o=>HF g (h.n f x o),λb y l=>HF g (h.p b y l),⟨λr=>Mj g (h.rs.1 r),h.rs.2⟩,HF g h.w,h.ni,h.pi,h.e,h.q⟩
def Nh(f:Nat->Nat)(k b:Nat):Nat->Nat:=λj=>if j=k then b else f j
theorem DX{j:Nat}(h:j<o):Nh f o g j=f j:=κ (by omega)
theorem Gf:Nh f o g o=g:=ς rfl
theorem Q2:(List.range (o+1)).map (λj=>B2 (Nh f o g j))=(List.range o).map (λj=>B2 (f j))++ [B2 g]:=by grind[iM,Gf,hQ,DX]
abbrev ZT(nh:Hd)(a:Nat)(mh:Hd)(c mv:Nat):Al:= .cells 180 [gN nh a,gN mh c,Ls (.map (some mv))]
theorem CX.keepM(h:CX j k c a N M)(u:Bi M N.mh g=none){v:Al}{l:List D}(i:M s=some (.cells t l)):B5 (Bi M N.mh) g v s=some (.cells t l):=
 Go.Proofs.YteifpcnphnhaoaaGreat.im u i λf o=>by have:=h.rs.blk (r:= .m) o;rw[i] at this;cases this
theorem MO(l:List h)(y d:h)(j:Nat):(l++ [y]).getD j d=if j=l.length then y else l.getD j d:=by grind
theorem iH{l:List h}{d:h}(i:Nat):l.getD i d∈l\/l.getD i d=d:=by grind
theorem jI{l:List h}{y z:h}{i:Nat}(a:(l++ [y])[i]? =some z):(i<l.length/\l[i]? =some z)\/(i=l.length/\z=y):=by grind
theorem CX.addM(h:CX j k c a N M){y:Po}(R:y.q=[])(E:y.qh=none){bn:Nat}(Y:M bn=some (VO y))(C:∀o,o<N.po.length->a o≠bn){cap:Nat}(J:Bi M N.mh g=none)(U:N.po.length+1<=cap):
  CX j k c (Nh a N.po.length bn) {N with po:=N.po++ [y],mh:=some (g,cap)} (B5 (B5 (Bi M N.mh) g (.row XK 1 cap ((List.range N.po.length).map (λo=>B2 (a o))++ [B2 bn]))) j (ZT N.nh N.nd.length (some (g,cap)) (N.po.length+1) k)):=by
 have I:∀i,((N.nd.getD i CR).ef.map (eW (Nh a N.po.length bn)))=(N.nd.getD i CR).ef.map (eW a):=λi=>hQ λe u=>by
  rcases iH (l:=N.nd) (d:=CR) i with s | s
  .show D.agg [pD (Nh a N.po.length bn e.1) 0,_]=_;rw[DX ((h.e _ s).1 e u)]
  .rw[s] at u;cases u
 have G:∀i,((N.nd.getD i CR).pl.map (kN (Nh a N.po.length bn)))=(N.nd.getD i CR).pl.map (kN a):=λi=>hQ λe u=>by
  rcases iH (l:=N.nd) (d:=CR) i with s | s
  .show D.agg [pD (Nh a N.po.length bn e.1) 0,_]=_;rw[DX ((h.e _ s).2 e u)]
  .rw[s] at u;cases u
 have X:∀r,r≠RI.m->Ce c (Nh a N.po.length bn) {N with po:=N.po++ [y],mh:=some (g,cap)} r=Ce c a N r:=λr T=>by
  cases r with
  | e i=>show (⟨_,_,_,(N.nd.getD i CR).ef.map _⟩:gQ)=_;rw[I];rfl
  | p i=>show (⟨_,_,_,(N.nd.getD i CR).pl.map _⟩:gQ)=_;rw[G];rfl
  | n=>rfl
  | m=>exact absurd Z T
  | q o=>
   show (⟨((N.po++ [y]).getD o Cj).qh,_,_,((N.po++ [y]).getD o Cj).q.map _⟩:gQ)=⟨(N.po.getD o Cj).qh,_,_,(N.po.getD o Cj).q.map _⟩
   rw[MO]
   split
   .rename_i e
    rw[R,E,Φ,j8 (by omega)];rfl
   .rfl
 have w:=h.rs.upd (R':=Ce c (Nh a N.po.length bn) {N with po:=N.po++ [y],mh:=some (g,cap)}) .m X (b:=g) (cap:=cap) J Z (by
  show ((List.range (N.po++ [y]).length).map _).length<=cap
  simp;exact U)
 have A:(Ce c (Nh a N.po.length bn) {N with po:=N.po++ [y],mh:=some (g,cap)} .m).xs=(List.range N.po.length).map (λo=>B2 (a o))++ [B2 bn]:=by
  show (List.range (N.po++ [y]).length).map _=_;rw[Δ,υ,Q2]
 rw[A] at w
 have B:∀(Q:Nat) (t:TypeId) (O:List D),t≠180->M Q=some (.cells t O)->B5 (B5 (Bi M N.mh) g (.row XK 1 cap ((List.range N.po.length).map (λo=>B2 (a o))++ [B2 bn]))) j (ZT N.nh N.nd.length (some (g,cap)) (N.po.length+1) k) Q=some (.cells t O):=λQ t O S s=>by
  rw[ID]
  .exact h.keepM J s
  .rintro rfl;rw[h.w] at s;injection s with s;injection s with s;exact S s.symm
 refine ⟨λi x F=>B _ _ _ (by decide) (h.n i x F),λi z v=>?_,w.cells (h.keepM J h.w),?_,h.ni,λi f H B e=>?_,λx F=>?_,λz v=>?_⟩
 .rcases jI v with ⟨L,K⟩ | ⟨L,K⟩
  .rw[DX L];exact B _ _ _ (by decide) (h.p i z K)
  .subst L K;rw[Gf];exact B _ _ _ (by decide) Y
 .rw[GG];show _=some (Al.cells _ [_,gN _ (N.po++ [y]).length,_]);rw[Δ];rfl
 .have W:i<N.po.length+1:=by simpa using H
  have V:f<N.po.length+1:=by simpa using B
  by_cases e1:i=N.po.length<;>by_cases e2:f=N.po.length
  .omega
  .subst e1;rw[Gf,DX (by omega)] at e;exact absurd e.symm (C f (by omega))
  .subst e2;rw[Gf,DX (by omega)] at e;exact absurd e (C i (by omega))
  .rw[DX (by omega),DX (by omega)] at e;exact h.pi i f (by omega) (by omega) e
 .have:=h.e x F;refine ⟨λe u=>?_,λe u=>?_⟩
  .have:=this.1 e u;simp;omega
  .have:=this.2 e u;simp;omega
 .rcases ϖ.1 v with v | v
  .exact h.q z v
  .rw[θ.1 v,R];intro i H;cases H
theorem CX.perm(h:CX j k c a N M)(U:N.nd=[])(hqn:∀y∈N.po,y.q=[]/\y.qh=none){u:List Nat}(X:u.Perm (List.range N.po.length)){v:Nat}(V:N.mh=some (g,v)):
  CX j k c (λf=>a (u.getD f 0)) {N with po:=u.map λi=>N.po.getD i Cj} (B5 M g (.row XK 1 v (u.map λo=>B2 (a o)))):=by
 have I:u.length=N.po.length:=by rw[X.length_eq,iF]
 have E:∀f,f<u.length->u.getD f 0<N.po.length:=λf Q=>by
  rw[FG 0 Q];exact Ψ.1 (X.mem_iff.1 (ϑ Q))
 have hrow:=h.rs.blk (r:= .m) V
 have J:=(h.rs.1 .m)
 rw[show (Ce c a N .m).h=some (g,v) from V] at J
 have L:N.po.length<=v:=by
  have:=J.1;have e:((List.range N.po.length).map λo=>B2 (a o)).length=N.po.length:=by simp
  exact e▸this
 have Q:∀(H:Nat) (t:TypeId) (cs:List D),M H=some (.cells t cs)->B5 M g (.row XK 1 v (u.map λo=>B2 (a o))) H=some (.cells t cs):=λH t cs hm'=>by
  grind[ID]
 have K:∀(l:List Po),(∀y∈l,y.q=[]/\y.qh=none)->∀o,(l.getD o Cj).q=[]/\(l.getD o Cj).qh=none:=λl hl o=>by
  grind[Cj]
 have z:∀y∈u.map λi=>N.po.getD i Cj,y.q=[]/\y.qh=none:=λy T=>by
  grind
 refine ⟨λi x hx=>?_,λo y T=>?_,⟨λr=>?_,λr r' G s W C h2=>?_⟩,?_,h.ni,λi f B Z e=>?_,λx hx=>?_,λy T=>?_⟩
 .grind
 .have w:(u.map λi=>N.po.getD i Cj)[o]? =some y:=T;rw[ν] at w
  cases hj:u[o]? with
  | none=>rw[hj] at w;cases w
  | some i=>
   rw[hj] at w;have e:y=N.po.getD i Cj:=(Option.some.inj w).symm;have hjl:=(φ.1 hj).1;have B:=E o hjl;rw[Hq hj] at B;show B5 M g _ (a (u.getD o 0))=_;rw[Hq hj,e,FG Cj B];exact Q _ _ _ (h.p i _ (ω B))
 .cases r with
  | e i=> 
   have:N.nd.getD i CR=CR:=by rw[U];rfl
   show B1 _ (N.nd.getD i CR).eh _ _ ((N.nd.getD i CR).ef.map _);rw[this];rfl
  | p i=> 
   have:N.nd.getD i CR=CR:=by rw[U];rfl
   show B1 _ (N.nd.getD i CR).ph _ _ ((N.nd.getD i CR).pl.map _);rw[this];rfl
  | q o=>
   show B1 _ ((u.map λi=>N.po.getD i Cj).getD o Cj).qh _ _ (((u.map λi=>N.po.getD i Cj).getD o Cj).q.map _);obtain ⟨e1,e2⟩:=K _ z o;rw[e1,e2];rfl
  | n=>
   have F:=h.rs.1 .n;show B1 _ N.nh _ _ ((List.range N.nd.length).map _)
   cases hh:N.nh with
   | none=>show _=[];rw[U];rfl
   | some p=>
    obtain ⟨H,W⟩:=p;rw[show (Ce c a N .n).h=some (H,W) from hh] at F;refine ⟨by have:=F.1;exact this,?_⟩;rw[ID]
    .exact F.2
    .rintro rfl;exact absurd (h.rs.2 .n .m H W v hh V) (by intro e;cases e)
  | m=>
   show B1 _ N.mh _ _ ((List.range (u.map λi=>N.po.getD i Cj).length).map λf=>B2 (a (u.getD f 0)))
   have e:((List.range (u.map λi=>N.po.getD i Cj).length).map λf=>B2 (a (u.getD f 0)))=u.map λo=>B2 (a o):=by
    apply ir (by simp)
    intro f C h2;simp only[iC,k6];rw[FG 0 (by simpa using h2)]
   rw[e,V];exact ⟨by rw[χ,I];exact L,GG _ _ _⟩
 .have A:∀r G s,(Ce c (λf=>a (u.getD f 0)) {N with po:=u.map λi=>N.po.getD i Cj} r).h=some (G,s)->(Ce c a N r).h=some (G,s):=λr G s C=>by
   cases r with
   | e i=>exact C
   | p i=>exact C
   | n=>exact C
   | m=>exact C
   | q o=>
    have S:((u.map λi=>N.po.getD i Cj).getD o Cj).qh=some (G,s):=C;rw[(K _ z o).2] at S;cases S
  exact h.rs.2 r r' G s W (A _ _ _ C) (A _ _ _ h2)
 .have:=Q _ _ _ h.w;show _=some (Al.cells _ [_,gN N.mh (u.map λi=>N.po.getD i Cj).length,_]);rw[χ,I];exact this
 .have R:i<u.length:=by simpa using B
  have O:f<u.length:=by simpa using Z
  have:=h.pi _ _ (E i R) (E f O) e;rw[FG 0 R,FG 0 O] at this;have Y:u.Nodup:=X.nodup_iff.2 List.nodup_range;exact (List.getElem_inj Y).1 this
 .have:x∈N.nd:=hx;rw[U] at this;cases this
 .intro i B;rw[(z y T).1] at B;cases B
end Go.Proofs.YteifpcnphnhaoaaGreat
namespace Go.Proofs.YteifpcnphnhaoaaGreat
open Go.RowKit
variable{T:List (AU×Int)}{a c:Type}{f:List (a×c)}{g:List AU}{h:List AJ}{i:List Ad}{j:List (List (AU×Int))}{k:a}{o:AU×Int}{s:List a}{t:Nat->Nat}{u:Nat}{z:Value}{w x:c}{y:a}
theorem dE[DecidableEq a](h:k∉f.map Prod.fst):BX f k w=f++ [(k,w)]:=by
 induction f with
 | nil=>rfl
 | cons p r g=>
  grind[BX]
theorem HI[DecidableEq a](h:k∉f.map Prod.fst):Ac f k x=x:=by
 induction f with
 | nil=>rfl
 | cons p r b=>
  grind[Ac]
theorem D7[DecidableEq a]{g:a}(h:k≠g):Ac (f++ [(g,w)]) k x=Ac f k x:=by
 induction f with
 | nil=>simp only[jR,Ac];rw[κ h]
 | cons p r i=>
  grind[Ac]
theorem Dx[DecidableEq a](h:k∉f.map Prod.fst):Ac (f++ [(k,w)]) k x=w:=by
 induction f with
 | nil=>simp[Ac]
 | cons p r g=>
  grind[Ac]
def V7{α:Type}(d:α)(f:Nat->Nat)(l:List α):List (α×Value):=(List.range l.length).map λi=>(l.getD i d,pV (f i) 0)
theorem OD(d:a)(f:Nat->Nat)(l:List a):(V7 d f l).map Prod.fst=l:=by
 unfold V7;rw[gw];refine ir (by simp) λj c b=>?_
 grind
theorem Wu[DecidableEq a]{d:a}{f:Nat->Nat}{b:Nat}(h:k∉s):BX (V7 d f s) k (pV b 0)=V7 d (Nh f s.length b) (s++ [k]):=by
 rw[dE (by rw[OD];exact h)];unfold V7;rw[Δ,υ,iM,Ω,List.map_singleton,Gf]
 grind[hQ,DX]
theorem Wv[DecidableEq a][BEq a][LawfulBEq a](c:s.Nodup){i:Nat}(b:i<s.length)(e:s[i]=k):Ac (V7 y t s) k z=pV (t i) 0:=by
 refine D8 (by rw[OD];exact c) ?_;exact Θ.2 ⟨i,Ψ.2 b,by rw[FG y b,e]⟩
theorem pA[DecidableEq a](h:k∉s):Ac (V7 y t s) k z=z:=HI (by rw[OD];exact h)
def Nl(rs:List AU)(i j:Nat):Int:=Bk (rs.getD i GO) (rs.getD j GO)
theorem RK(a:List AU):PC (Nl a):=Pd.comap λi=>a.getD i GO
def II(rs:List AU):List Nat:=(List.range rs.length).mergeSort λi j=>decide (Nl rs i j<=0)
theorem fk(a:List AU):(II a).Perm (List.range a.length):=List.mergeSort_perm _ _
theorem Yn(E:g.Nodup){l:List Nat}(v:l.Perm (List.range g.length))(r:l.Pairwise λa b=>¬Nl g b a<0):l=II g:=by
 have k:∀f:List Nat,f.Perm (List.range g.length)->(f.Pairwise λa b=>¬Nl g b a<0)->f.Pairwise λa b=>Nl g a b<0:=λf u r=>by
  have s:f.Pairwise λa b=>a≠b:=u.nodup_iff.2 List.nodup_range;have F:∀x∈f,x<g.length:=λx w=>Ψ.1 (u.mem_iff.1 w);refine nf (λ{a b} H G h=>?_) (r.and s);have o:=(RK g).anti a b
  by_cases C:Nl g a b=0
  .exfalso
   have I:=E3.1 C
   grind[List.getElem_inj]
  omega
 refine DP (R:=λa b=>Nl g a b<0) (λx=>by rw[(RK g).refl];omega) (λx y z=>(RK g).trans x y z) (k l v r) (k _ (fk g) ?_) λx=>v.mem_iff.trans (fk g).mem_iff.symm;have:=List.pairwise_mergeSort (le:=λi j=>decide (Nl g i j<=0)) (λa b c o A=>?_) (λa b=>?_) (List.range g.length)
 .refine List.Pairwise.imp (λ{a b} h=>?_) this;have o:=(RK g).anti a b
  grind
 .have B:Nl g a b<=0:=by simpa using o
  have t:Nl g b c<=0:=by simpa using A
  have:Nl g a c<=0:=by
   by_cases D:Nl g a b=0
   .rw[(RK g).eqv a b c D];exact t
   .by_cases K:Nl g b c=0
    .have N:=(RK g).anti b c;have J:=(RK g).eqv c b a (by omega);have M:=(RK g).anti a c;have L:=(RK g).anti a b;omega
    .have:=(RK g).trans a b c (by omega) (by omega);omega
  grind
 .have o:=(RK g).anti a b
  grind
abbrev Gm(D:List (AU×Int))(r:AU):Int:=Ac D r 0
def gM(ds:List (List (AU×Int)))(r:AU):List Nat:=(List.range ds.length).filter λi=>decide (Gm (ds.getD i []) r<0)
def Jp(x:Ad):Po:=⟨x.r,x.n,0,none,[],0⟩
def ZG(ds:List (List (AU×Int)))(x:Ad):Po:=⟨x.r,x.n,(ds.map λD=>Gm D x.r).sum,none,gM ds x.r,0⟩
def W1(rs:List AU)(D:List (AU×Int)):List (Nat×Int):=(D.filter λd=>decide (d.1∈rs)).map λd=>(rs.idxOf d.1,d.2)
def XO(rs:List AU)(ds:List (List (AU×Int)))(D:List (AU×Int)):List (Nat×Nat):=(D.filter λd=>decide (d.1∈rs) && decide (d.2<0)).map λd=>(rs.idxOf d.1,(gM ds d.1).length)
def oP(rs:List AU)(ds:List (List (AU×Int)))(x:AJ)(D:List (AU×Int)):Nd:=⟨x,none,W1 rs D,none,XO rs ds D,true⟩
def Kj(rs:List AU)(its:List AJ)(k:Nat):List Nd:=(List.range k).map λi=>oP rs ((its.map A3).take i) (its.getD i Ag) (A3 (its.getD i Ag))
def FO(ro:List Ad)(its:List AJ)(k:Nat):gK:=⟨Kj (ro.map Ad.r) its k,ro.map (ZG ((its.map A3).take k)),none,none⟩
def EG(ro:List Ad)(its:List AJ)(k t:Nat):gK:=⟨Kj (ro.map Ad.r) its k++ [oP (ro.map Ad.r) ((its.map A3).take k) (its.getD k Ag) ((A3 (its.getD k Ag)).take t)],ro.map (ZG ((its.map A3).take k++ [(A3 (its.getD k Ag)).take t])),none,none⟩
theorem W0(h:o.1∈g):W1 g (T++ [o])=W1 g T++ [(g.idxOf o.1,o.2)]:=by grind[W1]
theorem SK(h:o.1∉g):W1 g (T++ [o])=W1 g T:=by grind[W1]
theorem cS(h:o.1∈g)(a:o.2<0):XO g j (T++ [o])=XO g j T++ [(g.idxOf o.1,(gM j o.1).length)]:=by grind[XO]
theorem Rd(h:¬(o.1∈g/\o.2<0)):XO g j (T++ [o])=XO g j T:=by grind[XO]
theorem ZZ(a:List (List (AU×Int)))(D:List (AU×Int))(r:AU):gM (a++ [D]) r=gM a r++if Gm D r<0 then [a.length] else []:=by
 unfold gM;rw[Δ,υ,iM,i7]
 grind[jy]
theorem Fl(a:List (List (AU×Int)))(D:List (AU×Int))(x:Ad):ZG (a++ [D]) x=⟨x.r,x.n,(ZG a x).sum+Gm D x.r,none,(ZG a x).q++(if Gm D x.r<0 then [a.length] else []),0⟩:=by
 unfold ZG;rw[ZZ,Ω,ji]
 simp
theorem ZV:EG i h u 0=⟨(FO i h u).nd++ [⟨h.getD u Ag,none,[],none,[],true⟩],(FO i h u).po,none,none⟩:=by
 unfold EG FO
 congr 1
 grind[hQ,Fl,ZG,Ac]
theorem ZX(a:u<h.length):EG i h u (A3 (h.getD u Ag)).length=FO i h (u+1):=by grind[EG,FO,Kj,iM,ψ]
theorem ZW{t:Nat}(a:t<(A3 (h.getD u Ag)).length)(b:((A3 (h.getD u Ag))[t]).1∉i.map Ad.r):EG i h u (t+1)=EG i h u t:=by grind[EG,ψ,oP,SK,Rd,hQ,Fl,D7]
theorem DZ(x:AJ):((A3 x).map Prod.fst).Nodup:=by
 unfold A3
 split
 .have:=PN (gf x);show ((NP (gf x)).map Prod.fst).Pairwise _;rw[ig];refine this.imp λ{a b} h e=>?_;rw[e,Pd.refl] at h;omega
 .exact List.nodup_nil
theorem ZY(E:(i.map Ad.r).Nodup){t j:Nat}(O:u<=h.length)(J:t<(A3 (h.getD u Ag)).length)(C:j<i.length)(A:(i.map Ad.r).idxOf ((A3 (h.getD u Ag))[t]).1=j)(B:((A3 (h.getD u Ag))[t]).1∈i.map Ad.r){x:Nd}{y:Po}(N:(EG i h u t).nd[u]? =some x)(I:(EG i h u t).po[j]? =some y):
  EG i h u (t+1)=⟨(EG i h u t).nd.set u (qQ x j y.q.length ((A3 (h.getD u Ag))[t]).2),(EG i h u t).po.set j (qP y u ((A3 (h.getD u Ag))[t]).2),none,none⟩:=by
 obtain ⟨d,G⟩:∃d,(A3 (h.getD u Ag))[t]=d:=⟨_,Z⟩
 rw[G] at A B⊢
 have v:d.1∉((A3 (h.getD u Ag)).take t).map Prod.fst:=λb=>by
  grind[DZ,kX]
 have K:(Kj (i.map Ad.r) h u).length=u:=by unfold Kj;simp
 have s:((h.map A3).take u).length=u:=by simp;omega
 have L:x=oP (i.map Ad.r) ((h.map A3).take u) (h.getD u Ag) ((A3 (h.getD u Ag)).take t):=by
  grind[EG]
 have l:(i.map (ZG ((h.map A3).take u++ [(A3 (h.getD u Ag)).take t])))[j]? =some y:=I;rw[ν,ω C] at l;have H:y=ZG ((h.map A3).take u++ [(A3 (h.getD u Ag)).take t]) i[j]:=(Option.some.inj l).symm
 have c:i[j].r=d.1:=by
  have g:=List.getElem_idxOf (kZ B);simp only[A,iC] at g;exact g
 have w:Gm ((A3 (h.getD u Ag)).take t) d.1=0:=HI v
 have D:y.q.length=(gM ((h.map A3).take u) d.1).length:=by
  rw[H,Fl,c,w];show (gM _ _++_).length=_;rw[c];simp
 unfold EG;rw[ψ J,G]
 congr 1
 .rw[List.set_append_right _ _ (by omega),K,Nat.sub_self,List.set_cons_zero]
  congr 2
  rw[L];unfold oP qQ;rw[W0 B,A,D]
  by_cases f:d.2<0
  .rw[cS B f,A,ς f]
  .rw[Rd (λb=>f b.2),κ f]
 .refine jk λa=>?_;rw[kB]
  by_cases e:j=a
  .subst e;rw[ς Z,ς (by simpa using C),ν,ω C];show some _=some _
   congr 1
   rw[H];unfold qP;rw[Fl,Fl,c];have g:Gm ((A3 (h.getD u Ag)).take t++ [d]) d.1=d.2:=Dx v;rw[g,w,s,c.symm];simp only[Int.add_zero,Po.mk.injEq,true_and,and_true]
   by_cases f:d.2<0
   .simp[f]
   .simp[f]
  .rw[κ e,ν,ν]
   cases hi:i[a]? with
   | none=>rfl
   | some z=>
    show some _=some _
    congr 1
    have o:=(φ.1 hi)
    have F:z.r≠d.1:=λM=>e (by
     have g:(i.map Ad.r)[j]'(by simpa using C)=(i.map Ad.r)[a]'(by simpa using o.1):=by
      rw[iC,iC,o.2,c,M]
     exact (List.getElem_inj E).1 g)
    rw[Fl,Fl];have:Gm ((A3 (h.getD u Ag)).take t++ [d]) z.r=Gm ((A3 (h.getD u Ag)).take t) z.r:=D7 F;rw[this]
end Go.Proofs.YteifpcnphnhaoaaGreat
namespace Go.Proofs.YteifpcnphnhaoaaGreat
open Go.RowKit Go.Shelf
variable{a:Nat->Prop}{w:World}{c:Value}{x:D}
def kD:D->D
 | .sl (some true) []=> .raw (.slice none 0 0)
 | x=>x
def vY:D->D
 | .agg cs=> .agg (cs.map kD)
 | x=>kD x
theorem cr(x:D):(kD x).one=x.one:=by
 unfold kD
 split<;>rfl
theorem AY.nrm1(h:AY w a x c):AY w a (kD x) c:=by
 unfold Go.Proofs.YteifpcnphnhaoaaGreat.kD
 split
 .cases h with
  | sl k i g f z u y A t=>
   rename_i b n s
   have r:=i true rfl
   have o:b=none:=by cases b with
    | none=>rfl
    | some _=>cases r
   subst o;have l:=g rfl;have j:n=0:=f.symm;subst l j;exact .raw rfl
 .exact h
theorem AY.nrm(h:AY w a x c):AY w a (vY x) c:=by
 unfold Go.Proofs.YteifpcnphnhaoaaGreat.vY
 split
 .rename_i l
  cases h with
  | agg k o j=>
   refine .agg (by rw[k,χ]) (λb f=>?_) λi b c f g=>?_
   .grind[cr]
   .rw[ν] at f
    cases hd:l[i]? with
    | none=>rw[hd] at f;cases f
    | some d=>
     rw[hd] at f;injection f with f;subst f
     exact (j i d c hd g).nrm1
 .exact h.nrm1
section
variable{P:Program}{F:Fr}{Q:Exit->AS->Prop}{ops:Array Oper}{l:List Oper}{n:Nat}{env:List (Nat×AV)}{hp:Hp}
theorem cm(t:Nat){x:D}(k:get env t=some (.d x))(h:Ak P F ops l Q ⟨n,(t,.d (vY x))::env,hp⟩):Ak P F ops l Q ⟨n,env,hp⟩:=λi c w b=>h i c w ⟨b.size,b.defs,λj a f=>by
 rcases Mc f with ⟨rfl,rfl⟩ | ⟨_,f⟩
 .have g:=b.env t _ k
  generalize c.tmps.getD t undef=v at g⊢
  cases g with
  | d h=>exact .d h.nrm
 .exact b.env j a f,b.heap⟩
end
variable{N:gK}{M:MF}{a:List AJ}{c:List Ad}{y:Po}{x:Nd}{i f:Nat}
def bX(M:MF)(h:Hd)(E:TypeId)(ys:List D):MF:=match h with
 | none=>M
 | some (b,c)=>B5 M b (.row E 1 c ys)
theorem Zl{f:Nat}:∀(H a:Hp),fl H f=some [.multi M]->Bn H f M=some a->a=H:=by
 intro H
 induction H with
 | nil=>intro a h;cases h
 | cons p r b=>
  grind[fl,Bn]
theorem bM{P:Program}{r:Ren}{j:Type}(L:SlLaysF.n6 P r){E:TypeId}{g g6:FuncId}{T:Func}(Q:P.funcs[g]? =some T)(N:(T.name== "runtime.NumGoroutine")=false){c:Code}(o:T.body=some c){bl:j->Nat}{px:j->List D}{tx:j->TypeId}(G:j->j->Int)(hO:Go.Sort.SWO (ltOf G))(i k:List j)(J:i.length<4611686018427387904)(hc:∀x∈i,∀y∈i,AL P g [.d (.ptr (.agg (px x))),.d (.ptr (.agg (px y)))] (.raw (.int .i64 (G x y))))(hu:∀H:List j,H.Perm i->H.Pairwise (λa b=>¬G b a<0)->H=k){F:Fr}{s:AS}{d:Nat}{x y:Operand}{ty:TypeId}{I:String}{V:Array Edge}{gd:Option (Nat×Bool)}{U:Array TypeId}{f n:Nat}{h:Hd}{fa:AV}{t:List D}{A:Hp}(X:r.f 6=g6)(Z:fl s.hp f=some [.multi M])(K:∀x∈i,M (bl x)=some (.cells (tx x) (px x)))(S:∀x∈i,∀c∈px x,c.one=true)(u:s.ev x=some (.d (gN h n)))(W:s.ev y=some fa)(R:∀w O ρ v,A7 w O ρ fa v->v= .func (.func g) #[] #[])(C:B1 M h E 1 t)(z:t=i.map λx=>pD (bl x) 0)(hn:n=i.length)(l:h≠none->i≠ [])(B:Bn s.hp f (bX M h E (k.map λx=>pD (bl x) 0))=some A)(Y:Nat.blt d s.n=true):
  AG P F ⟨some d,.call {callee:= .value (.func g6),args:= #[x,y],argTypes:=U},ty,I,V,gd⟩ s ⟨s.n,(d,.d (.tup []))::s.env,A⟩ (λ_ _=>true):=by
 match h,u,C,B,l with
 | none,u,C,B,_=>
  rw[Zl _ _ Z B];exact Yi L X u W Y
 | some (b,cap),u,C,B,l=>exact bL L Q N o G hO i k J hc hu X Z K S u W R C.2 z hn (l (by simp)) B Y
theorem ud(h k:Nat)(o l:Nat->Nat)(s:M h=some (ZT none 0 none 0 k)):CX h k o l ⟨[],[],none,none⟩ M:=by
 refine ⟨λi x f=>by simp at f,λj y a=>by simp at a,⟨λr=>?_,λr u b c w t v=>?_⟩,s,λi j g _=>by simp at g,λi j g _=>by simp at g,λx f=>(by cases f),λy a=>(by cases a)⟩
 .cases r<;>rfl
 .cases r<;>cases t
structure GJ (p:gB):Prop where
 i:p.it.length<=30
 r:p.ro.length<=100
 x:∀x∈p.it,x.po.length<=12/\x.pa.length<=12/\x.af.length<=12
def fx(x:AJ):Prop:=x.po.length<=12/\x.pa.length<=12/\x.af.length<=12
theorem GJ.b{p:gB}(h:GJ p):E6 p:=⟨by have:=h.r;omega,by have:=h.i;omega,λi a=>by have:=h.x i a;omega⟩
theorem Rj{g f:Type}{l:List (g×f)}(h:(l.map Prod.fst).Nodup):l.Nodup:=by
 have c:(l.map Prod.fst).Pairwise (λa b=>a≠b):=h;rw[ig] at c;exact c.imp λ{a b} h e=>h (by rw[e])
theorem Nj{x:AJ}(h:fx x):(A3 x).length<=60:=by
 unfold A3
 split
 .have g:(eo x).length<=(gf x).length:=by
   have f:(NP (gf x)).length<=(gH (gf x)).length:=by
    have c:(NP (gf x)).Perm ((gH (gf x)).filter λd=>decide (d.2≠0)):=by
     refine (List.perm_ext_iff_of_nodup ?_ ?_).2 λd=>?_
     .have:=PN (gf x);refine this.imp λ{a b} h e=>?_;rw[e,Pd.refl] at h;omega
     all_goals (grind[Rj,Fd,LW])
    rw[c.length_eq]
    grind
   exact gY f (I1 _)
  have:=Hz x;have:=h.1;have:=h.2.1;omega
 simp
theorem LV(x:AJ):Pg (A3 x):=by
 unfold A3
 split
 .rename_i b
  intro d a;exact o6 b d ((LW _ _).1 a).1
 .intro d a;cases a
theorem YK{D:List (AU×Int)}(h:Pg D)(r:AU): -1000000000000000<=Gm D r/\Gm D r<=1000000000000000:=by
 unfold Gm
 induction D with
 | nil=>simp[Ac]
 | cons d D a=>
  grind[Ac,Pg]
theorem Wz:∀{ds:List (List (AU×Int))} (_:∀D∈ds,Pg D) (r:AU),-(ds.length*1000000000000000)<=(ds.map λD=>Gm D r).sum/\(ds.map λD=>Gm D r).sum<=ds.length*1000000000000000
 | [],_,r=>by simp
 | D::ds,h,r=>by
  have c:=YK (h D (iV ..)) r;have b:=Wz (ds:=ds) (λD a=>h D (ip _ a)) r;simp only[ie,List.sum_cons,jj];omega
theorem Ki(a:List (List (AU×Int)))(r:AU):(gM a r).length<=a.length:=by
 unfold gM
 grind
theorem Xy(a:List AU)(D:List (AU×Int)):(W1 a D).length<=D.length:=by
 unfold W1;rw[χ];exact iI _ _
theorem XN(a:List AU)(b:List (List (AU×Int)))(D:List (AU×Int)):(XO a b D).length<=D.length:=by
 unfold XO;rw[χ];exact iI _ _
theorem eQ(h:N.nd[i]? =some x):(BL N).nd[i]? =some (FD x):=by
 show (N.nd.map FD)[i]? =_
 grind
theorem eP(h:N.po[i]? =some y):(BL N).po[i]? =some (Cg y):=by
 show (N.po.map Cg)[i]? =_
 grind
theorem fp(M:a.length<=30)(r:∀x∈a,fx x){k t j:Nat}(i:k<a.length)(h:BL N=EG c a k t)(E:N.nd[k]? =some x)(C:N.po[j]? =some y):
  (-1000000000000000000<=y.sum/\y.sum<=1000000000000000000)/\x.ef.length<=100000/\x.pl.length<=100000/\y.q.length<=100000:=by
 have o:=eQ E;have l:=eP C;rw[h] at o l;have u:(Kj (c.map Ad.r) a k).length=k:=by unfold Kj;simp
 have A:(A3 (a.getD k Ag)).length<=60:=Nj (r _ (by rw[FG Ag i];exact ϑ i));have g:(Kj (c.map Ad.r) a k++ [oP (c.map Ad.r) ((a.map A3).take k) (a.getD k Ag) ((A3 (a.getD k Ag)).take t)])[k]? =some (FD x):=o;rw[List.getElem?_append_right (by omega),u,Nat.sub_self] at g;have G:FD x=_:=(Option.some.inj g).symm;have K:x.ef=(FD x).ef:=rfl;have J:x.pl=(FD x).pl:=rfl;have b:(c.map (ZG ((a.map A3).take k++ [(A3 (a.getD k Ag)).take t])))[j]? =some (Cg y):=l;rw[ν] at b
 cases hj:c[j]? with
 | none=>rw[hj] at b;cases b
 | some z=>
  rw[hj] at b;have F:Cg y=ZG ((a.map A3).take k++ [(A3 (a.getD k Ag)).take t]) z:=(Option.some.inj b).symm;have I:y.sum=(Cg y).sum:=rfl;have H:y.q=(Cg y).q:=rfl;have w:((a.map A3).take k++ [(A3 (a.getD k Ag)).take t]).length<=31:=by simp;omega
  have B:=Wz (ds:=(a.map A3).take k++ [(A3 (a.getD k Ag)).take t]) (λD f=>by
   rcases ϖ.1 f with f | f
   .obtain ⟨x,_,rfl⟩:=Θ.1 (i8 f);exact LV x
   .rw[θ.1 f];exact (LV _).take t) z.r
  have L:=Ki ((a.map A3).take k++ [(A3 (a.getD k Ag)).take t]) z.r;have v:=Xy (c.map Ad.r) ((A3 (a.getD k Ag)).take t);have s:=XN (c.map Ad.r) ((a.map A3).take k) ((A3 (a.getD k Ag)).take t);rw[ϱ] at v s;rw[K,J,I,H,G,F];unfold ZG oP;dsimp only
  generalize (List.map (λD=>Gm D z.r) (List.take k (List.map A3 a)++ [List.take t (A3 (a.getD k Ag))])).sum=S at B⊢
  generalize (List.take k (List.map A3 a)++ [List.take t (A3 (a.getD k Ag))]).length=m at*
  omega
theorem rS(b:(c.map Ad.r).Nodup){k t j:Nat}(v:k<a.length)(s:t<(A3 (a.getD k Ag)).length){f:gK}(h:BL N=EG c a k t)(u:(c.map Ad.r).idxOf ((A3 (a.getD k Ag))[t]).1=j)(l:((A3 (a.getD k Ag))[t]).1∈c.map Ad.r){i:Nd}{g:Po}(A:N.nd[k]? =some x)(z:N.po[j]? =some y)(E:f.nd=N.nd.set k i)(C:FD i=FD (qQ x j y.q.length ((A3 (a.getD k Ag))[t]).2))(D:f.po=N.po.set j g)(B:Cg g=Cg (qP y k ((A3 (a.getD k Ag))[t]).2)):BL f=EG c a k (t+1):=by
 have r:=eQ A;have o:=eP z
 have w:j<c.length:=by
  have:=kZ l
  grind
 rw[h] at r o;rw[ZY b (Nat.le_of_lt v) s w u l r o,<-h];unfold BL;dsimp only;rw[E,D,List.map_set,List.map_set,C,B]
 rfl
theorem FJ.del{R:RI->gQ}(h:FJ M R){t:TypeId}{g:List D}(i:M f=some (.cells t g)):FJ (FF M f) R:=by
 refine ⟨λr=>?_,h.2⟩;have a:=h.1 r
 cases hh:(R r).h with
 | none=>rw[hh] at a;exact a
 | some p=>
  obtain ⟨j,c⟩:=p;rw[hh] at a;refine ⟨a.1,?_⟩;rw[Hg]
  .exact a.2
  .rintro rfl;have:=a.2
   grind
theorem CX.addN2{v I:Nat}{a w:Nat->Nat}(h:CX v I a w N M){x:Nd}(C:x.ef=[])(Q:x.eh=none)(B:x.pl=[])(O:x.ph=none){bn:Nat}(hM:M bn=some (VP x))(H:∀j,j<N.nd.length->a j≠bn){cap:Nat}(U:Bi (FF M v) N.nh f=none)(Y:N.nd.length+1<=cap){wb':Nat}(E:B5 (Bi (FF M v) N.nh) f (.row cO 1 cap ((List.range N.nd.length).map (λj=>B2 (a j))++ [B2 bn])) wb'=none):
  CX wb' I (Nh a N.nd.length bn) w {N with nd:=N.nd++ [x],nh:=some (f,cap)} (B5 (B5 (Bi (FF M v) N.nh) f (.row cO 1 cap ((List.range N.nd.length).map (λj=>B2 (a j))++ [B2 bn]))) wb' (ZT (some (f,cap)) (N.nd.length+1) N.mh N.po.length I)):=by
 have X:∀j,((N.po.getD j Cj).q.map λi=>B2 (Nh a N.nd.length bn i))=(N.po.getD j Cj).q.map λi=>B2 (a i):=λj=>hQ λe o=>by
  rcases iH (l:=N.po) (d:=Cj) j with g | g
  .rw[DX (h.q _ g e o)]
  .rw[g] at o;cases o
 have hR:∀r,r≠RI.n->Ce (Nh a N.nd.length bn) w {N with nd:=N.nd++ [x],nh:=some (f,cap)} r=Ce a w N r:=λr W=>by
  cases r with
  | q j=>show (⟨_,_,_,(N.po.getD j Cj).q.map _⟩:gQ)=_;rw[X];rfl
  | m=>rfl
  | n=>exact absurd Z W
  | e i=>
   show (⟨((N.nd++ [x]).getD i CR).eh,_,_,((N.nd++ [x]).getD i CR).ef.map _⟩:gQ)=⟨(N.nd.getD i CR).eh,_,_,(N.nd.getD i CR).ef.map _⟩
   rw[MO]
   split
   .rename_i e
    rw[C,Q,Φ,j8 (by omega)];rfl
   .rfl
  | p i=>
   show (⟨((N.nd++ [x]).getD i CR).ph,_,_,((N.nd++ [x]).getD i CR).pl.map _⟩:gQ)=⟨(N.nd.getD i CR).ph,_,_,(N.nd.getD i CR).pl.map _⟩
   rw[MO]
   split
   .rename_i e
    rw[B,O,Φ,j8 (by omega)];rfl
   .rfl
 have T:=h.rs.del h.w
 have u:=T.upd (R':=Ce (Nh a N.nd.length bn) w {N with nd:=N.nd++ [x],nh:=some (f,cap)}) .n hR (b:=f) (cap:=cap) U Z (by
  show ((List.range (N.nd++ [x]).length).map _).length<=cap
  simp;exact Y)
 have F:(Ce (Nh a N.nd.length bn) w {N with nd:=N.nd++ [x],nh:=some (f,cap)} .n).xs=(List.range N.nd.length).map (λj=>B2 (a j))++ [B2 bn]:=by
  show (List.range (N.nd++ [x]).length).map _=_;rw[Δ,υ,Q2]
 rw[F] at u
 have G:∀(K:Nat) (t:TypeId) (J:List D),t≠180->M K=some (.cells t J)->B5 (B5 (Bi (FF M v) N.nh) f (.row cO 1 cap ((List.range N.nd.length).map (λj=>B2 (a j))++ [B2 bn]))) wb' (ZT (some (f,cap)) (N.nd.length+1) N.mh N.po.length I) K=some (.cells t J):=λK t J V g=>by
  refine HF E ?_
  have A:FF M v K=some (.cells t J):=by
   rw[Hg]
   .exact g
   .rintro rfl;rw[h.w] at g;injection g with g;injection g with g;exact V g.symm
  exact Go.Proofs.YteifpcnphnhaoaaGreat.im U A λc hc=>by have:=T.blk (r:= .n) hc;rw[A] at this;cases this
 refine ⟨λi z s=>?_,λj y L=>G _ _ _ (by decide) (h.p j y L),⟨λr=>Mj E (u.1 r),u.2⟩,?_,λi k R G e=>?_,h.pi,λz s=>?_,λy L=>?_⟩
 .rcases jI s with ⟨A,S⟩ | ⟨A,S⟩
  .rw[DX A];exact G _ _ _ (by decide) (h.n i z S)
  .subst A S;rw[Gf];exact G _ _ _ (by decide) hM
 .rw[GG];show _=some (Al.cells _ [gN _ (N.nd++ [x]).length,_,_]);rw[Δ];rfl
 .have hi':i<N.nd.length+1:=by simpa using R
  have hk':k<N.nd.length+1:=by simpa using G
  by_cases e1:i=N.nd.length<;>by_cases e2:k=N.nd.length
  .omega
  .subst e1;rw[Gf,DX (by omega)] at e;exact absurd e.symm (H k (by omega))
  .subst e2;rw[Gf,DX (by omega)] at e;exact absurd e (H i (by omega))
  .rw[DX (by omega),DX (by omega)] at e;exact h.ni i k (by omega) (by omega) e
 .rcases ϖ.1 s with s | s
  .exact h.e z s
  .have e:=θ.1 s;subst e;refine ⟨λe o=>?_,λe o=>?_⟩
   .rw[C] at o;cases o
   .rw[B] at o;cases o
 .intro i R;have:=h.q y L i R
  simp;omega
section
variable{P:Program}{F:Fr}{s:AS}{d:Nat}{ty T T' E:TypeId}{pos:String}{aft:Array Edge}{g:Option (Nat×Bool)}{x:Operand}
theorem Sx{p:Option Addr}(b:P.underlying T=some (.pointer E))(c:s.ev x=some (.d (.raw (.pointer p))))(j:Nat.blt d s.n=true):AA P F ⟨some d,.binOp .neq T x (.const (.pointer none)) T',ty,pos,aft,g⟩ s d (.d (.raw (.bool (!p.isNone)))):=
 Cv _ j λl a w h=>by
  have f:=h.raw c;have i:P.pointee T=E:=by unfold Program.pointee;rw[b]
  have k:a.eval (.const (.pointer none))= .pointer none:=rfl;exact ⟨.bool (!p.isNone),by simp[execOp,f,k,UZ,binOp,run_equal_pointer_nil w T p (by rw[i];exact b)],.d (.raw Z)⟩
end
section
variable{P:Program}{F:Fr}{s:AS}{d:Nat}{ty T:TypeId}{pos:String}{aft:Array Edge}{g:Option (Nat×Bool)}{x:Operand}
theorem Yj(r k:Nat){f j b f2 l m:Nat}{t:TypeId}{u:List AV}(z:s.ev x=some (.ptr f j b))(B:ey s.hp f j=some (.blk t u))(E:u[b]? =some (.d (.raw (.map (some m)))))(C:ey s.hp r k=some (.addr f2 l (.map (some m))))(G:BU P T=true)(D:Nat.blt d s.n=true):
  AA P F ⟨some d,.load T x,ty,pos,aft,g⟩ s d (.map f2 l):=by
 have h:=AO (F:=F) (ty:=ty) (pos:=pos) (aft:=aft) (g:=g) z B E G D;refine ⟨h.1,h.2.1,λy i w o=>?_⟩;refine nZ (λa J ⟨v,I,c,H⟩=>⟨v,I,?_,H⟩) (h.2.2 y i w o)
 cases c with
 | d c=>cases c with
  | raw _=>
   obtain ⟨_,A⟩:=o.heap.sim r k _ C;exact .map A
end
variable{a:List AJ}{c:List Ad}{k:Nat}{N:gK}{f:gB}{g:Nat->Nat}{h:List Nat}{i:List AU}{j:Hd}{o:List Ad}{X:AJ}{t:Nat}{M:MF}{s:Nat}{y:Po}{u w:Nat}
def DT(p:gB):List Ad:=(II (p.ro.map Ad.r)).map λi=>p.ro.getD i I5
def Oy(y:Po):Po:={y with mi:=y.q.length}
def cy(p:gB):gK:=⟨(FO (DT p) (gC p) (gC p).length).nd,(FO (DT p) (gC p) (gC p).length).po.map Oy,none,none⟩
theorem cu{a:Type}{f:Ad->a}(h:(o.map f).Nodup)(k:Nat):((o.take k).map f).Nodup:=by grind
theorem cv{f:Ad->AU}(h:(o.map f).Nodup)(c:k<o.length):f o[k]∉(o.take k).map f:=λb=>by
 have a:=cu h (k+1);rw[EL c,kC] at a;exact a.2.2 _ b _ (List.mem_singleton_self _) rfl
theorem Hb(c:BB f=0):(f.ro.map Ad.r).Nodup:=by
 have g:=VI.1 (P6 c).1;rw[List.Nodup,ig,ia];intro i j h a b e;have:=g j (Ψ.2 a)
 grind[J9,Gc]
theorem sg(l:i.Nodup)(k:h.Perm (List.range i.length)){f:Nat->Nat}{r:AU}{z:Value}(o:r∈h.map λa=>i.getD a GO):Ac (V7 GO f i) r z=pV (f (h.getD ((h.map λa=>i.getD a GO).idxOf r) 0)) 0:=by
 have b:=kZ o;have c:=List.getElem_idxOf b
 generalize (h.map λa=>i.getD a GO).idxOf r=j at b c⊢
 rw[χ] at b;rw[iC] at c;have g:h[j]<i.length:=Ψ.1 (k.mem_iff.1 (ϑ b));rw[FG GO g] at c;rw[FG 0 b];exact Wv l g c
theorem pT(g:h.Perm (List.range i.length)){f:Nat->Nat}{r:AU}{z:Value}(j:r∉h.map λa=>i.getD a GO):Ac (V7 GO f i) r z=z:=by
 refine pA λb=>j ?_;obtain ⟨a,c,e⟩:=iN b;exact Θ.2 ⟨a,g.mem_iff.2 (Ψ.2 c),by rw[FG GO c,e]⟩
theorem Vn(p:gB):(DT p).map Ad.r=(II (p.ro.map Ad.r)).map λi=>(p.ro.map Ad.r).getD i GO:=by grind[DT,hQ,I5,GO]
theorem lM(y:Po):∀c∈lN y,c.one=true:=by
 intro c a;simp only[Υ,List.not_mem_nil,or_false] at a;rcases a with rfl | rfl | rfl | rfl | rfl | rfl | rfl | rfl | rfl | rfl<;>rfl
theorem bW(p:gB):∀i∈List.range p.ro.length,∀j∈List.range p.ro.length,AL prog 142 [.d (.ptr (.agg (lN (Jp (p.ro.getD i I5))))),.d (.ptr (.agg (lN (Jp (p.ro.getD j I5)))))] (.raw (.int .i64 (Nl (p.ro.map Ad.r) i j))):=by grind[ml,Jp,Nl]
theorem kw(c:CX u w (λ_=>0) g ⟨[],f.ro.map Jp,none,j⟩ M):∀i∈List.range f.ro.length,M (g i)=some (.cells 190 (lN (Jp (f.ro.getD i I5)))):=λi b=>by
 have a:=Ψ.1 b;refine c.p i (Jp (f.ro.getD i I5)) ?_;show (f.ro.map Jp)[i]? =_;rw[ν,ω a,FG I5 a];rfl
theorem bV(l:CX u w (λ_=>0) g ⟨[],f.ro.map Jp,none,j⟩ M):
  CX u w (λ_=>0) (λk=>g ((II (f.ro.map Ad.r)).getD k 0)) ⟨[],(DT f).map Jp,none,j⟩ (bX M j XK ((II (f.ro.map Ad.r)).map λx=>pD (g x) 0)):=by
 have v:(II (f.ro.map Ad.r)).Perm (List.range (f.ro.map Jp).length):=by
  grind[fk]
 have s:(II (f.ro.map Ad.r)).map (λi=>(f.ro.map Jp).getD i Cj)=(DT f).map Jp:=by
  grind[DT,hQ]
 cases hmh:j with
 | some q=>
  obtain ⟨b,c⟩:=q;subst hmh;have h:=l.perm Z (λy o=>by obtain ⟨x,_,rfl⟩:=Θ.1 o;exact ⟨Z,Z⟩) v rfl;dsimp only at h;rw[s] at h;exact h
 | none=>
  subst hmh;have C:B1 M none XK 1 ((List.range (f.ro.map Jp).length).map λa=>B2 (g a)):=l.rs.1 .m;have t:=VJ C rfl;rw[iF,χ] at t;have B:f.ro=[]:=je t
  have A:(DT f).map Jp=f.ro.map Jp:=by
   simp_all
  rw[A];rw[B] at l⊢;exact ⟨l.n,λa y o=>by simp at o,⟨λr=>by cases r<;>rfl,λr E b c G D F=>by cases r<;>cases D⟩,l.w,l.ni,λi a z _ _=>by simp at z,l.e,l.q⟩
theorem ZU(a:List Ad)(b:List AJ):BL ⟨[],a.map Jp,none,j⟩=FO a b 0:=by
 unfold BL FO Kj;dsimp only;rw[gw]
 rfl
theorem GY(a:BB f=0):((gC f).map AJ.id).Nodup:=by
 have b:gC f=BN f.it:=ς a;rw[b];exact ((aQ f.it).map AJ.id).nodup_iff.2 (Da (P6 a).2.1)
theorem OQ(a:BB f=0):((DT f).map Ad.r).Nodup:=by grind[DT,fk,χ,ir,FG,Hb]
theorem Qc{l:List AJ}(h:(l.map AJ.id).Nodup)(c:k<l.length):l[k].id∉(l.take k).map AJ.id:=λb=>by
 have a:((l.take (k+1)).map AJ.id).Nodup:=h.sublist ((List.take_sublist (k+1) l).map AJ.id);rw[EL c,kC] at a;exact a.2.2 _ b _ (List.mem_singleton_self _) rfl
theorem pw(h:BL N=FO c a k):N.nd.length=k:=by grind[Kj,χ,BL,FO]
theorem pS(h:BL N=FO c a k):N.po.length=c.length:=by grind[χ,BL,FO]
theorem n3{x:AJ}{nh:Hd}(b:a.getD k Ag=x)(h:BL N=FO c a k):BL {N with nd:=N.nd++ [⟨x,none,[],none,[],true⟩],nh:=nh}=EG c a k 0:=by
 subst b;rw[ZV,<-h];unfold BL;dsimp only;rw[Ω];rfl
theorem n5(g:a.getD k Ag=X)(b:t<(A3 X).length)(f:((A3 X)[t]).1∉c.map Ad.r):EG c a k (t+1)=EG c a k t:=by
 subst g;exact ZW b f
theorem n4{b:List Ad}(v:a.getD k Ag=X)(i:(b.map Ad.r).Nodup)(u:k<a.length)(l:t<(A3 X).length){c:gK}(h:BL N=EG b a k t)(o:(b.map Ad.r).idxOf ((A3 X)[t]).1=s)(r:((A3 X)[t]).1∈b.map Ad.r){x g:Nd}{f:Po}(z:N.nd[k]? =some x)(w:N.po[s]? =some y)(D:c.nd=N.nd.set k g)(B:FD g=FD (qQ x s y.q.length ((A3 X)[t]).2))(C:c.po=N.po.set s f)(A:Cg f=Cg (qP y k ((A3 X)[t]).2)):BL c=EG b a k (t+1):=by grind[rS]
theorem vR(h:BL N=EG c a k t):N.nd.length=k+1:=by grind[Kj,Δ,BL,EG]
theorem vQ(h:BL N=EG c a k t):N.po.length=c.length:=by
 have b:=gV (λN=>N.po.length) h;have f:(N.po.map Cg).length=(c.map _).length:=b
 grind
theorem n7(f:a.getD k Ag=X)(b:k<a.length):EG c a k (A3 X).length=FO c a (k+1):=by
 subst f;exact ZX b
theorem q6(h:BL N=FO c a a.length):B8 N=a.map AJ.id:=by
 have j:N.nd.map FD=Kj (c.map Ad.r) a a.length:=gV (λN=>N.nd) h;have g:B8 N=(N.nd.map FD).map λx=>x.it.id:=by unfold B8;rw[gw];rfl
 rw[g,j];unfold Kj;rw[gw]
 apply ir (by simp)
 intro i f b;simp only[iC,k6,Function.comp];show (a.getD i Ag).id=_
 grind
theorem eE{b a:List Po}(f:s<b.length)(h:a=(b.take s).map Oy++b.drop s)(c:a[s]? =some y):a.set s (Oy y)=(b.take (s+1)).map Oy++b.drop (s+1):=by grind[χ,kY]
theorem lc(g:gC f=a)(b:DT f=c):cy f=⟨(FO c a a.length).nd,(FO c a a.length).po.map Oy,none,none⟩:=by
 unfold cy;rw[g,b]
theorem cw{b:gK}(f:BL N=FO c a a.length)(h:b.nd=N.nd)(g:b.po=N.po.map Oy):BL b=⟨(FO c a a.length).nd,(FO c a a.length).po.map Oy,none,none⟩:=by
 rw[<-f];unfold BL;dsimp only;rw[h,g,gw,gw]
 rfl
set_option maxRecDepth 100000 in
theorem Ur(p:gB)(hf:GJ p)(hE:BB p=0):AP prog 96 [.d (Bf p)] [] λr H'=>∃B u l o N M bs,r= .d (.tup [pD B 0,AF 0])/\H'=HW u bs (G4 l (B8 N)) M/\CX B u l o N M/\BL N=cy p:=by
 have hck:=HC p hf.b;rw[hE] at hck;have hrn:=Hb hE;have hrl:=hf.r;refine Av func96 Z Z ntmps96 Z Z Z λF H=>(AC (AE ?_));refine V (Bh 1 Z Z Z Z Z Z Z) (AB Z Z (AB Z Z (AD (AC (AC (AE (J (Ay Z Z Bp Z Z Z) (J (Au (hck) Z Z) ?_))))))));refine AB Z Z (AD (AC (AE (ek Z Z (J (C6 Z Z Z) (AD (Cr Z (Z) (AW ?_))))))));refine AC (AE (V (Pc 50 Z Z Z Z) (cn 51 50 0 Z Z Z Z Z λu=>(l5 26 51 0 (.inl Z) Z (J (E5 sA su Z Z Z) (cm 27 Z (V (Bh 2 Z Z Z Z Z Z Z) (AB Z Z ?_))))))));refine AD (AC (IC 40 Z Z Z (fo 5 2 40 (ds:=[gN none 0,gN none 0,Ls (.map (some u))]) H Z Z Z Z Z Z Z Z Z Z Z (λ_=>rfl) λB hwb=>(AE (V (Pc 3 Z Z Z Z) (AB Z Z (AD (AC ?_))))))));refine AC (AE (J (AK Z DW Z Z Z) (J (AO Z Z Z NO Z) (J (BS Z an Z) (ek Z Z (AD (AZ (BM (α:=Nat×(Nat->Nat)×Hd×MF) (λq=>⟨142,[(1,(.ptr 1 0 0)),(5,(.d (pD B 0))),(6,(.map 3 0)),(31,(.d (.sl none (p.ro.map Bj)))),(32,(.d (AF (p.ro.length:Int)))),(33,(.d (AF (q.1:Int))))],[(1,[.blk 39 [.d (.sl none (p.ro.map Bj)),.d (.sl none (p.it.map Af))]]),(3,[BY Bc Ls (V7 GO q.2.1 ((p.ro.take q.1).map Ad.r))]),(40,[.multi q.2.2.2]),(50,[BY AF Ls (G4 (λ_=>0) [])]),(51,[.addr 50 0 (.map (some u))])]⟩) (λq=>q.1<=p.ro.length/\CX B u (λ_=>0) q.2.1 ⟨[],(p.ro.take q.1).map Jp,none,q.2.2.1⟩ q.2.2.2/\(q.2.2.1≠none->0<q.1)) (λq=>p.ro.length-q.1) ((0,(λ_=>0),none,B5 (λ_=>none) B (ZT none 0 none 0 u))) (⟨ζ _,ud _ _ _ _ (show B5 (λ_=>none) B (ZT none 0 none 0 u) B=_ from GG _ _ _),λh=>absurd Z h⟩) (AX H [1,3,40,50,51] Z Z ⟨Z,Z,Z,Z,Z,Z,trivial⟩) ?_))))))));rintro ⟨k,o,mh,M⟩ ⟨hk0,G,hmh⟩;dsimp only at hk0 G hmh⊢;refine AC (AE (J (Az Z Z Z) (AD (AC (A6 Z (λh34=>?_) (λh34=>?_))))))
 .have g:k<p.ro.length:=BQ h34;refine AW (AC (AZ (AC ?_)));have hpl:((p.ro.take k).map Jp).length=k:=by rw[χ,ϱ];omega
  have hpr:((p.ro.take k).map Ad.r).length=k:=by rw[χ,ϱ];omega
  refine AE (J (BC (k) Z Z (Z) (A1 g) an Z KS Z) (J (C7 Z Z Vi Z) ?_));refine V (Bx 4 RP Z Z Z Z) (V (B3 Z Z Z Z Z Z Z KS) (AD (AC (AE (ek Z Z (J (AK Z EX Z Z Z) (J (Ay Z Z C9 Z Z Z) (J (AK Z EX Z Z Z) ?_))))))));refine J (Ay Z Z C9 Z Z Z) (J (AK Z PB Z Z Z) (J (AO Z Z Z Fo Z) (J (E5 rx sp Z Z Z) (cm 44 Z (V (Bh 5 Z Z Z Z Z Z Z) (cp 45 5 40 (ds:=lN (Jp p.ro[k])) H Z Z Z Z Z Z Z Z Z Z Z (λ_=>rfl) λbn U=>(V (VH (V7 GO o ((p.ro.take k).map Ad.r)) (p.ro[k].r) (pV bn 0) Z Z Z X9 CY Z Z) (AD ?_))))))));have hrnk:p.ro[k].r∉(p.ro.take k).map Ad.r:=cv hrn g;rw[Wu hrnk,hpr,<-EL g];have ey:Ac (V7 GO (Nh o k bn) ((p.ro.take (k+1)).map Ad.r)) p.ro[k].r (.pointer none)=pV bn 0:=by rw[Wv (i:=k) (cu hrn (k+1)) (by rw[χ,ϱ];omega) (by rw[iC,List.getElem_take]),Gf]
  have A:=G.fresh (m:=VO (Jp p.ro[k])) U;have hpb:((List.range k).map o).length=k:=by simp
  have I:B5 M bn (VO (Jp p.ro[k])) B=some (ZT none 0 mh ((List.range k).map o).length u):=by rw[hpb];have h:_=some (ZT none 0 mh ((p.ro.take k).map Jp).length u):=A.w;rw[hpl] at h;exact h
  have hmr:B1 (B5 M bn (VO (Jp p.ro[k]))) mh XK 1 (((List.range k).map o).map B2):=by have h:B1 _ mh XK 1 ((List.range ((p.ro.take k).map Jp).length).map λj=>B2 (o j)):=A.rs.1 .m;rw[hpl] at h;rw[gw];exact h
  refine CK [[],[],[1],[1,2],[1,2,3],[],[],[6],[5,6,7],[5,6,7,8],[1,2,3,4,5,6,7,8,9],rg 11,rg 12,rg 13] mixed Z (By (Ap 5 Z Z (Ap 5 Z Z (AR [47] Z (Dh Z Z) (AR [48] Z (Cd Z LM Z Z Z) (Aq [49] [40] Z Z (λ_=>Aa (EI (f:=40) Z Z (I) Z XY Z)) (Ap 6 Z Z (AR [8] Z (AK Z EX Z Z Z) ?_))))))));refine Aq [52] [4] Z Z (λ_=>Aa (Ay Z Z C9 Z Z Z)) (Aq [51,53] [3] Z Z (λ_=>Aa (IV (V7 GO (Nh o k bn) ((p.ro.take (k+1)).map Ad.r)) p.ro[k].r (.pointer none) (pV bn 0) Z Z Z X9 CY ah ey Z)) (F6 [54] [6] [(55,_)] Z Z (λ_=>F7 (C1 6 oD Z Z Z Z Z Z Z Z)) (.inr ⟨55,_,Z,Z,Z,Z,Z⟩) Z Z Z Z Z (F6 [50,55] [61,40,6] [(56,_)] Z Z (λ_=>F7 (H7 50 61 40 hmr Z Z (by simp) Z Z Z Z Z (Ev (emb:=B2) ((List.range k).map o) [bn] Z Z Z Z Z Z Z Z oD (by simp;omega) Z Z Z Z))) (.inr ⟨56,_,Z,Z,Z,Z,Z⟩) Z Z Z Z Z (Bu 11 Z Z Z (Ab 12 Z Z (F2 56 61 40 H Z Z Z (by simp) (by simp) Z Z Z Z Z Z Z (λ_ _=>rfl) λb1 c1 hb1 hc1=>(J (Dh Z Z) (AD ⟨Z,?_⟩))))))));refine Ab 13 Z Z (J (Cd Z LM Z Z Z) (AD ⟨Z,?_⟩));refine Ab 14 Z Z (V (QF (f:=40) Z Z Z Z (A.keepM hb1 I) ((by show _<3;omega)) Z sW) (AD ⟨Z,?_⟩));refine Bz ?_;have e1:((List.range ((p.ro.take k).map Jp).length).map (λj=>B2 (o j))++ [B2 bn])=((List.range k).map o++ [bn]).map B2:=by rw[hpl,Ω,gw];rfl
  have e2:((List.range k).map o++ [bn]).length=((p.ro.take k).map Jp).length+1:=by simp;omega
  have O:=A.addM (y:=Jp p.ro[k]) (bn:=bn) Z Z (GG _ _ _) (λj hj e=>by have h1:=G.p j _ (ω hj);rw[e,U] at h1;cases h1) hb1 (cap:=c1) (by have h:=hc1;simp at h⊢;omega);dsimp only at O;rw[e1,<-e2,<-EL g,hpl] at O;refine AE (J (Aj Z Z (Ξ _ (by omega)) Z) (ek Z Z (AD ?_)));exact ⟨(k+1,Nh o k bn,some (b1,c1),_),⟨by show k+1<=_;omega,O,λ_=>Nat.succ_pos _⟩,by show p.ro.length-(k+1)<p.ro.length-k;omega,AX H [1,3,40,50,51] Z (Z) ⟨Z,Z,Z,Z,Z,Z,trivial⟩⟩
 .refine Aw (AC ?_);have hkk:k=p.ro.length:=by have h:=h34;omega
  subst hkk;rw[gy] at G⊢;have Q:M B=some (ZT none 0 mh p.ro.length u):=by have h:_=some (ZT none 0 mh (p.ro.map Jp).length u):=G.w;rw[χ] at h;exact h
  have hR3:=bV G;have hmr:B1 M mh XK 1 ((List.range p.ro.length).map λj=>B2 (o j)):=by have h:B1 _ mh XK 1 ((List.range (p.ro.map Jp).length).map λj=>B2 (o j)):=G.rs.1 .m;rw[χ] at h;exact h
  refine AE (ek Z Z (J (Dh Z Z) (J (Cd Z LM Z Z Z) (J (EI (f:=40) Z Z (Q) Z XY Z) (V (bM qE func142 Z Z (f:=40) (bl:=o) (px:=λj=>lN (Jp (p.ro.getD j I5))) (tx:=λ_=>190) (Nl (p.ro.map Ad.r)) (RK _).swo (List.range p.ro.length) (II (p.ro.map Ad.r)) (by simp;omega) (bW p) (λys h1 h2=>Yn hrn (by rw[χ];exact h1) h2) Z Z (kw G) (λ_ _=>lM _) Z Z MT hmr Z (by simp) (λh=>by have h1:=hmh h;intro h2;have h3:=gV List.length h2;rw[iF,jO] at h3;omega) Z Z) (AD (AC (AC ?_))))))))
  obtain ⟨a,v⟩:∃a,gC p=a:=⟨_,Z⟩
  have hoi:=I9 p hf.b;rw[v] at hoi
  obtain ⟨c,s⟩:∃c,DT p=c:=⟨_,Z⟩
  have hitl:a.length<=30:=by rw[<-v];exact gY (Dp p) hf.i
  have hrol:c.length<=100:=by rw[<-s];unfold DT;rw[χ,(fk _).length_eq,iF,χ];exact hrl
  have hitx:∀x∈a,fx x:=λx hx=>hf.x x (Ia (p:=p) (by rw[v];exact hx));have hin:(a.map AJ.id).Nodup:=by rw[<-v];exact GY hE
  have hroN:(c.map Ad.r).Nodup:=by rw[<-s];exact OQ hE
  have hpin:=λ(r:AU) (h:r∈c.map Ad.r)=>sg (z:= .pointer none) hrn (fk (p.ro.map Ad.r)) (f:=o) (r:=r) (by rw[<-Vn,s];exact h);have R:=λ(r:AU) (h:r∉c.map Ad.r)=>pT (z:= .pointer none) (fk (p.ro.map Ad.r)) (f:=o) (r:=r) (by rw[<-Vn,s];exact h);rw[<-Vn,s] at hpin;rw[s] at hR3
  generalize bX M mh XK ((II (p.ro.map Ad.r)).map λx=>pD (o x) 0)=M2 at hR3⊢
  obtain ⟨w,hpb2⟩:∃f:Nat->Nat,(λk=>o ((II (p.ro.map Ad.r)).getD k 0))=f:=⟨_,Z⟩
  rw[hpb2] at hR3;have S:∀r,r∈c.map Ad.r->Ac (V7 GO o (p.ro.map Ad.r)) r (.pointer none)=pV (w ((c.map Ad.r).idxOf r)) 0:=λr h=>by rw[hpin r h,<-hpb2]
  obtain ⟨pm,hpm⟩:∃m,V7 GO o (p.ro.map Ad.r)=m:=⟨_,Z⟩
  rw[hpm] at S R⊢;refine AE (J (Ay Z Z Bp Z Z Z) (J (Au (hoi) Z Z) (J (BS Z E0 Z) (ek Z Z (AD (AZ (BM (α:=Nat×Nat×(Nat->Nat)×gK×MF) (λq=>⟨142,[(1,(.ptr 1 0 0)),(5,(.d (pD q.2.1 0))),(6,(.map 3 0)),(66,(.d (.sl none ((a.map AJ.id).map AF)))),(67,(.d (AF ((a.map AJ.id).length:Int)))),(68,(.d (AF (q.1:Int))))],[(1,[.blk 39 [.d (.sl none (p.ro.map Bj)),.d (.sl none (p.it.map Af))]]),(3,[BY Bc Ls pm]),(40,[.multi q.2.2.2.2]),(50,[BY AF Ls (G4 q.2.2.1 ((a.take q.1).map AJ.id))]),(51,[.addr 50 0 (.map (some u))])]⟩) (λq=>q.1<=a.length/\CX q.2.1 u q.2.2.1 w q.2.2.2.1 q.2.2.2.2/\BL q.2.2.2.1=FO c a q.1) (λq=>a.length-q.1) ((0,B,(λ_=>0),⟨[],c.map Jp,none,mh⟩,M2)) (⟨ζ _,hR3,ZU c a⟩) (AX H [1,3,40,50,51] Z Z ⟨Z,Z,Z,Z,Z,Z,trivial⟩) ?_)))))));rintro ⟨k,B,l,N,M⟩ ⟨hk0,G,hT⟩;dsimp only at hk0 G hT⊢;refine AC (AE (J (Az Z Z Z) (AD (AC (A6 Z (λh69=>?_) (λh69=>?_))))))
  .have g:k<a.length:=by have h:=h69;rw[χ] at h;exact BQ h
   refine AW (AC (AZ (AC ?_)))
   obtain ⟨X,hX⟩:∃X,a.getD k Ag=X:=⟨_,Z⟩
   have L:a[k]=X:=by rw[<-hX,FG Ag g]
   have hidk:X.id∉(a.take k).map AJ.id:=by rw[<-L];exact Qc hin g
   have hitk:Ol a X.id=(X,true):=by have h:=UI g (Qc hin g) rfl;rw[L] at h;exact h
   have hip:=qT p X.id hf.b;rw[v,hitk] at hip;have hk70:((a.map AJ.id).map AF)[k]? =some (AF X.id):=by rw[ν,ν,ω g,L];rfl
   refine AE (J (BC (k) Z Z (Z) (hk70) E0 Z BW Z) (J (CG Z Z Am Z) (AB Z Z (AD (AC (AE (J (Ay Z Z Bp Z Z Z) (ek Z Z ?_))))))));refine J (Au (hip) Z Z) (ek Z Z (J (De Z Z Z) (J (De Z Z Z) (V (Bx 7 FK Z Z Z Z) (V (B3 Z Z Z Z Z Z Z Ch) (AB Z Z (AD (AC ?_))))))));refine AE (J (Ay Z Z CM Z Z Z) (J (E5 rz ss Z Z Z) (cm 79 Z (V (Bh 8 Z Z Z Z Z Z Z) (AB Z Z (AD (AC (fo 13 8 40 (ds:=v0 ⟨X,none,[],none,[],true⟩) H Z Z Z Z Z Z Z Z Z Z Z (λ_=>rfl) λbn U=>?_))))))));have hNk:N.nd.length=k:=pw hT;have A:=G.fresh (m:=VP ⟨X,none,[],none,[],true⟩) U;have hnb:((List.range k).map l).length=k:=by simp
   have I:B5 M bn (VP ⟨X,none,[],none,[],true⟩) B=some (ZT N.nh ((List.range k).map l).length N.mh N.po.length u):=by rw[hnb];have h:_=some (ZT N.nh N.nd.length N.mh N.po.length u):=A.w;rw[hNk] at h;exact h
   have hnr:B1 (FF (B5 M bn (VP ⟨X,none,[],none,[],true⟩)) B) N.nh cO 1 (((List.range k).map l).map B2):=by have h:B1 _ N.nh cO 1 ((List.range N.nd.length).map λj=>B2 (l j)):=(A.rs.del A.w).1 .n;rw[hNk] at h;rw[gw];exact h
   refine nP 5 20 40 Z Z Z I Z Z Z Z (CK [[],[],[1],[1,2],[1,2,3],[],[],[6],[6,7],[6,7,8],[],[10],[6,7,8,9,10,11],[],[0,1,2,3,4,6,7,8,9,10,11,12],[0,1,2,3,4,6,7,8,9,10,11,12,14],[0,1,2,3,4,6,7,8,9,10,11,12,14,15],[0,1,2,3,4,5,6,7,8,9,10,11,12,14,15,16],[0,1,2,3,4,5,6,7,8,9,10,11,12,14,15,16,17],rg 19] mixed Z (By (Ap 5 Z Z (Ap 5 Z Z (AR [82] Z (L4 Z Z) (AR [83] Z (AK Z Nf Z Z Z) (Aq [84] [20,51] Z Z (λ_=>Aa (Yj 51 0 Z Z Z Z XX Z)) ?_)))))));refine Ap 10 Z Z (Ap 5 Z Z (AR [87] Z (L4 Z Z) (AR [88] Z (AK Z JX Z Z Z) (Aq [89] [20] Z Z (λ_=>Aa (AO Z Z Z HD Z)) (Ap 13 Z Z (F6 [91] [9] [(92,_)] Z Z (λ_=>F7 (C1 9 XG Z Z Z Z Z Z Z Z)) (.inr ⟨92,_,Z,Z,Z,Z,Z⟩) Z Z Z Z Z (F6 [90,92] [60,40,9] [(93,_)] Z Z (λ_=>F7 (H7 90 60 40 hnr Z Z (by simp) Z Z Z Z Z (Ev (emb:=B2) ((List.range k).map l) [bn] Z Z Z Z Z Z Z Z XG (by simp;omega) Z Z Z Z))) (.inr ⟨93,_,Z,Z,Z,Z,Z⟩) Z Z Z Z Z (Ap 13 Z Z ?_))))))));refine AR [81] Z (L4 Z Z) (AR [95] Z (AK Z JX Z Z Z) (F6 [96,93] [20,60] [] Z Z (λ_=>F7 (B3 Z Z Z Z Z Z Z nq)) (.inl ⟨Z,Z⟩) Z Z Z Z Z (F6 [85,86] [50] [(97,_)] Z Z (λ_=>F7 (H3 (G4 l ((a.take k).map AJ.id)) (X.id) ((.pointer none)) Z Z Z Xa IS Wm Z Z)) (.inr ⟨97,_,Z,Z,Z,Z,Z⟩) Z Z Z Z Z (AR [97] Z (DC Z Z Z) (Bu 19 Z Z Z (Ab 20 Z Z (V (H5 (G4 l ((a.take k).map AJ.id)) (X.id) ((.pointer none)) (pV bn 0) Z Z Z IS Z Z) (AD ⟨Z,?_⟩))))))));refine Bz (AC (Wf 93 60 40 20 0 H Z Z Z (by simp) (by simp) Z Z (λ_ _=>rfl) (λ_ _=>rfl) Z (λ_ _=>rfl) (λ_ _=>rfl) Z Z (λ_ _=>rfl) (λ_ _=>rfl) (λ_ _=>rfl) (λ_ _=>rfl) λb1 c1 hb1 hc1=>(fo 5 20 40 (ds:=[gN (some (b1,c1)) ((List.range k).map l++ [bn]).length,gN N.mh N.po.length,Ls (.map (some u))]) H Z Z Z Z Z Z Z Z Z Z Z (λ_=>rfl) λwb2 Q=>?_)));have hby:BX (G4 l ((a.take k).map AJ.id)) X.id (pV bn 0)=G4 (Nh l k bn) ((a.take (k+1)).map AJ.id):=by have h:=Wu (d:=(0:Int)) (f:=l) (b:=bn) hidk;rw[show ((a.take k).map AJ.id).length=k by rw[χ,ϱ];omega,<-L,<-EL g] at h;rw[<-L];exact h
   rw[hby];have e1:((List.range N.nd.length).map (λj=>B2 (l j))++ [B2 bn])=((List.range k).map l++ [bn]).map B2:=by rw[hNk,Ω,gw];rfl
   have e2:((List.range k).map l++ [bn]).length=N.nd.length+1:=by simp;omega
   have O:=A.addN2 (x:=⟨X,none,[],none,[],true⟩) (bn:=bn) Z Z Z Z (GG _ _ _) (λj hj e=>by have h1:=G.n j _ (ω hj);rw[e,U] at h1;cases h1) hb1 (cap:=c1) (by have h:=hc1;simp at h;omega) (wb':=wb2) (by rw[e1];exact Q);rw[e1,<-e2,hNk] at O;have hT0:=n3 (x:=X) (nh:=some (b1,c1)) hX hT;have hfk:fx X:=hitx X (by rw[<-L];exact ϑ g);have hdl:=Nj hfk;refine AE (J (Ay Z Z CM Z Z Z) (J (Au (U7 X (by have h:=hfk.1;omega) (by have h:=hfk.2.1;omega) (by have h:=hfk.2.2;omega)) Z Z) (ek Z Z (J (De Z Z Z) (J (De Z Z Z) (AB Z Z (AB Z Z ?_)))))));refine AD (AC (AE (ek Z Z (J (BS Z underlying215 Z) (ek Z Z (AD (AZ (BM (α:=Nat×gK×MF) (λr=>⟨142,[(1,(.ptr 1 0 0)),(5,(.d (pD wb2 0))),(6,(.map 3 0)),(66,(.d (.sl none ((a.map AJ.id).map AF)))),(67,(.d (AF ((a.map AJ.id).length:Int)))),(68,(.d (AF (k:Int)))),(13,(.d (pD bn 0))),(104,(.d (.sl none ((A3 X).map Px)))),(105,(.d (AF ((A3 X).length:Int)))),(106,(.d (AF (r.1:Int))))],[(1,[.blk 39 [.d (.sl none (p.ro.map Bj)),.d (.sl none (p.it.map Af))]]),(3,[BY Bc Ls pm]),(40,[.multi r.2.2]),(50,[BY AF Ls (G4 (Nh l k bn) ((a.take (k+1)).map AJ.id))]),(51,[.addr 50 0 (.map (some u))])]⟩) (λr=>r.1<=(A3 X).length/\CX wb2 u (Nh l k bn) w r.2.1 r.2.2/\BL r.2.1=EG c a k r.1) (λr=>(A3 X).length-r.1) ((0,_,_)) (⟨ζ _,O,hT0⟩) (AX H [1,3,40,50,51] Z Z ⟨Z,Z,Z,Z,Z,Z,Z,Z,Z,Z,trivial⟩) ?_))))))));rintro ⟨t,N3,M3⟩ ⟨ht0,hR4,D⟩;dsimp only at ht0 hR4 D⊢;refine AC (AE (J (Az Z Z Z) (AD (AC (A6 Z (λY=>?_) (λY=>?_))))))
   .have ht1:t<(A3 X).length:=BQ Y;refine AW (AC (AZ (AC (AE (J (BC (t) Z Z (Z) (A1 ht1) underlying215 Z Wx Z) ?_)))));refine J (C7 Z Z oG Z) (V (Bx 10 a8 Z Z Z Z) (V (B3 Z Z Z Z Z Z Z Wx) (AD (AC (AE (ek Z Z (J (AK Z LG Z Z Z) (J (Ay Z Z C9 Z Z Z) ?_))))))))
    by_cases hm:((A3 X)[t]).1∈c.map Ad.r
    .refine J (IV pm ((A3 X)[t]).1 (.pointer none) (pV (w ((c.map Ad.r).idxOf ((A3 X)[t]).1)) 0) Z Z Z X9 CY ah (S _ hm) Z) (AB Z Z (AD (AC (AE (ek Z Z (J (Sx underlying186 Z Z) (AD (Bw Z (Z) ?_))))))));have hnl3:N3.nd.length=k+1:=vR D;have hpl3:N3.po.length=c.length:=vQ D
     obtain ⟨x,hx⟩:∃x,N3.nd[k]? =some x:=⟨_,ω (by omega)⟩
     have hjl:(c.map Ad.r).idxOf ((A3 X)[t]).1<N3.po.length:=by rw[hpl3];have h:=kZ hm;rw[χ] at h;exact h
     obtain ⟨y,hy⟩:∃y,N3.po[(c.map Ad.r).idxOf ((A3 X)[t]).1]? =some y:=⟨_,ω hjl⟩
     have hbd:=fp hitl hitx g D hx hy;have hda:=LV X _ (ϑ ht1);have hj:=qN hR4 hx hy ((A3 X)[t]).2 ⟨by omega,by omega⟩ hbd.1 hbd.2.1 hbd.2.2.1 hbd.2.2.2;rw[Gf] at hj;refine AE (ek Z Z (ek Z Z (J (AK Z Xv Z Z Z) (J (AO Z Z Z Fo Z) ?_))));refine Ca (VV hj Z [40] ⟨Z,trivial⟩ Z Z Z Z (λr H' ⟨e1,N',M',e2,_⟩=>by subst e1 e2;exact ⟨Z,Z,Z⟩) Z) Z ?_;rintro _ ⟨r,H',⟨rfl,N4,M4,rfl,E,hnh4,hmh4,⟨x',hx4,ex4⟩,y',hy4,ey4⟩,rfl⟩;refine AD (AE (J (Aj Z Z (Ξ _ (by omega)) Z) (ek Z Z (AD ?_))));exact ⟨(t+1,N4,M4),⟨by show t+1<=_;omega,E,n4 hX hroN g ht1 D Z hm hx hy hx4 ex4 hy4 ey4⟩,by show (A3 X).length-(t+1)<(A3 X).length-t;omega,AX H [1,3,40,50,51] Z (Z) ⟨Z,Z,Z,Z,Z,Z,Z,Z,Z,Z,trivial⟩⟩
    .refine J (IV pm ((A3 X)[t]).1 (.pointer none) (.pointer none) Z Z Z X9 CY ah (R _ hm) Z) (AB Z Z (AD (AC (AE ?_))));refine ek Z Z (J (Sx underlying186 Z Z) (AD (Cr Z (Z) (AW (AE (J (Aj Z Z (Ξ _ (by omega)) Z) (ek Z Z (AD ?_))))))));exact ⟨(t+1,N3,M3),⟨by show t+1<=_;omega,hR4,by show BL N3=EG c a k (t+1);rw[n5 hX ht1 hm];exact D⟩,by show (A3 X).length-(t+1)<(A3 X).length-t;omega,AX H [1,3,40,50,51] Z (Z) ⟨Z,Z,Z,Z,Z,Z,Z,Z,Z,Z,trivial⟩⟩
   .refine Aw ?_;have hte:t=(A3 X).length:=by have h:=Y;omega
    have hT5:BL N3=FO c a (k+1):=by rw[<-n7 hX g,<-hte];exact D
    refine AE (J (Aj Z Z (Ξ _ (by omega)) Z) (ek Z Z (AD ?_)));exact ⟨(k+1,wb2,Nh l k bn,N3,M3),⟨by show k+1<=_;omega,hR4,hT5⟩,by show a.length-(k+1)<a.length-k;omega,AX H [1,3,40,50,51] Z (Z) ⟨Z,Z,Z,Z,Z,Z,trivial⟩⟩
  .refine Aw (AC (AC ?_));have hke:k=a.length:=by have h:=h69;rw[χ] at h;omega
   subst hke;rw[gy];have hwbf:=G.w;have hpzf:N.mh=none->N.po.length=0:=λh=>by have h1:B1 M N.mh XK 1 ((List.range N.po.length).map λj=>B2 (w j)):=G.rs.1 .m;have h2:=VJ h1 h;rw[iF] at h2;exact h2
   have hids:=q6 hT;have hNl:N.po.length=c.length:=pS hT;refine AE ?_;refine ek Z Z (J (Dh Z Z) (J (Cd Z LM Z Z Z) (J (EI (f:=40) Z Z (hwbf) Z XY Z) (J (Wg hpzf Z underlying177 Z) (ek Z Z (AD (AZ (BM (α:=Nat×gK×MF) (λr=>⟨142,[(5,(.d (pD B 0))),(126,(.d (gN N.mh N.po.length))),(127,(.d (AF (N.po.length:Int)))),(128,(.d (AF (r.1:Int))))],[(40,[.multi r.2.2]),(50,[BY AF Ls (G4 l (a.map AJ.id))]),(51,[.addr 50 0 (.map (some u))])]⟩) (λr=>r.1<=N.po.length/\CX B u l w r.2.1 r.2.2/\r.2.1.nd=N.nd/\r.2.1.mh=N.mh/\r.2.1.po=(N.po.take r.1).map Oy++N.po.drop r.1) (λr=>N.po.length-r.1) ((0,N,M)) (⟨ζ _,G,Z,Z,Z⟩) (AX H [40,50,51] Z Z ⟨Z,Z,Z,Z,trivial⟩) ?_))))))));rintro ⟨j,N5,M5⟩ ⟨hj0,E,K,T,C⟩;dsimp only at hj0 E K T C⊢;refine AC (AE (J (Az Z Z Z) (AD (AC (A6 Z (λW=>?_) (λW=>?_))))))
   .have hj1:j<N.po.length:=BQ W;refine AW (AC (AZ (AC ?_)));have hl5:N5.po.length=N.po.length:=by rw[C];simp;omega
    have hpr5:B1 M5 N.mh XK 1 ((List.range N.po.length).map λj=>B2 (w j)):=by have h:B1 M5 N5.mh XK 1 ((List.range N5.po.length).map λj=>B2 (w j)):=E.rs.1 .m;rw[hl5,T] at h;exact h
    obtain ⟨rb,rc,hre⟩:=VU hpr5 (j:=j) (by rw[iF];exact hj1);have hrow:=Sc hpr5 hre
    obtain ⟨y,hy⟩:∃y,N5.po[j]? =some y:=⟨_,ω (by omega)⟩
    obtain ⟨hyb,hyq⟩:=E.pp j y hy;have hqz:=VJ hyq;refine AE (J (Wj hre (j) Z Z Z hj1 underlying177 bD Z) (J (nY (f:=40) (e:=j) (off:=0) Z (by omega) Z (hrow) ((by rw[ν,j1 hj1];rfl)) Z FE Z) ?_));refine AB Z Z (AD (AE (ek Z Z ?_)));refine ek Z Z (J (Dh Z Z) (J (Cd Z Hw Z Z Z) (J (EI (f:=40) Z Z (hyb) Z HD Z) (J (Wg hqz Z cj Z) (J (Dh Z Z) (J (Cd Z LI Z Z Z) (V (QF (f:=40) Z Z Z Z (hyb) ((by show _<10;omega)) Z BW) (AD ?_))))))));have hR6:=E.setPo (y':=Oy y) hy Z Z;refine AE (J (Aj Z Z (Ξ _ (by omega)) Z) (ek Z Z (AD ?_)));exact ⟨(j+1,{N5 with po:=N5.po.set j (Oy y)},_),⟨by show j+1<=_;omega,hR6,K,T,eE hj1 C hy⟩,by show N.po.length-(j+1)<N.po.length-j;omega,AX H [40,50,51] Z (Z) ⟨Z,Z,Z,Z,trivial⟩⟩
   .refine Aw (AC ?_);have hje:j=N.po.length:=by have h:=W;omega
    subst hje;rw[gy,List.drop_length,iR] at C;have hids5:B8 N5=a.map AJ.id:=by unfold B8 at hids⊢;rw[K];exact hids
    refine AE (ek Z Z (AB Z Z (AB Z Z (AD (A2 ?_)))));exact ⟨_,[40,50,51],_,A0 Z,Z,Z,B,u,l,w,N5,M5,some (List.range (G4 l (a.map AJ.id)).length,(G4 l (a.map AJ.id)).length),Z,by rw[hids5];rfl,E,by rw[lc v s];exact cw hT K C⟩
end Go.Proofs.YteifpcnphnhaoaaGreat
namespace Go.Proofs.YteifpcnphnhaoaaGreat
open Go.RowKit
variable{g:List (List Nat)}{a:List Ad}{c:Nat->Bool}{f:List AJ}{i:Nat}{h:List AU}{j:List (List (AU×Int))}{w k:List Nat}{K:Nat->Nat}{E:List (AJ×Nat)}{o:Nat}{s:Type}{t:Nat}{N:gK}{u:Nat}{M:MF}{x:gB}{y:Nd}{z:List Nat}{A:List Ad}{B:List s}{C:Pf}{F G:AJ}{H I L:Nat}{Q:Type}{R:Al}
set_option maxRecDepth 100000
def H1(ds:List (List (AU×Int)))(on:Nat->Bool)(r:AU):Int:=((List.range ds.length).map λi=>if on i=true then Gm (ds.getD i []) r else 0).sum
def li(on:Nat->Bool)(q:List Nat):Nat:=q.findIdx λi=>!on i
def r7(ds:List (List (AU×Int)))(on:Nat->Bool)(x:Ad):Po:=⟨x.r,x.n,H1 ds on x.r,none,gM ds x.r,li on (gM ds x.r)⟩
def S9(rs:List AU)(its:List AJ)(on:Nat->Bool)(i:Nat):Nd:={oP rs ((its.map A3).take i) (its.getD i Ag) (A3 (its.getD i Ag)) with on:=on i}
def gP(ros:List Ad)(its:List AJ)(on:Nat->Bool):gK:=⟨(List.range its.length).map (S9 (ros.map Ad.r) its on),ros.map (r7 (its.map A3) on),none,none⟩
def BK(on:Nat->Bool)(i:Nat):Nat->Bool:=λj=>if j=i then false else on j
theorem Xd(q:List Nat):li (λ_=>true) q=q.length:=by
 unfold li
 simp
theorem bI(a:List (List (AU×Int)))(r:AU):H1 a (λ_=>true) r=(a.map λD=>Gm D r).sum:=by
 unfold H1
 congr 1
 apply ir (by simp)
 grind
theorem cx(p:gB):cy p=gP (DT p) (gC p) λ_=>true:=by
 unfold cy gP FO Kj;dsimp only;rw[gw]
 congr 1
 grind[hQ,η,Oy,ZG,r7,bI,Xd]
theorem SI{f g:Ad->Po}(h:t<a.length){y:Po}(c:(a.map Ad.r).Nodup)(o:y=g a[t])(l:∀x∈a,x.r≠a[t].r->f x=g x):(a.map f).set t y=a.map g:=by
 refine jk λi=>?_;rw[kB]
 by_cases e:t=i
 .grind
 .rw[κ e,ν,ν]
  cases hi:a[i]? with
  | none=>rfl
  | some z=>
   have b:=φ.1 hi;show some _=some _
   rw[l z (ξ hi) λs=>e (by
    have k:(a.map Ad.r)[t]'(by simpa using h)=(a.map Ad.r)[i]'(by simpa using b.1):=by
     grind
    exact (List.getElem_inj c).1 k)]
theorem Nb{r:AU}(b:r∈a.map Ad.r):∃c:(a.map Ad.r).idxOf r<a.length,a[(a.map Ad.r).idxOf r].r=r:=by
 have h:=kZ b;have f:=List.getElem_idxOf h
 grind
theorem bK(l:(a.map Ad.r).Nodup)(f:Ad->Po):∀(D:List (AU×Int)),(D.map Prod.fst).Nodup->(W1 (a.map Ad.r) D).foldl NK (a.map f)=a.map λx=>{f x with sum:=(f x).sum-Gm D x.r}:=by
 intro D
 induction D using aN with
 | h0=>
  intro _;show a.map f=_;refine hQ λx _=>?_;show f x={f x with sum:=(f x).sum-0}
  rw[Int.sub_zero]
 | h1 D d b=>
  intro g;rw[Ω,kC] at g;have j:d.1∉D.map Prod.fst:=λh=>g.2.2 _ h _ (List.mem_singleton_self _) rfl;have b:=b g.1
  by_cases c:d.1∈a.map Ad.r
  .rw[W0 c,List.foldl_append,b];obtain ⟨o,k⟩:=Nb c
   grind[NK,SI,Dx,HI,D7]
  .rw[SK c,b];refine hQ λx i=>?_;have:Gm (D++ [d]) x.r=Gm D x.r:=D7 λe=>c (e▸Θ.2 ⟨x,i,Z⟩);rw[this]
theorem dI(w:(a.map Ad.r).Nodup)(f:Ad->Po)(k:List (List (AU×Int))):∀(D:List (AU×Int)),(D.map Prod.fst).Nodup->(XO (a.map Ad.r) k D).foldl Pt (a.map f)=a.map λx=>{f x with mi:=if Gm D x.r<0 then min (f x).mi (gM k x.r).length else (f x).mi}:=by
 intro D
 induction D using aN with
 | h0=>
  intro _;show a.map f=_;refine hQ λx _=>?_;have z:Gm [] x.r=0:=rfl
  simp_all
 | h1 D d i=>
  intro o;rw[Ω,kC] at o;have b:d.1∉D.map Prod.fst:=λh=>o.2.2 _ h _ (List.mem_singleton_self _) rfl;have i:=i o.1
  by_cases c:d.1∈a.map Ad.r/\d.2<0
  .rw[cS c.1 c.2,List.foldl_append,i];obtain ⟨v,j⟩:=Nb c.1;show Pt _ ((a.map Ad.r).idxOf d.1,(gM k d.1).length)=_;rw[Xc (y:=(λx=>{f x with mi:=if Gm D x.r<0 then min (f x).mi (gM k x.r).length else (f x).mi}) a[(a.map Ad.r).idxOf d.1]) (by rw[ν,ω v];rfl)];refine SI v w ?_ λx u g=>?_
   .dsimp only;have t:Gm (D++ [d]) a[(a.map Ad.r).idxOf d.1].r=d.2:=by rw[j];exact Dx b
    have s:Gm D a[(a.map Ad.r).idxOf d.1].r=0:=by rw[j];exact HI b
    rw[t,s,κ (by omega),ς c.2,j]
   .rw[j] at g;have:Gm (D++ [d]) x.r=Gm D x.r:=D7 g;rw[this]
  .rw[Rd c,i];refine hQ λx u=>?_
   by_cases e:x.r=d.1
   .have l:d.1∈a.map Ad.r:=e▸Θ.2 ⟨x,u,Z⟩;have t:Gm (D++ [d]) x.r=d.2:=by rw[e];exact Dx b
    have s:Gm D x.r=0:=by rw[e];exact HI b
    rw[t,s,κ (by omega),κ (λh=>c ⟨l,h⟩)]
   .have:Gm (D++ [d]) x.r=Gm D x.r:=D7 e;rw[this]
theorem JL(h:t≠i):BK c i t=c t:=κ h
theorem Li:BK c i i=false:=ς rfl
theorem eF(p:s->Bool)(l m:List s):(l++m).findIdx p=if l.findIdx p<l.length then l.findIdx p else m.findIdx p+l.length:=List.findIdx_append
theorem PA{b:Type}{p q:b->Bool}:∀{l:List b},(∀x∈l,p x=q x)->l.findIdx p=l.findIdx q
 | [],_=>rfl
 | a::l,h=>by
  rw[List.findIdx_cons,List.findIdx_cons,h a (iV ..),PA λx c=>h x (ip _ c)]
theorem JP{n:Nat}(h:i<n):∃B:List Nat,List.range n=List.range i++i::B/\∀j∈B,i<j:=by
 refine ⟨List.range' (i+1) (n-i-1),?_,λj b=>?_⟩
 .rw[List.range_eq_range',List.range_eq_range'];have a:n=i+(1+(n-i-1)):=by omega
  conv=>lhs;rw[a]
  rw[<-List.range'_append_1,i9,Nat.add_comm 1 (n-i-1),List.range'_succ]
 grind
theorem Tp(h:i<j.length)(r:AU):∃B:List Nat,gM j r=gM (j.take i) r++((if Gm (j.getD i []) r<0 then [i] else [])++B)/\(∀a∈gM (j.take i) r,a<i)/\∀a∈B,i<a:=by
 obtain ⟨B,f,c⟩:=JP h;refine ⟨B.filter λi=>decide (Gm (j.getD i []) r<0),?_,λa b=>?_,λa b=>c a (gk.1 b).1⟩
 all_goals (grind[gM,jy])
theorem lh(h:i<j.length)(a:Nat->Bool)(r:AU):li (BK a i) (gM j r)=if Gm (j.getD i []) r<0 then min (li a (gM j r)) (gM (j.take i) r).length else li a (gM j r):=by
 obtain ⟨B,c,b,f⟩:=Tp h r;rw[c]
 generalize gM (j.take i) r=A at b⊢
 grind[PA,JL,li,eF,Li]
theorem bH(h:i<j.length)(b:c i=true)(r:AU):H1 j (BK c i) r=H1 j c r-Gm (j.getD i []) r:=by
 obtain ⟨B,a,f⟩:=JP h;unfold H1;rw[a,Ω,Ω,ie,ie,ji,ji,List.sum_cons,List.sum_cons]
 grind[hQ,JL,Li]
theorem XA:∀(l:List (Nat×Int)) (a:List Po),(l.foldl NK a).map Cg=l.foldl NK (a.map Cg)
 | [],_=>rfl
 | e::l,a=>by
  rw[List.foldl_cons,List.foldl_cons,XA l]
  congr 1
  unfold NK;rw[ν]
  cases a[e.1]? with
  | none=>rfl
  | some y=>show (a.set e.1 _).map Cg=_;rw[List.map_set];rfl
theorem Xb:∀(l:List (Nat×Nat)) (a:List Po),(l.foldl Pt a).map Cg=l.foldl Pt (a.map Cg)
 | [],_=>rfl
 | e::l,a=>by
  rw[List.foldl_cons,List.foldl_cons,Xb l]
  congr 1
  unfold Pt;rw[ν]
  cases a[e.1]? with
  | none=>rfl
  | some y=>show (a.set e.1 _).map Cg=_;rw[List.map_set];rfl
theorem ub(t:(a.map Ad.r).Nodup)(h:BL N=gP a f c)(g:i<f.length)(A:c i=true)(w:N.nd[i]? =some y):BL (s7 N i y)=gP a f (BK c i):=by
 have o:N.nd.map FD=(List.range f.length).map (S9 (a.map Ad.r) f c):=gV gK.nd h;have k:N.po.map Cg=a.map (r7 (f.map A3) c):=gV gK.po h
 have b:FD y=S9 (a.map Ad.r) f c i:=by
  have u:(N.nd.map FD)[i]? =some (FD y):=by rw[ν,w];rfl
  grind
 have s:y.ef=W1 (a.map Ad.r) (A3 (f.getD i Ag)):=gV Nd.ef b;have l:y.pl=XO (a.map Ad.r) ((f.map A3).take i) (A3 (f.getD i Ag)):=gV Nd.pl b;have gu:i<(f.map A3).length:=by simpa using g
 have r:(f.map A3).getD i []=A3 (f.getD i Ag):=by rw[FG [] gu,FG Ag g,iC]
 unfold BL s7 gP;dsimp only
 congr 1
 .rw[List.map_set,o]
  have:FD (Em y)=S9 (a.map Ad.r) f (BK c i) i:=by
   have u:FD (Em y)=Em (FD y):=rfl;rw[u,b];unfold S9 Em BK;rw[ς rfl]
  rw[this];refine jk λj=>?_;rw[kB]
  by_cases e:i=j
  .subst e;rw[ς Z,ς (by simpa using g),ν,j1 g];rfl
  .rw[κ e,ν,ν]
   cases hj:(List.range f.length)[j]? with
   | none=>rfl
   | some z=>
    have v:=φ.1 hj;have:z=j:=by have:=v.2;simp at this;exact this.symm
    subst this;show some _=some _;unfold S9 BK;rw[κ (λh=>e h.symm)]
 .rw[Xb,XA,k,s,l,bK t _ _ (DZ _),dI t _ _ _ (DZ _)];refine hQ λz _=>?_;unfold r7;dsimp only;rw[bH gu A,lh gu,r]
theorem Fy(N:gK)(i:Nat):(BL N).nd.getD i CR=FD (N.nd.getD i CR):=by
 show (N.nd.map FD).getD i CR=_;rw[Φ,Φ,ν]
 cases N.nd[i]?<;>rfl
theorem Ir(N:gK)(j:Nat):(BL N).po.getD j Cj=Cg (N.po.getD j Cj):=by
 show (N.po.map Cg).getD j Cj=_;rw[Φ,Φ,ν]
 cases N.po[j]?<;>rfl
theorem Hy(N:gK):B8 (BL N)=B8 N:=by
 unfold B8 BL;rw[gw];rfl
theorem Zh(N:gK)(x:Nd):IL (BL N) (FD x)=IL N x:=by
 have c:Ux (BL N)=Ux N:=funext λe=>by unfold Ux;rw[Ir];rfl
 have b:∀e,eM (BL N) (FD x) e=eM N x e:=λe=>by unfold eM;rw[Ir,Fy];rfl
 have a:Dr (BL N)=Dr N:=funext λe=>by unfold Dr;rw[Fy,Hy];rfl
 grind[IL,FD]
theorem To(N:gK):Fs (BL N)=Fs N:=by
 have c:(BL N).nd.findSome? (X8 (BL N))=N.nd.findSome? (X8 N):=by
  show (N.nd.map FD).findSome? _=_;rw[List.findSome?_map]
  congr 1
  grind[X8,FD,Zh]
 have b:(BL N).po.findSome? (ZF (BL N))=N.po.findSome? (ZF N):=by
  show (N.po.map Cg).findSome? _=_;rw[List.findSome?_map]
  congr 1
  funext y
  show ZF (BL N) (Cg y)=ZF N y;have a:iD (BL N)=iD N:=funext λi=>by unfold iD;rw[Fy];rfl
  have f:∀i,((BL N).nd.getD i CR).it.id=(N.nd.getD i CR).it.id:=λi=>by rw[Fy];rfl
  unfold ZF;rw[a];show (if T9 y y.sum=true then (y.q.reverse.find? (iD N)).map λi=>(⟨((BL N).nd.getD i CR).it.id,0,y.r,-1⟩:Pf) else none)=_
  grind
 unfold Fs;rw[c,b]
theorem dp(h:IL N y=some C):C.id=y.it.id:=by
 unfold IL at h
 split at h
 .injection h with h;subst h;rfl
 grind
theorem X7(h:Fs N=some C):∃(i:Nat) (x:Nd),N.nd[i]? =some x/\x.on=true/\C.id=x.it.id:=by
 unfold Fs at h
 split at h
 .rename_i l g
  injection h with h;subst h
  obtain ⟨x,b,a⟩:=List.exists_of_findSome?_eq_some g;obtain ⟨i,f,j⟩:=iN b;unfold X8 at a
  split at a
  .rename_i c
   exact ⟨i,x,by rw[ω f,j],c,dp a⟩
  .cases a
 .obtain ⟨y,k,a⟩:=List.exists_of_findSome?_eq_some h;unfold ZF at a
  split at a
  .cases hf:y.q.reverse.find? (iD N) with
   | none=>rw[hf] at a;cases a
   | some i=>
    grind[iD,CR]
  .cases a
structure rq (ros:List Ad) (its:List AJ):Prop where
 l:its.length<=30
 x:∀x∈its,fx x
 i:(its.map AJ.id).Nodup
 a:∀x∈its,∀id∈x.af,id∈its.map AJ.id
 r:(ros.map Ad.r).Nodup
 n:∀x∈ros,-4000000000000000<=x.n/\x.n<=4000000000000000
 o:ros.length<=100
theorem n8(h:y∈(gP a f c).nd):∃i,i<f.length/\y=S9 (a.map Ad.r) f c i:=by
 obtain ⟨i,b,e⟩:=Θ.1 h
 grind
theorem VL(f:List Ad)(c:List AJ)(g:Nat->Bool):B8 (gP f c g)=c.map AJ.id:=by
 unfold B8 gP;rw[gw]
 apply ir (by simp)
 intro i a b;simp only[iC,k6,Function.comp];show (c.getD i Ag).id=_
 grind
theorem mT{D:List (AU×Int)}{e:Nat×Int}(a:e∈W1 h D):∃d∈D,e.2=d.2:=by
 obtain ⟨d,b,rfl⟩:=Θ.1 a
 grind
theorem lP{D:List (AU×Int)}{e:Nat×Nat}(a:e∈XO h j D):∃d∈D,d.1∈h/\d.2<0/\e=(h.idxOf d.1,(gM j d.1).length):=by grind[XO]
theorem ob(h:rq a f)(b:Nat->Bool)(r:AU): -30000000000000000<=H1 (f.map A3) b r/\H1 (f.map A3) b r<=30000000000000000:=by
 have c:∀l:List Nat,-(l.length*1000000000000000)<=(l.map λi=>if b i=true then Gm ((f.map A3).getD i []) r else 0).sum/\(l.map λi=>if b i=true then Gm ((f.map A3).getD i []) r else 0).sum<=l.length*1000000000000000:=by
  intro l
  induction l with
  | nil=>simp
  | cons i l s=>
   simp only[ie,List.sum_cons,jj]
   have k:Pg ((f.map A3).getD i []):=by
    rcases iH (l:=f.map A3) (d:=[]) i with g | g
    .grind[LV]
    .rw[g];intro x j;cases j
   have o:=YK k r;omega
 have o:=c (List.range (f.map A3).length);have t:=h.l
 grind[H1]
theorem v4(h:rq a f)(g:Nat->Bool):i6 (gP a f g):=by
 have I:=h.l
 have k:∀y∈(gP a f g).po,y.q.length<=30/\y.mi<=30/\∃x∈a,y=r7 (f.map A3) g x:=λy j=>by
  obtain ⟨x,b,e⟩:=Θ.1 j;subst e;have t:=Ki (f.map A3) x.r;rw[χ] at t;have C:li g (gM (f.map A3) x.r)<=(gM (f.map A3) x.r).length:=List.findIdx_le_length;exact ⟨by show (gM _ _).length<=_;omega,by show li _ _<=_;omega,x,b,Z⟩
 refine ⟨by rw[VL];exact h.i,λx b id v=>?_,λx b=>?_,λx b e z=>?_,λx b e z=>?_,λy j=>?_,λy j=>?_,?_,λy j=>?_⟩
 .obtain ⟨i,c,rfl⟩:=n8 b;rw[VL];refine h.a (f.getD i Ag) (by rw[FG Ag c];exact ϑ c) id v
 .obtain ⟨i,c,rfl⟩:=n8 b;have u:f.getD i Ag∈f:=by rw[FG Ag c];exact ϑ c
  have t:=Nj (h.x _ u);have C:=Xy (a.map Ad.r) (A3 (f.getD i Ag));have K:=XN (a.map Ad.r) ((f.map A3).take i) (A3 (f.getD i Ag));have J:=(h.x _ u).2.2;exact ⟨by show (W1 _ _).length<=_;omega,by show (XO _ _ _).length<=_;omega,by show (f.getD i Ag).af.length<=_;omega⟩
 .obtain ⟨i,c,rfl⟩:=n8 b;obtain ⟨d,A,G⟩:=mT z;have:=LV _ d A;rw[G];omega
 .obtain ⟨i,c,rfl⟩:=n8 b;obtain ⟨d,A,u,l,rfl⟩:=lP z;obtain ⟨F,D⟩:=Nb u;have gu:i<(f.map A3).length:=by simpa using c
  have w:(f.map A3).getD i []=A3 (f.getD i Ag):=by rw[FG [] gu,FG Ag c,iC]
  have s:Gm ((f.map A3).getD i []) d.1=d.2:=by rw[w];exact D8 (DZ _) A
  obtain ⟨B,H,M,L⟩:=Tp gu d.1
  have E:((gP a f g).po.getD ((a.map Ad.r).idxOf d.1) Cj).q=gM (f.map A3) d.1:=by
   show ((a.map _).getD _ Cj).q=_;rw[FG Cj (by simpa using F),iC];show gM _ (a[(a.map Ad.r).idxOf d.1]).r=_;rw[D]
  rw[E];dsimp only;have o:=gV List.length H;rw[ς (by rw[s];exact l),Δ,Δ,υ] at o;have t:=Ki ((f.map A3).take i) d.1;rw[ϱ,χ] at t;omega
 .have:=k y j;omega
 .obtain ⟨_,_,x,b,rfl⟩:=k y j;have:=h.n x b;show -1000000000000000000<=x.n/\x.n<=1000000000000000000;omega
 .have t:(gP a f g).nd.length=f.length:=by unfold gP;simp
  have C:(gP a f g).po.length=a.length:=by unfold gP;simp
  have:=h.o;omega
 .have:=k y j;omega
theorem oa{N:gK}(h:i6 (BL N)):i6 N:=by
 have c:∀x∈N.nd,FD x∈(BL N).nd:=λx a=>Θ.2 ⟨x,a,Z⟩;have f:∀y∈N.po,Cg y∈(BL N).po:=λy b=>Θ.2 ⟨y,b,Z⟩;refine ⟨by rw[<-Hy];exact h.i,λx a id g=>by rw[<-Hy];exact h.a _ (c x a) id g,λx a=>h.l (FD x) (c x a),λx a=>h.e (FD x) (c x a),λx a e i=>?_,λy b=>h.m (Cg y) (f y b),λy b=>h.rm (Cg y) (f y b),?_,λy b=>h.ql (Cg y) (f y b)⟩
 .have:=h.p _ (c x a) e i;rw[Ir] at this;exact this
 .have:=h.n
  grind[BL]
theorem rT(h:rq a f)(i:BL N=gP a f c):Ss N.po 1000000000000000000:=λy g=>by
 have b:Cg y∈(BL N).po:=Θ.2 ⟨y,g,Z⟩;rw[i] at b;obtain ⟨x,k,e⟩:=Θ.1 b;have l:=ob h c x.r;have j:y.sum=H1 (f.map A3) c x.r:=gV Po.sum e.symm;rw[j];omega
def GN(ros:List Ad)(its:List AJ):Nat->(Nat->Bool)->List Pf×(Nat->Bool)
 | 0,on=>([],on)
 | f+1,on=>match Fs (gP ros its on) with
  | none=>([],on)
  | some e=>(e::(GN ros its f (BK on ((its.map AJ.id).idxOf e.id))).1,(GN ros its f (BK on ((its.map AJ.id).idxOf e.id))).2)
def Et(n:Nat)(on:Nat->Bool):Nat:=((List.range n).filter on).length
def Mw(p:gB):List Pf×(Nat->Bool):=GN (DT p) (gC p) (gC p).length λ_=>true
def El(its:List AJ)(on:Nat->Bool)(k:Nat):List Int:=((List.range k).filter on).map λi=>(its.getD i Ag).id
theorem M0{n:Nat}(a:i<n)(b:c i=true):Et n (BK c i)+1=Et n c:=by
 obtain ⟨B,g,f⟩:=JP a
 grind[Et,BK,jy,JL]
theorem Qk[BEq s][LawfulBEq s](a:B.Nodup)(b:i<B.length):B.idxOf B[i]=i:=by grind
theorem TF(h:Fs (gP a f c)=none):GN a f I c=([],c):=by
 cases I with
 | zero=>rfl
 | succ I=>unfold GN;rw[h]
theorem TE(h:Fs (gP a f c)=some C):GN a f (I+1) c=(C::(GN a f I (BK c ((f.map AJ.id).idxOf C.id))).1,(GN a f I (BK c ((f.map AJ.id).idxOf C.id))).2):=by
 show (match Fs (gP a f c) with | none=>_ | some C=>_)=_;rw[h]
theorem S5(h:BL N=gP a f c)(k:N.nd[i]? =some y):i<f.length/\y.on=c i/\y.it=f.getD i Ag:=by
 have b:(N.nd.map FD)[i]? =some (FD y):=by rw[ν,k];rfl
 rw[show N.nd.map FD=(List.range f.length).map (S9 (a.map Ad.r) f c) from gV gK.nd h] at b;have g:i<f.length:=by have:=(φ.1 b).1;simpa using this
 rw[ν,j1 g] at b;have j:FD y=S9 (a.map Ad.r) f c i:=(Option.some.inj b).symm;exact ⟨g,gV Nd.on j,gV Nd.it j⟩
theorem O1(a:List AJ)(b:Nat->Bool)(k:Nat):El a b (k+1)=El a b k++if b k=true then [(a.getD k Ag).id] else []:=by grind[El,iM]
theorem ZP(a:List AJ)(b:Nat->Bool)(k:Nat):(El a b k).length<=k:=by grind[El]
theorem uE(h:BL N=gP a f c):N.nd.length=f.length:=by grind[χ,BL,gP]
theorem nv(f:GJ x)(b:BB x=0):rq (DT x) (gC x):=by
 refine ⟨gY (Dp x) f.i,λa c=>f.x a (Ia c),GY b,λa c id h=>?_,OQ b,λa c=>?_,?_⟩
 .have g:gC x=BN x.it:=ς b;have i:Pw (x.it.map AJ.id) a=0:=HK (P6 b).2.2 _ (Θ.2 ⟨a,Ia c,Z⟩)
  grind[Pw,Ib,aQ]
 .have g:a∈x.ro:=by
   grind[fk,DT]
  exact Ll (P6 b).1 a g
 .unfold DT;rw[χ,(fk _).length_eq,iF,χ];exact f.r
theorem WY(p:gB)(hf:GJ p)(hE:BB p=0):AL prog 95 [.d (Bf p)] (.tup [.sl none ((El (gC p) (Mw p).2 (gC p).length).map AF),.sl none ((Mw p).1.map eN),AF 0]):=by
 have G:=Ur p hf hE;have g:=nv hf hE;unfold Mw;rw[cx] at G
 obtain ⟨a,X⟩:∃a,gC p=a:=⟨_,Z⟩
 obtain ⟨b,S⟩:∃b,DT p=b:=⟨_,Z⟩
 rw[X,S] at G g⊢;have hl:=g.l;refine Av func95 Z Z ntmps95 Z Z Z λF hF=>(AC (AE ?_));refine V (Bh 1 Z Z Z Z Z Z Z) (AB Z Z (AB Z Z (AB Z Z (AD (nQ (AC (AE (J (Ay Z Z Bp Z Z Z) ?_))))))));refine Ca (VV G Z [40,50,51] ⟨Z,Z,Z,trivial⟩ Z Z Z Z (λr H' ⟨_,_,_,_,_,_,_,e1,e2,_⟩=>by subst e1 e2;exact ⟨Z,Z,Z⟩) Z) Z ?_;rintro _ ⟨r,H',⟨wb,mv,nb,pb,N,M,bs,rfl,rfl,A,s⟩,rfl⟩;refine ek Z Z (J (De Z Z Z) (J (De Z Z Z) (AB Z Z (AB Z Z (AD ?_)))));refine AC (AC (AE (ek Z Z (J (C6 Z Z Z) (AD (Cr Z (Z) (AW (AC ?_))))))));have v:B8 N=a.map AJ.id:=by rw[<-Hy,s,VL]
 rw[v];refine AE (AB Z Z (AD (AC (nS (AC (AZ (NF 7 900 bb Z Z Z Z (BM (α:=(Nat->Bool)×gK×MF×List Pf×Nat) (λq=>⟨64,[(5,(.d (pD wb 0))),(7,(.own 900 0 q.2.2.2.1.length))],(900,[.rowD 245 9 (q.2.2.2.1.map eN)])::HW mv bs (G4 nb (a.map AJ.id)) q.2.2.1⟩) (λq=>CX wb mv nb pb q.2.1 q.2.2.1/\BL q.2.1=gP b a q.1/\Et a.length q.1<=q.2.2.2.2/\q.2.2.2.1.length+q.2.2.2.2<=a.length/\q.2.2.2.1++(GN b a q.2.2.2.2 q.1).1=(GN b a a.length λ_=>true).1/\(GN b a q.2.2.2.2 q.1).2=(GN b a a.length λ_=>true).2) (λq=>q.2.2.2.2) ((λ_=>true,N,M,[],a.length)) (⟨A,s,by show ((List.range a.length).filter _).length<=_;exact gY (iI _ _) (by simp),by simp,Z,Z⟩) (AX hF [900,40,50,51] Z Z ⟨Z,Z,trivial⟩) ?_))))))));rintro ⟨o,N,M,l,f⟩ ⟨A,s,hc,hal,u,t⟩;dsimp only at A s hc hal u t⊢;refine AZ (AC ?_);have K:=oa (N:=N) (by rw[s];exact v4 g o);have O:=rT g s;have v:B8 N=a.map AJ.id:=by rw[<-Hy,s,VL]
 have W:=pv bs A K O;rw[v] at W;refine AE (ek Z Z (V (FH W Z [40,50,51] ⟨Z,Z,Z,trivial⟩ Z Z Z Z Z Z Z Z Z) (ek Z Z ?_)))
 cases hne:Fs N
 .refine J (De Z Z Z) (J (De Z Z Z) (V (Bx 2 Jf Z Z Z Z) (V (B3 Z Z Z Z Z Z Z KU) (AB Z Z (AD ?_)))));refine AC (AC (AE (ek Z Z (J (NE Z Z) (AD (Bw Z (Z) (Aw (AC ?_))))))));have hro:GN b a f o=([],o):=TF (by rw[<-s,To,hne]);rw[hro] at u t;rw[iR] at u;dsimp only at t;have hwb:=A.w;have D:B1 M N.nh cO 1 ((List.range N.nd.length).map λi=>B2 (nb i)):=A.rs.1 .n;have U:=VJ D;rw[iF] at U;have hNl:=uE s;refine AE (AB Z Z (AD (AC (AC (AE (ek Z Z ?_))))));refine J (Dh Z Z) (J (Cd Z JX Z Z Z) (J (EI (f:=40) Z Z (hwb) Z HD Z) (J (Wg U Z cj Z) (ek Z Z (AD (AZ (NF 10 901 BR Z Z Z Z (BM (α:=Nat×List Int) (λq=>⟨64,[(7,(.own 900 0 l.length)),(10,(.own 901 0 q.2.length)),(43,(.d (gN N.nh N.nd.length))),(44,(.d (AF (N.nd.length:Int)))),(45,(.d (AF (q.1:Int))))],(901,[.rowD 3 1 (q.2.map AF)])::(900,[.rowD 245 9 (l.map eN)])::HW mv bs (G4 nb (a.map AJ.id)) M⟩) (λq=>q.1<=N.nd.length/\q.2=El a o q.1) (λq=>N.nd.length-q.1) ((0,[])) (⟨ζ _,Z⟩) (AX hF [901,900,40,50,51] Z Z ⟨Z,Z,Z,Z,Z,trivial⟩) ?_))))))));rintro ⟨k,B⟩ ⟨hk0,hI⟩;dsimp only at hk0 hI⊢;refine AC (AE (J (Az Z Z Z) (AD (AC (A6 Z (λI=>?_) (λI=>?_))))))
  .have z:k<N.nd.length:=BQ I;refine AW (AC (AZ (AC ?_)))
   obtain ⟨x,C⟩:∃x,N.nd[k]? =some x:=⟨_,ω z⟩
   obtain ⟨w,c,E⟩:=S5 s C;have L:=A.n k x C;obtain ⟨rb,rc,T⟩:=VU D (j:=k) (by rw[iF];exact z);have R:=Sc D T;have hidl:B.length<=k:=by rw[hI];exact ZP a o k
   refine AE (J (Wj T (k) Z Z Z z cj Mg Z) (J (nY (f:=40) (e:=k) (off:=0) Z (by omega) Z (R) ((by rw[ν,j1 z];rfl)) Z O2 Z) ?_));refine AB Z Z ?_;refine AD (AC (AE (ek Z Z (J (Dh Z Z) (J (Cd Z FT Z Z Z) (J (EI (f:=40) Z Z (L) Z p8 Z) (AD (JC Z (λH=>?_) (λH=>?_)))))))))
   .refine AE (ek Z Z (ek Z Z (J (Dh Z Z) (J (Cd Z G2 Z Z Z) (J (Cd Z Nr Z Z Z) ?_)))));refine J (EI (f:=40) Z Z (L) Z Am Z) (V (C1 3 BR Z Z Z Z Z Z Z Z) (V (Ev (B) ([x.it.id]) Z Z Z Z Z Z Z Z BR (by simp only[υ];omega) Z Z Z Z) (AB Z Z (AD (AE (J (Aj Z Z (AN (k+1) (by omega)) Z) (ek Z Z (AD ?_))))))));exact ⟨(k+1,_),⟨by show k+1<=_;omega,by show _=El a o (k+1);rw[O1,ς (by rw[<-c];simpa using H),<-hI,<-E]⟩,by show N.nd.length-(k+1)<N.nd.length-k;omega,AX hF [901,900,40,50,51] Z (Z) ⟨Z,Z,Z,Z,Z,trivial⟩⟩
   .refine AW (AE (J (Aj Z Z (AN (k+1) (by omega)) Z) (ek Z Z (AD ?_))));exact ⟨(k+1,_),⟨by show k+1<=_;omega,by show _=El a o (k+1);rw[O1,κ (by rw[<-c];simpa using H),iR,<-hI]⟩,by show N.nd.length-(k+1)<N.nd.length-k;omega,AX hF [901,900,40,50,51] Z (Z) ⟨Z,Z,Z,Z,Z,trivial⟩⟩
  .refine Aw (AC ?_);have hke:k=a.length:=by have h:=I;omega
   refine KL (emb:=eN) 7 900 l Z Z Z Z Z Z Z ?_;refine KL (emb:=AF) 10 901 B Z Z Z Z Z Z Z (AE (ek Z Z (ek Z Z (AB Z Z (AB Z Z (AB Z Z (AD (A2 ?_))))))));exact ⟨_,[],[],A0 Z,Z,Z,by rw[<-t,<-u,hI,hke],Z⟩
 .refine J (De Z Z Z) (J (De Z Z Z) (V (Bx 4 Jf Z Z Z Z) (V (B3 Z Z Z Z Z Z Z KU) (AB Z Z (AD ?_)))));refine AC (AC (AE (ek Z Z (J (NE Z Z) (AD (Cr Z (Z) (AW (AC ?_))))))))
  rename_i e
  obtain ⟨i,x,C,hon,hid⟩:=X7 hne;obtain ⟨w,c,E⟩:=S5 s C;rw[hon] at c;have c:=c.symm;have Y:i<(a.map AJ.id).length:=by rw[χ];exact w
  have hei:(a.map AJ.id)[i]=e.id:=by rw[hid,E,iC,FG Ag w]
  have hby:=SY (nb:=nb) g.i Y;rw[hei] at hby;have hcn:=M0 w c
  obtain ⟨f2,rfl⟩:∃f2,f=f2+1:=⟨f-1,by omega⟩
  have Q:GN b a (f2+1) o=(e::(GN b a f2 (BK o i)).1,(GN b a f2 (BK o i)).2):=by rw[TE (by rw[<-s,To,hne]),<-hei,Qk g.i Y]
  have y:=ξ C;have hrm:=cH A C O (K.e x y) (K.l x y).1 (K.l x y).2.1 (λe he=>(K.p x y e he).2) K.m;refine CK [[],[0],[0,1],[0,1,2],[],[4],rg 6,rg 7] mixed Z (By (Ap 5 Z Z (AR [28] Z (Dh Z Z) ?_)));refine AR [29] Z (Cd Z Nf Z Z Z) (Aq [30] [40] Z Z (λ_=>Aa (EI (f:=40) Z Z (A.w) Z XX Z)) (AR [8] Z (AK Z mN Z Z Z) (Aq [32] [4] Z Z (λ_=>Aa (AO Z Z Z Am Z)) (Bu 6 Z Z Z (Ab 7 Z Z (Dt 31 51 0 Z Z (J (IV (G4 nb (a.map AJ.id)) e.id (.pointer none) (pV (nb i) 0) Z Z Z Xa IS Wm hby Z) (AD ⟨Z,?_⟩))))))));refine Ab 8 Z Z ?_;refine Ca (VV hrm Z [40] ⟨Z,trivial⟩ Z Z Z Z (λr H' ⟨e1,M',e2,_⟩=>by subst e1 e2;exact ⟨Z,Z,Z⟩) Z) Z ?_;rintro _ ⟨r,H',⟨rfl,M2,rfl,hR2⟩,rfl⟩;refine AD ⟨Z,?_⟩;refine Bz (AE (ek Z Z (J (Ay Z Z oE Z Z Z) (V (C1 5 bb Z Z Z Z Z Z Z Z) (V (Ev (l) ([e]) Z Z Z Z Z Z Z Z bb (by simp only[υ];omega) Z Z Z Z) (AB Z Z (AD ?_)))))));exact ⟨(BK o i,s7 N i x,M2,l++ [e],f2),⟨hR2,ub g.r s w c C,by show Et a.length (BK o i)<=f2;omega,by show (l++ [e]).length+f2<=_;rw[Δ];simp;omega,by show (l++ [e])++(GN b a f2 (BK o i)).1=_;rw[jx,<-u,Q];rfl,by show (GN b a f2 (BK o i)).2=_;rw[<-t,Q]⟩,by show f2<f2+1;omega,AX hF [900,40,50,51] Z (Z) ⟨Z,Z,trivial⟩⟩
theorem bq{g:Type}(f:g->AU){l m i:List g}(c:(l.map f).Nodup)(s:m.Perm l)(j:m.Pairwise λa b=>¬Bk (f b) (f a)<0)(o:i.Perm l)(t:i.Pairwise λa b=>¬Bk (f b) (f a)<0):i=m:=by
 have r:∀{k:List g},(k.map f).Nodup->(k.Pairwise λa b=>¬Bk (f b) (f a)<0)->k.Pairwise λa b=>Bk (f a) (f b)<0:=λ{k} c h=>by
  rw[List.Nodup,ig] at c;refine (h.and c).imp λ{a b} ⟨v,u⟩=>?_;have o:=Pd.anti (f a) (f b);have t:Bk (f a) (f b)≠0:=λe=>u (E3.1 e);omega
 exact DP (R:=λa b=>Bk (f a) (f b)<0) (λx=>by rw[Pd.refl];omega) (λx y z=>Pd.trans _ _ _) (r ((o.map f).nodup_iff.2 c) t) (r ((s.map f).nodup_iff.2 c) j) λx=>by rw[o.mem_iff,s.mem_iff]
theorem RZ(f:List AU):(II f).Pairwise λa b=>¬Nl f b a<0:=by
 have:=List.pairwise_mergeSort (le:=λi j=>decide (Nl f i j<=0)) (λa b c k l=>?_) (λa b=>?_) (List.range f.length)
 .refine List.Pairwise.imp (λ{a b} h=>?_) this;have k:=(RK f).anti a b
  grind
 .have o:Nl f a b<=0:=by simpa using k
  have g:Nl f b c<=0:=by simpa using l
  have:Nl f a c<=0:=by
   by_cases r:Nl f a b=0
   .rw[(RK f).eqv a b c r];exact g
   .by_cases t:Nl f b c=0
    .have w:=(RK f).anti b c;have s:=(RK f).eqv c b a (by omega);have v:=(RK f).anti a c;have u:=(RK f).anti a b;omega
    .have:=(RK f).trans a b c (by omega) (by omega);omega
  grind
 .have k:=(RK f).anti a b
  grind
theorem Yx(p:gB):(DT p).Perm p.ro:=by grind[DT,fk,χ,ir,FG]
theorem TO(p:gB):(DT p).Pairwise λa b=>¬Bk b.r a.r<0:=by grind[DT,nf,RZ,fk,Nl]
theorem Yy(c:(x.ro.map Ad.r).Nodup)(g:A.Perm x.ro)(f:A.Pairwise λa b=>¬Bk b.r a.r<0):A=DT x:=by grind[bq,Yx,TO]
theorem bw(c:BB x=0)(g:A.Perm x.ro)(f:A.Pairwise λa b=>¬Bk b.r a.r<0):A=DT x:=Yy (Hb c) g f
def gF(p:gB):List Int:=El (gC p) (Mw p).2 (gC p).length
theorem Jw(p:gB)(b:GJ p)(c:BB p=0):AL prog 39 [.d (Bf p)] (.tup [.sl none ((gF p).map AF),AF 0]):=by
 have a:=WY p b c;refine Av func39 Z Z ntmps39 Z Z Z λF f=>(AC (AE (V (Bh 1 Z Z Z Z Z Z Z) (AB Z Z (AB Z Z (AD (AC (AE ?_))))))));refine J (Ay Z Z Bp Z Z Z) (J (Au (a) Z Z) (ek Z Z (J (De Z Z Z) (J (De Z Z Z) (J (De Z Z Z) (AB Z Z (AB Z Z (AB Z Z ?_))))))));refine AD (AC (AE (ek Z Z (ek Z Z (AB Z Z (AB Z Z (AD (A2 ?_))))))));exact ⟨_,[],[],A0 Z,Z,Z,Z,Z⟩
def Wn(l:List Int)(x:Int):List Int:=l.filter λy=>decide (y≠x)
def tA(its:List AJ)(x:Ad)(l:List Int):Int:=max x.n 0+((its.filter λi=>decide (i.id∈l)).map λi=>CB i x.r).sum
theorem ep(i:AJ)(r:AU): -1000000000000000<=CB i r/\CB i r<=1000000000000000:=by
 unfold CB
 split
 .simp[*,Nm]
 .omega
def vK(its:List AJ)(l:List Int)(id:Int)(x:Ad):Option Pf:=if id∈K8 its x.r then (((K8 its x.r).takeWhile λa=>decide (a≠id)).find? λa=>decide (a∉l)).map λa=>⟨id,1,x.r,a⟩ else none
def rE(p:gB)(l:List Int)(id:Int):Option Pf:=match (DT p).findSome? (vK (BN p.it) l id) with
 | some e=>some e
 | none=>((B7 p id).af.find? λa=>decide (a∉l)).map λa=>⟨id,2,GO,a⟩
theorem Pm{l:List Ad}(h:Dn l=0):∀x∈l,CL x.r=0:=λx b=>by
 have f:=VI.1 h;obtain ⟨j,a,rfl⟩:=iN b;have:=f j (Ψ.2 a);unfold J9 at this;rw[FG I5 a] at this
 split at this
 .contradiction
 .rename_i c
  exact Classical.byContradiction λh=>c h
theorem Ee{l:List AJ}(h:FA l=0):∀x∈l,Ax x=0:=λx b=>by
 have f:=VI.1 h;obtain ⟨j,a,rfl⟩:=iN b;have:=f j (Ψ.2 a);unfold Jy at this;rw[FG Ag a] at this
 split at this
 .contradiction
 .rename_i c
  exact Classical.byContradiction λh=>c h
theorem pZ(g:(f.map AJ.id).Nodup)(b:Nat->Bool)(c:i<f.length):(f.getD i Ag).id∈El f b f.length↔b i=true:=by
 unfold El;rw[Θ]
 constructor
 .rintro ⟨j,h,e⟩;obtain ⟨l,o⟩:=gk.1 h;have a:=Ψ.1 l;rw[FG Ag c,FG Ag a] at e
  have:j=i:=by
   have k:(f.map AJ.id)[j]'(by simpa using a)=(f.map AJ.id)[i]'(by simpa using c):=by
    grind
   exact (List.getElem_inj g).1 k
  grind
 grind
theorem Zd(a:List AJ):a=(List.range a.length).map λi=>a.getD i Ag:=by
 apply ir (by simp)
 grind
structure vt (p:gB) (ros:List Ad) (its:List AJ):Prop where
 e:BB p=0
 f:GJ p
 s:rq ros its
 hr:DT p=ros
 hi:BN p.it=its
 v:∀x∈its,Ax x=0
 w:∀x∈ros,CL x.r=0
 up:ros.Pairwise λa b=>Bk a.r b.r<0
theorem q7(c:(f.map AJ.id).Nodup)(b:i<f.length)(a:t<f.length)(h:(f.getD i Ag).id=(f.getD t Ag).id):i=t:=by
 rw[FG Ag b,FG Ag a] at h
 have g:(f.map AJ.id)[i]'(by simpa using b)=(f.map AJ.id)[t]'(by simpa using a):=by
  grind
 exact (List.getElem_inj c).1 g
def vV(p:gB)(n:Nat):Prop:=p.it.length<=n/\p.ro.length<=30/\∀i∈p.it,i.po.length<=8/\i.pa.length<=8/\i.af.length<=8
instance (p:gB) (n:Nat):Decidable (vV p n):=inferInstanceAs (Decidable (_/\_/\∀i∈p.it,_))
def eI(p:gB)(l:List Int):Prop:=(∀id∈l,rE p l id=none)/\∀x∈p.ro,¬tA p.it x l<0
noncomputable instance (p:gB) (l:List Int):Decidable (eI p l):=Classical.propDecidable _
theorem fE(n:Nat)(a:Nat->Bool):Et n a<=n:=by grind[Et]
def gJ(p:gB):List AU:=p.ro.map Ad.r
def dR(rs:List AU)(i:AJ):List (AU×Int):=(A3 i).filter λd=>decide (d.1∈rs)
theorem eu(a:List AU)(i:AJ):((dR a i).map Prod.fst).Nodup:=List.Nodup.sublist (List.Sublist.map _ jM) (DZ i)
theorem EU[DecidableEq s]{O:List (s×Q)}{x:s}{v:Q}(h:x∉O.map Prod.fst):BX O x v=O++ [(x,v)]:=by
 induction O with
 | nil=>rfl
 | cons a l b=>
  grind[BX]
theorem Ft{y:Al}:B5 (B5 M u R) u y=B5 M u y:=by grind[GG,ID]
theorem MD(h:M u=some R):B5 M u R=M:=by grind[GG,ID]
theorem Kl(a:B.Nodup)(b:t<B.length):B[t]∉B.take t:=by grind[kX]
abbrev WF:FuncId:=119
structure HU (N:MF) (b:Nat) (l:List Int):Prop where
 ex:∃m,N b=some (.cells 137 [mD m])/\N m=some (.map none (B4 AF Ah (BP l)))
abbrev Pa(b:Nat):D:= .fn WF [] [pD b 0]
theorem Gp(l:List Int)(j:l.Nodup)(v:l.length<=1000000):AP prog 66 [.d (.sl none (l.map AF))] [] λr t=>∃b N,r= .d (Pa b)/\t=[(41,[.multi N])]/\HU N b l:=by
 refine Av func66 Z Z ntmps66 Z Z Z λF h=>(AC (AE (AB Z Z (AD ?_))));refine AC (IC 41 Z Z Z (AE (V (Pc 1 Z Z Z Z) (MA 6 1 41 h Z Z Z Z Z Z Z Z Z Z (λ_=>rfl) λm u=>(JQ 41 m Z (GG _ _ _) Z (V (Bx 2 ac Z Z Z Z) (V (B3 Z Z Z Z Z Z Z bE) (AD ?_))))))));refine AC (AC (AE (ek Z Z (J (BS Z E0 Z) (ek Z Z (AD (AZ (BM (α:=Nat×MF) (λq=>⟨17,[(3,(.ptr 2 0 0)),(7,(.d (.sl none (l.map AF)))),(8,(.d (AF (l.length:Int)))),(9,(.d (AF (q.1:Int))))],[(2,[.blk 137 [.d (mD m)]]),(41,[.multi q.2])]⟩) (λq=>q.1<=l.length/\q.2 m=some (.map none (B4 AF Ah (BP (l.take q.1))))) (λq=>l.length-q.1) ((0,_)) (⟨ζ _,GG _ _ _⟩) (AX h [2,41] Z Z ⟨Z,Z,Z,Z,trivial⟩) ?_))))))));rintro ⟨k,N⟩ ⟨o,g⟩;dsimp only at o g⊢;refine AC (AE (J (Az Z Z Z) (AD (AC (A6 Z (λc=>?_) (λc=>?_))))))
 .refine AW (AC (AZ (AC ?_)));have a:k<l.length:=BQ c;refine AE (J (BC (k) Z Z (Z) (A1 a) E0 Z BW Z) (J (CG Z Z Am Z) (AB Z Z (AD ?_))));refine AE (J (AO Z Z Z Q8 Z) (ek Z Z (V (OG (f:=41) (BP (l.take k)) l[k] true Z Z g Z Eo IS Z Z) (AD (AE (J (Aj Z Z (AN (k+1) (by omega)) Z) (ek Z Z (AD ?_))))))));exact ⟨(k+1,_),⟨a,by show B5 _ _ _ _=_;rw[GG,ψ a,aU (Kl j a)]⟩,by show l.length-(k+1)<l.length-k;omega,AX h [2,41] Z (Z) ⟨Z,Z,Z,Z,trivial⟩⟩
 .refine Aw (AC ?_);have i:k=l.length:=by have:=c;omega
  rw[i,gy] at g;refine fo (ds:=[mD m]) 3 2 41 h Z Z Z Z Z Z Z Z Z Z Z (λ_=>rfl) λb s=>(AE (J (YS (ds:=[]) (es:=[pD b 0]) Z Z Z Z Z) (AB Z Z (AD (A2 ?_)))));exact ⟨_,[41],_,A0 Z,Z,Z,b,_,Z,Z,⟨m,GG _ _ _,by rw[ID (λe=>by rw[e,s] at g;cases g)];exact g⟩⟩
theorem EK{N:MF}{l:List Int}(h:HU N u l)(id:Int):AP prog WF [.d (AF id),.d (pD u 0)] [(41,[.multi N])] λr g=>r= .d (Ah (decide (id∈l)))/\g=[(41,[.multi N])]:=by
 obtain ⟨m,c,a⟩:=h;refine Av func119 Z Z ntmps119 Z Z Z λF i=>(AC (AE (AB Z Z ?_)));refine AD (AC (AE (J (EI (f:=41) Z Z c Z Q8 Z) (ek Z Z (J (Sz (f:=41) (BP l) id false _ Z Z a Z Eo IS Sh (YQ l id) Z) (AB Z Z (AD (A2 ?_))))))));exact ⟨_,[41],_,A0 Z,Z,Z,Z,Z⟩
theorem J3(p:gB)(l:List Int)(c:E6 p)(b:l.length<=100000)(a:p.it.length<=1000):AL prog 64 [.d (Bf p),.d (.sl none (l.map AF))] (AF (CZ p l)):=by
 refine Av func64 Z Z ntmps64 Z Z Z λF f=>(AC (AE (V (Bh 1 Z Z Z Z Z Z Z) (AB Z Z ?_))));refine AD (AC (AE (J (Ay Z Z Bp Z Z Z) (ek Z Z (J (Au (au p l c b a) Z Z) (ek Z Z (J (De Z Z Z) (J (De Z Z Z) ?_))))))));refine AB Z Z (AB Z Z (AD (AC (AE (ek Z Z (AB Z Z (AD (A2 ?_))))))));exact ⟨_,[],[],A0 Z,Z,Z,Z,Z⟩
abbrev Ct(e:AJ×Nat):D:= .agg [AF e.1.id,AF e.1.pr,AF e.1.sq,.sl none (e.1.po.map BT),.sl none (e.1.pa.map C4),.sl none (e.1.af.map AF),mD e.2]
abbrev Jz(m:List (AU×Int)):List (D×D):=B4 Bc AF m
def Wk(rs:List AU)(M:MF)(E:List (AJ×Nat)):Prop:=∀e∈E,M e.2=some (.map none (Jz (dR rs e.1)))
theorem Wk.add(a:Wk h M E)(c:M u=none):Wk h (B5 M u (.map none (Jz (dR h F)))) (E++ [(F,u)]):=by grind[Wk,B5]
def dK(rs:List AU)(i:AJ)(j:Nat):List (AU×Int):=((A3 i).take j).filter λd=>decide (d.1∈rs)
theorem qw(a:List AU)(i:AJ):dK a i (A3 i).length=dR a i:=by unfold dK dR;rw[gy]
theorem qv(k:t<(A3 F).length)(a:((A3 F)[t]).1∈h):BX (dK h F t) ((A3 F)[t]).1 ((A3 F)[t]).2=dK h F (t+1):=by
 have g:=DZ F
 have l:((A3 F)[t]).1∉(dK h F t).map Prod.fst:=λb=>by
  obtain ⟨d,c,e⟩:=Θ.1 b;have f:d∈(A3 F).take t:=(gk.1 c).1;have o:((A3 F)[t]).1∈((A3 F).map Prod.fst).take t:=by rw[<-List.map_take,<-e];exact jg f
  grind[Kl]
 grind[EU,dK,ψ]
theorem m0(b:t<(A3 F).length)(a:((A3 F)[t]).1∉h):dK h F (t+1)=dK h F t:=by
 unfold dK;rw[ψ b,i7]
 simp[a]
def U2(a b:AJ):Int:=if ES a b<0 then -1 else 1
theorem U1{b:AJ}:U2 G b<0↔ES G b<0:=by grind[U2]
theorem eT:Go.Sort.SWO (ltOf U2):=by
 have e:ltOf U2=ltOf ES:=by
  funext a b
  exact decide_eq_decide.2 U1
 rw[e];exact Dq.swo
theorem WZ(a b:AJ):AL prog 116 [.d (Af a),.d (Af b)] (AF (U2 a b)):=by
 refine Av func116 Z Z ntmps116 Z Z Z λF f=>(AC (AE (V (Bh 1 Z Z Z Z Z Z Z) (V (Bh 2 Z Z Z Z Z Z Z) (AB Z Z ?_)))));refine AD (AC (AC (AE (J (Ay Z Z CM Z Z Z) (J (Ay Z Z CM Z Z Z) (J (Au (fU a b) Z Z) (AD (A6 Z (λc=>?_) (λc=>?_)))))))))
 .refine AC (AE (AB Z Z (AD (A2 ?_))));exact ⟨_,[],[],A0 Z,Z,Z,Ae (by unfold U2;rw[ς c]),Z⟩
 .refine AW (AC (AE (AB Z Z (AD (A2 ?_)))));exact ⟨_,[],[],A0 Z,Z,Z,Ae (by unfold U2;rw[κ c]),Z⟩
theorem Zx(l:List AJ)(c:l.length<=1000000):AP prog 114 [.d (.sl none (l.map Af))] [] λr b=>r= .own 20 0 l.length/\b=[(20,[.rowD 55 6 (l.map Af)])]:=by
 refine Av func114 Z Z ntmps114 Z Z Z λF f=>(AC (AE (AB Z Z ?_)));skip;refine AD (AC (AC (AE (ek Z Z (Fq 3 Z (λa=>?_) ?_)))))
 .refine J (Eb No Z Z) (AD (Bw Z (Z) (AC (AE (AB Z Z (X2 2 20 Lh Z Z Z Z (AD (A2 ?_))))))));exact ⟨_,[20],_,A0 Z,Z,Z,by rw[List.map_eq_nil_iff.1 a];rfl,by rw[List.map_eq_nil_iff.1 a];rfl⟩
 .refine J (Eb No Z Z) ?_;refine AD (Cr Z (Z) (AW (AC (AE (V (C1 20 Lh Z Z Z Z Z Z Z Z) (ek Z Z (V (QD (([]:List AJ)) (l) Z Z Z Z Z Z (λ_=>rfl) Lh (by simp only[jO];omega) Z Z Z Z) (AB Z Z ?_))))))));skip;refine AD (A2 ?_);exact ⟨_,[20],_,A0 Z,Z,Z,by simp,Z⟩
theorem pP(a:(gJ x).Nodup)(b:o<x.ro.length):BX (BP ((gJ x).take o)) x.ro[o].r true=BP ((gJ x).take (o+1)):=by grind[gJ,aU,Kl,ψ]
theorem MV(p:gB)(hE:BB p=0)(hf:GJ p)(g:FuncId)(o:List D)(N:MF)(I:Int->Bool)(hq:∀id,AP prog g (.d (AF id)::dL o) [(41,[.multi N])] λr H'=>r= .d (Ah (I id))/\H'=[(41,[.multi N])]):
  AP prog 65 [.d (Bf p),.d (.fn g [] o)] [(41,[.multi N])] λr H'=>∃E M,r= .d (.sl none (E.map Ct))/\H'=[(41,[.multi N]),(40,[.multi M])]/\Wk (gJ p) M E/\E.map Prod.fst=(gC p).filter λi=>I i.id:=by
 have hO:gC p=BN p.it:=ς hE;rw[hO]
 obtain ⟨c,s⟩:∃c,BN p.it=c:=⟨_,Z⟩
 have Y:c.length=p.it.length:=by rw[<-s];exact aW p.it
 have K:∀i∈c,i∈p.it:=λi hi=>by rw[<-s] at hi;exact (aQ p.it).mem_iff.1 hi
 have hi30:=hf.i;have T:=hf.r;have R:(gJ p).Nodup:=Hb hE;have S:(gJ p).length=p.ro.length:=χ _;have Q:=Mq (P6 hE).2.1;rw[s];refine Av func65 Z Z ntmps65 Z Z Z λF w=>(AC (AE ?_));refine V (Bh 1 Z Z Z Z Z Z Z) (AB Z Z (AD (AC (AE (V (Pc 50 Z Z Z Z) (AB Z Z (AD (AC ?_))))))));refine AC (AE (J (AK Z DW Z Z Z) (J (AO Z Z Z NO Z) (J (BS Z an Z) (ek Z Z (AD (AZ (BM (α:=Nat) (λk=>⟨76,[(1,.d (.fn g [] o)),(2,(.ptr 1 0 0)),(5,(.map 50 0)),(19,(.d (.sl none (p.ro.map Bj)))),(20,(.d (AF (p.ro.length:Int)))),(21,(.d (AF (k:Int))))],[(1,[.blk 39 [.d (.sl none (p.ro.map Bj)),.d (.sl none (p.it.map Af))]]),(50,[BY Bc Ah (BP ((gJ p).take k))]),(41,[.multi N])]⟩) (λk=>k<=p.ro.length) (λk=>p.ro.length-k) (0) (ζ _) (AX w [1,50,41] Z Z ⟨Z,Z,Z,Z,Z,Z,trivial⟩) ?_))))))));rintro k hk;refine AC (AE (J (Az Z Z Z) (AD (AC (A6 Z (λH=>?_) (λH=>?_))))))
 .refine AW (AC (AZ (AC ?_)));have l:k<p.ro.length:=BQ H;refine AE (J (BC (k) Z Z (Z) (A1 l) an Z KS Z) ?_);refine J (C7 Z Z Vi Z) (V (Bx 2 RP Z Z Z Z) (V (B3 Z Z Z Z Z Z Z KS) (AD (AE (ek Z Z (J (AK Z EX Z Z Z) (J (Ay Z Z C9 Z Z Z) (V (VH (BP ((gJ p).take k)) (p.ro[k].r) (true) Z Z Z Qe CY Z Z) ?_))))))));rw[pP R l];refine AD (AE (J (Aj Z Z (AN (k+1) (by omega)) Z) (ek Z Z (AD ?_))));exact ⟨k+1,l,by omega,AX w [1,50,41] Z (Z) ⟨Z,Z,Z,Z,Z,Z,trivial⟩⟩
 .refine Aw (AC ?_);have z:k=p.ro.length:=by have:=H;omega
  rw[z,<-S,gy];refine AE (AB Z Z (AD (AC (AE (J (AK Z Cc Z Z Z) (J (AO Z Z Z IR Z) (V (FH (Zx p.it (by omega)) Z [20] ⟨Z,trivial⟩ Z Z Z Z Z Z Z Z Z) (AB Z Z ?_))))))));refine AD (AC (AE (ek Z Z (V (NV oV (k:=6) (by decide) isAgg55 sizeOf55 func116 Z Z UG U2 eT p.it c (by omega) (λx _ y _=>WZ x y) (λys g1 g2=>by rw[<-s];exact XQ Q g1 (g2.imp λ{a b} h h2=>h (U1.2 h2))) Z Z Z MT Z Z Z Z Z) (AD (AC (AC (KL (emb:=Af) 9 20 c Z Z Z Y.symm Z Z Z ?_))))))));refine IC 40 Z Z Z (AE (ek Z Z (J (BS Z No Z) (ek Z Z (AD (AZ (NF 8 30 bc Z Z Z Z (BM (α:=Nat×List (AJ×Nat)×MF) (λq=>⟨76,[(1,.d (.fn g [] o)),(2,(.ptr 1 0 0)),(5,(.map 50 0)),(8,(.own 30 0 q.2.1.length)),(34,(.d (.sl none (c.map Af)))),(35,(.d (AF (c.length:Int)))),(36,(.d (AF (q.1:Int))))],[(50,[BY Bc Ah (BP (gJ p))]),(41,[.multi N]),(30,[.rowD 131 7 (q.2.1.map Ct)]),(40,[.multi q.2.2])]⟩) (λq=>q.1<=c.length/\Wk (gJ p) q.2.2 q.2.1/\q.2.1.map Prod.fst=(c.take q.1).filter λi=>I i.id) (λq=>c.length-q.1) ((0,[],_)) (⟨ζ _,(λe he=>by cases he),Z⟩) (AX w [50,41,30,40] Z Z ⟨Z,Z,Z,Z,Z,Z,Z,trivial⟩) ?_))))))));rintro ⟨k,E,M⟩ ⟨hk,O,t⟩;dsimp only at hk O t⊢;refine AC (AE (J (Az Z Z Z) (AD (AC (A6 Z (λG=>?_) (λG=>?_))))))
  .refine AW (AC (AZ (AC ?_)));have l:k<c.length:=BQ G;have W:=K _ (ϑ l);have U:=hf.x _ W;have hEl:E.length<=30:=by have h1:(E.map Prod.fst).length<=c.length:=(by rw[t];exact gY (iI _ _) (by rw[ϱ];omega));rw[χ] at h1;omega
   refine AE (J (BC (k) Z Z (Z) (A1 l) No Z Ch Z) (J (C7 Z Z CM Z) (V (Bx 2 FK Z Z Z Z) (V (B3 Z Z Z Z Z Z Z Ch) (AD (AC ?_))))));refine AC (AE (ek Z Z (J (AK Z Nr Z Z Z) (J (AO Z Z Z Am Z) (V (VT (hq c[k].id) Z [41] ⟨Z,trivial⟩ Z Z Z Z Z Z Z Z Z) (J (NE Z Z) (AD (JC Z (λC=>?_) (λC=>?_)))))))))
   .have u:¬I c[k].id=true:=by simpa using C
    refine Aw (AE (J (Aj Z Z (AN (k+1) (by omega)) Z) (ek Z Z (AD ?_))));exact ⟨(k+1,E,M),⟨l,O,by show _=(c.take (k+1)).filter _;rw[ψ l,i7,t,jS,κ u];simp⟩,by show c.length-(k+1)<c.length-k;omega,AX w [50,41,30,40] Z (Z) ⟨Z,Z,Z,Z,Z,Z,Z,trivial⟩⟩
   .have u:I c[k].id=true:=by simpa using C
    refine AW (AC (AE (J (Ay Z Z CM Z Z Z) (V (Pc 51 Z Z Z Z) (MA 46 51 40 w Z Z Z Z Z Z Z Z Z Z (λ_=>rfl) λL hb=>(JQ 40 L Z (GG _ _ _) Z ?_))))));rw[Ft];refine J (E5 Me sv Z Z Z) (V (Bx 3 Me Z Z Z Z) (V (B3 Z Z Z Z Z Z Z GV) (AD (AC ?_))));refine AE (J (Ay Z Z CM Z Z Z) (J (Au (U7 c[k] (by omega) (by omega) (by omega)) Z Z) (ek Z Z (J (De Z Z Z) (J (De Z Z Z) (AB Z Z (AB Z Z (AD ?_))))))));refine AC (AC (AE (ek Z Z (J (BS Z underlying215 Z) (ek Z Z (AD (AZ (BM (α:=Nat) (λj=>⟨76,[(1,.d (.fn g [] o)),(2,(.ptr 1 0 0)),(5,(.map 50 0)),(8,(.own 30 0 E.length)),(12,(.ptr 3 0 0)),(34,(.d (.sl none (c.map Af)))),(35,(.d (AF (c.length:Int)))),(36,(.d (AF (k:Int)))),(53,(.d (.sl none ((A3 c[k]).map Px)))),(54,(.d (AF ((A3 c[k]).length:Int)))),(55,(.d (AF (j:Int))))],[(3,[.blk 131 [.d (AF c[k].id),.d (AF c[k].pr),.d (AF c[k].sq),.d (.sl none (c[k].po.map BT)),.d (.sl none (c[k].pa.map C4)),.d (.sl none (c[k].af.map AF)),.d (mD L)]]),(50,[BY Bc Ah (BP (gJ p))]),(41,[.multi N]),(30,[.rowD 131 7 (E.map Ct)]),(40,[.multi (B5 M L (.map none (Jz (dK (gJ p) c[k] j))))])]⟩) (λj=>j<=(A3 c[k]).length) (λj=>(A3 c[k]).length-j) (0) (ζ _) (AX w [3,50,41,30,40] Z Z ⟨Z,Z,Z,Z,Z,Z,Z,Z,Z,Z,Z,trivial⟩) ?_))))))));rintro j hj;refine AC (AE (J (Az Z Z Z) (AD (AC (A6 Z (λB=>?_) (λB=>?_))))))
    .refine AW (AC (AZ (AC ?_)));have hdl:=Nj (x:=c[k]) U;have v:j<(A3 c[k]).length:=BQ B;refine AE (J (BC (j) Z Z (Z) (A1 v) underlying215 Z Wx Z) (J (C7 Z Z oG Z) (V (Bx 4 a8 Z Z Z Z) (V (B3 Z Z Z Z Z Z Z Wx) ?_))));refine AD (AC (AE (ek Z Z (J (AK Z LG Z Z Z) (J (Ay Z Z C9 Z Z Z) (J (IV (BP (gJ p)) ((A3 c[k])[j]).1 false _ Z Z Z Qe CY Sh (YQ _ _) Z) (AD (A6 Z (λA=>?_) (λA=>?_)))))))))
     .refine AE (J (AK Z LQ Z Z Z) (J (AO Z Z Z Td Z) (J (AK Z LG Z Z Z) (J (Ay Z Z C9 Z Z Z) (J (AK Z Xv Z Z Z) (J (AO Z Z Z Fo Z) (V (OG (f:=40) (dK (gJ p) c[k] j) ((A3 c[k])[j]).1 ((A3 c[k])[j]).2 Z Z (GG _ _ _) Z CP CY Z Z) ?_)))))));rw[Ft,qv v A];refine AD (AE (J (Aj Z Z (AN (j+1) (by omega)) Z) (ek Z Z (AD ?_))));exact ⟨j+1,v,by omega,AX w [3,50,41,30,40] Z (Z) ⟨Z,Z,Z,Z,Z,Z,Z,Z,Z,Z,Z,trivial⟩⟩
     .refine AW (AE (J (Aj Z Z (AN (j+1) (by omega)) Z) (ek Z Z (AD ?_))));exact ⟨j+1,v,by omega,AX w [3,50,41,30,40] Z (by simp only[m0 v A];rfl) ⟨Z,Z,Z,Z,Z,Z,Z,Z,Z,Z,Z,trivial⟩⟩
    .refine Aw ?_;have X:j=(A3 c[k]).length:=by have:=B;omega
     rw[X,qw];refine AE (ek Z Z ?_);refine J (Ay Z Z K3 Z Z Z) (V (C1 31 bc Z Z Z Z Z Z Z Z) (V (Ev (E) ([(c[k],L)]) Z Z Z Z Z Z Z Z bc (by simp only[υ];omega) Z Z Z Z) (AB Z Z (AD (AE (J (Aj Z Z (AN (k+1) (by omega)) Z) (ek Z Z (AD ?_))))))));exact ⟨(k+1,E++ [(c[k],L)],_),⟨l,O.add hb,by show _=(c.take (k+1)).filter _;rw[ψ l,i7,Ω,t,jS,ς u];rfl⟩,by show c.length-(k+1)<c.length-k;omega,AX w [50,41,30,40] Z (Z) ⟨Z,Z,Z,Z,Z,Z,Z,trivial⟩⟩
  .refine Aw (AC ?_);have z:k=c.length:=by have:=G;omega
   rw[z,gy] at t;refine KL (emb:=Ct) 8 30 E Z Z Z Z Z Z Z (AE (ek Z Z (AB Z Z (AD (A2 ?_)))));exact ⟨_,[41,40],_,A0 Z,Z,Z,E,M,Z,Z,O,t⟩
abbrev AT(n:Nat):D:=AF (n:Int)
abbrev gD(l:List Nat):D:= .sl none (l.map AT)
theorem Ow(h:o<k.length):(k.map AT)[o]? =some (AT (fz k o)):=by rw[A1 h,QC h]
theorem eqv{a b:D}(h:a=b):AV.d a=AV.d b:=by rw[h]
theorem u2{j:List Nat}{a:Nat}(f:a<k.length)(c:u<k.length):((k++j).set a (fz k u)).set u (fz k a)=Mi k a u++j:=by
 rw[List.set_append_left _ _ f,List.set_append_left _ _ (by simpa using c)];rfl
theorem np(l j:List Nat):((l++j).map AT).take l.length++ [AT H].take 1=(l++ [H]).map AT:=by
 rw[<-List.map_take,List.take_left];simp
theorem uj{j:List Nat}(h:0<k.length):k.take (k.length-1)++([fz k (k.length-1)]++j)=k++j:=by grind[kX,kY,QC]
theorem ui(j:Nat):Int.tdiv ((j:Int)-1) 2=(((j-1) / 2:Nat):Int):=by grind
theorem AP.top{P:Program}{f:FuncId}{a:List AV}{k j:Hp}(h:AP P f a k λr c=>(∃b:Bool,r= .d (Ah b))/\c=j):AP P f a k λr c=>r= .top/\c=j:=
 ⟨h.1,λF l o y x i w u t=>(h.2 F l o y x i w u t).mono λe B ⟨v,r,c,g,A,⟨_,z⟩,_,s⟩=>⟨v,.top,c,g,A,⟨Z,z⟩,.top,s⟩⟩
theorem vL{p q:Prop}[Decidable p][Decidable q](h:p↔q):AV.d (Ah (decide p))=AV.d (Ah (decide q)):=by rw[decide_eq_decide.2 h]
theorem sf:FN prog 3=true:=by kernel_rfl
theorem cI:FN prog 321=true:=by kernel_rfl
theorem tO:KI prog 321 "Len" 223:=λb w=>by kernel_rfl
theorem dO:KI prog 321 "Less" 296:=λb w=>by kernel_rfl
theorem dN:KI prog 321 "Swap" 299:=λb w=>by kernel_rfl
theorem tN:KI prog 321 "Push" 298:=λb w=>by kernel_rfl
theorem vA:KI prog 321 "Pop" 297:=λb w=>by kernel_rfl
abbrev Ms(g:List (List Nat)):D:= .sl none (g.map gD)
structure GB (g:List (List Nat)):Prop where
 n:g.length<=65536
 e:∀l∈g,l.length<=1048576
 lt:∀l∈g,∀x∈l,x<g.length
theorem Ff(h:i<g.length):fm g i=g[i]:=by simp[fm,h]
theorem Zo(h:i<g.length):(g.map gD)[i]? =some (gD (fm g i)):=by rw[A1 h,Ff h]
theorem GB.len(h:GB g){i:Nat}(a:i<g.length):(fm g i).length<=1048576:=by rw[Ff a];exact h.e _ (ϑ a)
theorem GB.suc(h:GB g)(b:i<g.length)(a:H∈fm g i):H<g.length:=by rw[Ff b] at a;exact h.lt _ (ϑ b) H a
def SQ(g:List (List Nat))(i j:Nat):Nat:=((List.range i).map λa=>(fm g a).count j).sum
theorem RB(g:List (List Nat))(i j:Nat):SQ g (i+1) j=SQ g i j+(fm g i).count j:=by
 unfold SQ;rw[iM,Ω,ji];simp
theorem YH{g:List (List Nat)}(h:GB g)(j:Nat):∀i,i<=g.length->SQ g i j<=i*1048576
 | 0,_=>by simp[SQ]
 | i+1,b=>by
  have:=YH h j i (by omega);have:=List.count_le_length (a:=j) (l:=fm g i);have:=h.len (i:=i) (by omega);rw[RB];omega
theorem fD(g:List (List Nat))(j:Nat):SQ g g.length j=MW g [] j:=by
 unfold SQ MW
 congr 1
theorem V6(h:o<k.length)(j:Nat):(k.take (o+1)).count j=(k.take o).count j+if fz k o=j then 1 else 0:=by grind[ψ,QC]
theorem ei(h:o<k.length):k.drop o=fz k o::k.drop (o+1):=by rw[QC h];exact kY h
theorem s9(n:Nat):List.replicate n (D.raw (.int .i64 0))=(List.replicate n 0).map AT:=by rw[List.map_replicate];rfl
theorem l7(n k:Nat):fz (List.replicate n 0) k=0:=by
 unfold fz;rw[Φ,List.getElem?_replicate];split<;>rfl
theorem qe{v:Nat}(h:L<w.length):((w.set L v).map AT)[L]? =some (AT v):=by grind
theorem mZ(h:GB g)(done:List Nat)(j:Nat):MW g done j<=g.length*1048576:=by
 have b:∀n,n<=g.length->((List.range n).map λi=>if i∈done then 0 else (fm g i).count j).sum<=n*1048576:=by
  intro n
  induction n with
  | zero=>intro _;exact ζ _
  | succ n c=>
   intro s;have r:=c (by omega);have o:=List.count_le_length (a:=j) (l:=fm g n);have k:=h.len (i:=n) (by omega)
   have f:(if n∈done then 0 else (fm g n).count j)<=1048576:=by
    by_cases e:n∈done
    .rw[ς e];exact ζ _
    .rw[κ e];exact gY o k
   rw[iM,Ω,ji,List.map_singleton,List.sum_singleton,Nat.succ_mul];exact Nat.add_le_add r f
 exact b _ (Γ _)
theorem pc{q b:List Nat}(c:GB g)(h:OI g K w q z (L::b))(f:L<g.length)(j:b.length<=1048576):fz w L<=69000000000:=by
 have o:=mZ c z L;have k:=c.n;have i:=List.count_le_length (a:=L) (l:=L::b);rw[h.deg L f];rw[jj] at i;omega
theorem pe{q:List Nat}(h:OI g K w q z ((fm g H).drop o))(e:o=(fm g H).length):OI g K w q z []:=by
 rw[e,List.drop_length] at h;exact h
noncomputable def iJ(g:List (List Nat))(K:Nat->Nat):List Nat:=Classical.epsilon λout=>RM g K out/\∀y,¬DM g out y
theorem lW(i:∀a b,a<g.length->b<g.length->K a=K b->a=b)(f:RM g K z)(c:∀y,¬DM g z y):iJ g K=z:=by
 have h:RM g K (iJ g K)/\∀y,¬DM g (iJ g K) y:=Classical.epsilon_spec (p:=λz=>RM g K z/\∀y,¬DM g z y) ⟨z,f,c⟩;exact eA i h.1 f h.2 c
structure FI (K:Nat->Nat) (w:List Nat) (i:Nat) (l:List Nat):Prop where
 nd:l.Nodup
 mem:∀x,x∈l↔x<i/\fz w x=0
 hp:JF K l
theorem FI.le(h:FI K w i k):k.length<=i:=by
 have:=DJ h.nd (m:=List.range i) λx a=>Ψ.2 ((h.mem x).1 a).1
 grind
theorem mJ(K:Nat->Nat)(w:List Nat):FI K w 0 []:=⟨.nil,λx=>by simp,λi b a=>by simp at a⟩
theorem mL(h:FI K w i k)(c:fz w i=0):FI K w (i+1) (Mr K k i):=by
 have a:=Oo K k i;refine ⟨a.nodup_iff.2 (kL.2 ⟨λb=>jz _ ((h.mem i).1 b).1,h.nd⟩),λx=>?_,Oq h.hp i⟩;rw[a.mem_iff,Υ,h.mem]
 grind
theorem mK(h:FI K w i k)(a:fz w i≠0):FI K w (i+1) k:=by
 refine ⟨h.nd,λx=>?_,h.hp⟩;rw[h.mem]
 grind
structure CW (g:List (List Nat)) (i k:Nat) (w:List Nat):Prop where
 len:w.length=g.length
 val:∀j,j<g.length->fz w j=SQ g i j+((fm g i).take k).count j
theorem m5(g:List (List Nat)):CW g 0 0 (List.replicate g.length 0):=⟨by simp,λj _=>by rw[l7];simp[SQ]⟩
theorem m6(c:GB g)(h:CW g i o w)(t:i<g.length)(r:o<(fm g i).length):
  fz (fm g i) o<w.length/\fz w (fz (fm g i) o)<=100000000000/\CW g i (o+1) (w.set (fz (fm g i) o) (fz w (fz (fm g i) o)+1)):=by
 have f:fz (fm g i) o<g.length:=c.suc t (Du r);have b:fz (fm g i) o<w.length:=by rw[h.len];exact f
 refine ⟨b,?_,⟨by simpa using h.len,λj s=>?_⟩⟩
 .rw[h.val _ f];have:=YH c (fz (fm g i) o) i (by omega);have:=List.count_le_length (a:=fz (fm g i) o) (l:=(fm g i).take o);rw[ϱ] at this;have:=c.len t;have:=c.n;omega
 .rw[Kg b,V6 r]
  by_cases e:fz (fm g i) o=j
  .rw[ς e.symm,ς e,e,h.val j s];omega
  .rw[κ λu=>e u.symm,κ e,h.val j s];omega
theorem qx(h:CW g i (fm g i).length w):CW g (i+1) 0 w:=⟨h.len,λj a=>by rw[h.val j a,gy,RB];simp⟩
theorem qy(h:CW g g.length 0 w):w.length=g.length/\∀j,j<g.length->fz w j=MW g [] j:=
 ⟨h.len,λj a=>by rw[h.val j a,fD];simp⟩
def aR(rs:List AU)(a b:AJ):Prop:=(∃d∈dR rs a,d.2<0/\0<Ac (dR rs b) d.1 0)\/b.id∈a.af
noncomputable instance (rs:List AU) (a b:AJ):Decidable (aR rs a b):=Classical.propDecidable _
theorem HB{b a:List s}{x:List s}{y:s}{c:List s}(h:(b++x).Perm c)(f:x.Perm (y::a)):((b++ [y])++a).Perm c:=by
 refine List.Perm.trans ?_ h;rw[jx];exact (List.Perm.append_left b f).symm
theorem dV{m:List (s×Q)}{x:s×Q}(h:m[t]? =some x):x∈m:=ξ h
theorem k8(a b:AJ×Nat)(H:M a.2=some (.map none (Jz (dR h a.1))))(w:M b.2=some (.map none (Jz (dR h b.1))))(R:a.1.af.length<=100000):
  AP prog 132 [.d (Ct a),.d (Ct b)] [(40,[.multi M])] λr H'=>r= .d (Ah (decide (aR h a.1 b.1)))/\H'=[(40,[.multi M])]:=by
 obtain ⟨a,o⟩:=a;obtain ⟨b,O⟩:=b;dsimp only at H w R⊢
 obtain ⟨L,T⟩:∃L,dR h a=L:=⟨_,Z⟩
 have I:aR h a b↔((∃d∈L,d.2<0/\0<Ac (dR h b) d.1 0)\/b.id∈a.af):=by rw[<-T];exact Iff.rfl
 rw[T] at H;refine Av func132 Z Z ntmps132 Z Z Z λF S=>(AC (Ma 40 o Z H (λ_ _=>rfl) λB c Y X=>?_))
 obtain ⟨C,s⟩:∃C,B5 M o (.map (some (B,c)) (Jz L))=C:=⟨_,Z⟩
 rw[s];have j:C o=some (.map (some (B,c)) (Jz L)):=by rw[<-s,GG]
 have z:∃bs,C O=some (.map bs (Jz (dR h b))):=by
  by_cases e:O=o
  .subst e;rw[H] at w;injection w with w;injection w with _ w;exact ⟨_,by rw[j,w]⟩
  .exact ⟨none,by rw[<-s,ID e];exact w⟩
 obtain ⟨bsb,z⟩:=z;have k:B5 C o (.map none (Jz L))=M:=by rw[<-s,Ft];exact MD H
 refine AE (V (Bh 20 Z Z Z Z Z Z Z) (V (Bh 21 Z Z Z Z Z Z Z) (AB Z Z (AD ?_))));refine AC (AC (AE (J (AK Z LQ Z Z Z) (J (AO Z Z Z Td Z) (V (Lc 22 (f:=40) Z Z (j) Z CP Z Z Z Z) (AD (AZ (BM (α:=List Nat×List (AU×Int)) (λq=>⟨31,[(2,(.ptr 20 0 0)),(3,(.ptr 21 0 0)),(9,(.ptr 22 0 0))],[(20,[.blk 131 [.d (AF a.id),.d (AF a.pr),.d (AF a.sq),.d (.sl none (a.po.map BT)),.d (.sl none (a.pa.map C4)),.d (.sl none (a.af.map AF)),.d (mD o)]]),(21,[.blk 131 [.d (AF b.id),.d (AF b.pr),.d (AF b.sq),.d (.sl none (b.po.map BT)),.d (.sl none (b.pa.map C4)),.d (.sl none (b.af.map AF)),.d (mD O)]]),(22,[.iter 40 o c q.1]),(40,[.multi C])]⟩) (λq=>(q.2++CC L B q.1).Perm L/\∀d∈q.2,¬(d.2<0/\0<Ac (dR h b) d.1 0)) (λq=>(CC L B q.1).length) (([],[])) (⟨by show ([]++CC L B []).Perm L;rw[nX (by simpa [B4] using Y)];exact List.Perm.refl _,(λd y=>by cases y)⟩) (AX S [20,21,22,40] Z Z ⟨Z,Z,Z,trivial⟩) ?_))))))));rintro ⟨seen,A⟩ ⟨K,N⟩;dsimp only at K N⊢;refine AC (AE (Rg (L) Z Z Z (j) Z (λE=>?_) (λQ l x D v G U i=>⟨_,Z,?_⟩)))
 .rw[E] at K;refine JQ 40 o Z j Z ?_;rw[k];refine J (DC Z Z Z) (AD (AC (Cr Z Z (Aw (AC (AE (J (AK Z JZ Z Z Z) ?_)))))));refine J (AK Z Dz Z Z Z) (J (AO Z Z Z BH Z) (J (AK Z JZ Z Z Z) (J (AK Z Nr Z Z Z) (J (AO Z Z Z Am Z) (J (Au (PO a.af b.id (by omega)) Z Z) (AB Z Z (AD (A2 ?_))))))));exact ⟨_,[40],_,A0 Z,Z,Z,by rw[decide_eq_decide.2 (I.trans ⟨λg=>g.resolve_left λ⟨d,y,W⟩=>N d ((show A.Perm L by simpa using K).mem_iff.2 y) W,.inr⟩)],Z⟩
 .refine J (DC Z Z Z) (AD (AC ?_));refine Bw Z Z (AW (AZ (AC (AE (J (Ld (L) Q l Z Z Z (j) v G Z) (J (DC Z Z Z) (J (DC Z Z Z) (V (Bx 23 KM Z Z Z Z) ?_))))))));refine V (B3 Z Z Z Z Z Z Z Yb) (AB Z Z (AD (AC (AE (ek Z Z (J (Az Z Z Z) (ek Z Z (CU 17 Z (λu=>?_) (λu=>?_)))))))))
  .refine AQ Z Z Z (J (AK Z LQ Z Z Z) (AQ Z Z Z (J (AO Z Z Z Td Z) ?_)));refine AQ Z Z Z (J (Ay Z Z C9 Z Z Z) (AQ Z Z Z (J (Sz (f:=40) (dR h b) x 0 _ Z Z z Z CP CY P9 Z Z) (AQ Z Z Z (J (HV Z Z Z) (J (BZ Z Z Z Z) (AD (A6 Z (λt=>?_) (λt=>?_)))))))))
   .refine AC (nT 40 o Z j Z ?_);rw[k];refine AE (AB Z Z (AD (A2 ?_)));exact ⟨_,[40],_,A0 Z,Z,Z,by rw[gi (I.2 (.inl ⟨_,dV v,u,t⟩))],Z⟩
   .refine AW ?_;exact ⟨(seen++ [l],A++ [(x,D)]),⟨HB K i,λd y=>(ϖ.1 y).elim (N d) λe=>by rw[θ.1 e];first | exact λg=>u g.1 | exact λg=>t g.2⟩,by show (CC L B (seen++ [l])).length<(CC L B seen).length;rw[i.length_eq];exact jG _,AX S [20,21,22,40] Z (Z) ⟨Z,Z,Z,trivial⟩⟩
  .refine AI Z Z Z Z (AI Z Z Z Z (AI Z Z Z Z (AI Z Z Z Z (AI Z Z Z Z (J (Be Z Z Z Z) (AD (Cr Z Z (AW ?_))))))));exact ⟨(seen++ [l],A++ [(x,D)]),⟨HB K i,λd y=>(ϖ.1 y).elim (N d) λe=>by rw[θ.1 e];first | exact λg=>u g.1 | exact λg=>t g.2⟩,by show (CC L B (seen++ [l])).length<(CC L B seen).length;rw[i.length_eq];exact jG _,AX S [20,21,22,40] Z (Z) ⟨Z,Z,Z,trivial⟩⟩
def DK(E:List (AJ×Nat))(k:Nat):AJ:=(E.getD k (Ag,0)).1
noncomputable def jE(rs:List AU)(E:List (AJ×Nat))(a:AJ)(k:Nat):List Nat:=(List.range k).filter λj=>decide (aR rs a (DK E j))
noncomputable def iu(rs:List AU)(E:List (AJ×Nat)):List (List Nat):=E.map λe=>jE rs E e.1 E.length
theorem kb(b:aR h G (DK E o)):jE h E G (o+1)=jE h E G o++ [o]:=by
 unfold jE;rw[iM,i7];simp[b]
theorem av(b:¬aR h G (DK E o)):jE h E G (o+1)=jE h E G o:=by
 unfold jE;rw[iM,i7];simp[b]
theorem Wq(b:List AU)(E:List (AJ×Nat))(a:AJ)(k:Nat):(jE b E a k).length<=k:=by grind[jE]
theorem S2(a:o<E.length):DK E o=(E[o]).1:=by unfold DK;rw[Φ,ω a];rfl
theorem Ho(a:List AU)(E:List (AJ×Nat)):(iu a E).length=E.length:=χ _
theorem mF(E:List (AJ×Nat))(x:Wk h M E)(C:E.length<=1000)(w:∀e∈E,e.1.af.length<=100000):
  AP prog 77 [.d (.sl none (E.map Ct))] [(40,[.multi M])] λr D=>r= .d (Ms (iu h E))/\D=[(40,[.multi M])]:=by
 refine Av func77 Z Z ntmps77 Z Z Z λF o=>?_;refine AC (AE (AB Z Z (AD (AC (AE (AB Z Z (AD (AC ?_))))))));refine AC (AE (ek Z Z (J (BS Z cl Z) (ek Z Z (AD (AZ (NF 3 10 XH Z Z Z Z (BM (α:=Nat×List (List Nat)) (λq=>⟨36,[(0,.d (.sl none (E.map Ct))),(3,(.own 10 0 q.2.length)),(9,(.d (.sl none (E.map Ct)))),(10,(.d (AF (E.length:Int)))),(11,(.d (AF (q.1:Int))))],[(10,[.rowD 28 1 (q.2.map gD)]),(40,[.multi M])]⟩) (λq=>q.1<=E.length/\q.2=(iu h E).take q.1) (λq=>E.length-q.1) ((0,[])) (⟨ζ _,Z⟩) (AX o [10,40] Z Z ⟨Z,Z,Z,Z,Z,trivial⟩) ?_))))))));rintro ⟨i,G⟩ ⟨z,s⟩;dsimp only at z s⊢;refine AC (AE (J (Az Z Z Z) (AD (AC (A6 Z (λg=>?_) (λg=>?_))))))
 .refine AW (AC (AZ (AC ?_)));have b:i<E.length:=BQ g;have B:G.length<=1000:=by rw[s,ϱ];omega
  have l:=ϑ b;refine AE (J (BC (i) Z Z (Z) (A1 b) cl Z GV Z) ?_);refine J (C7 Z Z K3 Z) (V (Bx 21 Me Z Z Z Z) (V (B3 Z Z Z Z Z Z Z GV) (AD (AC (AE (AB Z Z (AD (AC ?_))))))));refine AC (AE (ek Z Z (J (BS Z cl Z) (ek Z Z (AD (AZ (NF 6 11 BR Z Z Z Z (BM (α:=Nat×List Nat) (λq=>⟨36,[(0,.d (.sl none (E.map Ct))),(3,(.own 10 0 G.length)),(5,(.ptr 21 0 0)),(6,(.own 11 0 q.2.length)),(9,(.d (.sl none (E.map Ct)))),(10,(.d (AF (E.length:Int)))),(11,(.d (AF (i:Int)))),(15,(.d (.sl none (E.map Ct)))),(16,(.d (AF (E.length:Int)))),(17,(.d (AF (q.1:Int))))],[(21,[.blk 131 [.d (AF (E[i]).1.id),.d (AF (E[i]).1.pr),.d (AF (E[i]).1.sq),.d (.sl none ((E[i]).1.po.map BT)),.d (.sl none ((E[i]).1.pa.map C4)),.d (.sl none ((E[i]).1.af.map AF)),.d (mD (E[i]).2)]]),(11,[.rowD 3 1 (q.2.map AT)]),(10,[.rowD 28 1 (G.map gD)]),(40,[.multi M])]⟩) (λq=>q.1<=E.length/\q.2=jE h E (E[i]).1 q.1) (λq=>E.length-q.1) ((0,[])) (⟨ζ _,Z⟩) (AX o [21,11,10,40] Z Z ⟨Z,Z,Z,Z,Z,Z,Z,Z,Z,Z,trivial⟩) ?_))))))));rintro ⟨k,T⟩ ⟨y,j⟩;dsimp only at y j⊢;refine AC (AE (J (Az Z Z Z) (AD (AC (A6 Z (λf=>?_) (λf=>?_))))))
  .refine AW (AC (AZ (AC ?_)));have a:k<E.length:=BQ f;have A:T.length<=1000:=by have:=Wq h E (E[i]).1 k;rw[<-j] at this;omega
   have v:=ϑ a;refine AE (ek Z Z (J (BC (k) Z Z (Z) (A1 a) cl Z GV Z) (J (C7 Z Z K3 Z) (V (Bx 22 Me Z Z Z Z) (AB Z Z ?_)))));refine V (B3 Z Z Z Z Z Z Z GV) (AD (AC (AE (J (Ay Z Z K3 Z Z Z) (J (Ay Z Z K3 Z Z Z) (V (FH (k8 E[i] E[k] (x _ l) (x _ v) (w _ l)) Z [40] ⟨Z,trivial⟩ Z Z Z Z Z Z Z Z Z) (AD (A6 Z (λc=>?_) (λc=>?_)))))))))
   .refine AE (ek Z Z ?_);refine ek Z Z (V (C1 30 BR Z Z Z Z Z Z Z Z) (V (Ev (T) ([k]) Z Z Z Z Z Z Z Z BR (by simp only[υ];omega) Z Z Z Z) (AB Z Z (AD (AE (J (Aj Z Z (AN (k+1) (by omega)) Z) (ek Z Z (AD ?_))))))));exact ⟨(k+1,T++ [k]),⟨a,by show _=jE h E _ (k+1);rw[kb (by rw[S2 a];exact c),j]⟩,by show E.length-(k+1)<E.length-k;omega,AX o [21,11,10,40] Z (Z) ⟨Z,Z,Z,Z,Z,Z,Z,Z,Z,Z,trivial⟩⟩
   .refine AW (AE (J (Aj Z Z (AN (k+1) (by omega)) Z) (ek Z Z (AD ?_))));exact ⟨(k+1,T),⟨a,by show _=jE h E _ (k+1);rw[av (by rw[S2 a];exact c),j]⟩,by show E.length-(k+1)<E.length-k;omega,AX o [21,11,10,40] Z (Z) ⟨Z,Z,Z,Z,Z,Z,Z,Z,Z,Z,trivial⟩⟩
  .refine Aw ?_;have t:k=E.length:=by have:=f;omega
   rw[t] at j;refine KL (emb:=AT) 6 11 T Z Z Z Z Z Z Z ?_;rw[j];refine AE (ek Z Z ?_);refine ek Z Z (V (C1 31 XH Z Z Z Z Z Z Z Z) (V (Ev (G) ([jE h E (E[i]).1 E.length]) Z Z Z Z Z Z Z Z XH (by simp only[υ];omega) Z Z Z Z) (AB Z Z (AD (AE (J (Aj Z Z (AN (i+1) (by omega)) Z) (ek Z Z (AD ?_))))))));exact ⟨(i+1,G++ [jE h E (E[i]).1 E.length]),⟨b,by show _=(iu h E).take (i+1);rw[s,ψ (by rw[Ho];exact b)];congr 1;simp[iu]⟩,by show E.length-(i+1)<E.length-i;omega,AX o [10,40] Z (Z) ⟨Z,Z,Z,Z,Z,trivial⟩⟩
 .refine Aw (AC ?_);have u:i=E.length:=by have:=g;omega
  refine KL (emb:=gD) 3 10 G Z Z Z Z Z Z Z ?_;rw[s,u,η (by rw[Ho];exact Γ _)];refine AE (ek Z Z (AB Z Z (AD (A2 ?_))));exact ⟨_,[40],_,A0 Z,Z,Z,Z,Z⟩
def BF(E:List (AJ×Nat))(l:List Nat):List Int:=l.map λk=>(DK E k).id
theorem ta(E:List (AJ×Nat))(l:List Nat)(r:∀k∈l,k<E.length)(o:l.length<=1000000):AL prog 78 [.d (.sl none (E.map Ct)),.d (gD l)] (.sl none ((BF E l).map AF)):=by
 refine Av func78 Z Z ntmps78 Z Z Z λF j=>?_;refine AC (AE (AB Z Z (AD (AC (AE (AB Z Z (AD (AC ?_))))))));refine AC (AE (ek Z Z (J (Jd Z (χ ..) E0 Z) (ek Z Z (AD (AZ (NF 5 10 BR Z Z Z Z (BM (α:=Nat×List Int) (λq=>⟨25,[(0,.d (.sl none (E.map Ct))),(5,(.own 10 0 q.2.length)),(8,(.d (gD l))),(9,(.d (AF (l.length:Int)))),(10,(.d (AF (q.1:Int))))],[(10,[.rowD 3 1 (q.2.map AF)])]⟩) (λq=>q.1<=l.length/\q.2=BF E (l.take q.1)) (λq=>l.length-q.1) ((0,[])) (⟨ζ _,Z⟩) (AX j [10] Z Z ⟨Z,Z,Z,Z,Z,trivial⟩) ?_))))))));rintro ⟨k,T⟩ ⟨s,f⟩;dsimp only at s f⊢;refine AC (AE (J (Az Z Z Z) (AD (AC (A6 Z (λb=>?_) (λb=>?_))))))
 .refine AW (AC (AZ (AC ?_)));have a:k<l.length:=BQ b;have t:T.length<=1000000:=by rw[f];unfold BF;rw[χ,ϱ];omega
  have c:l[k]<E.length:=r _ (ϑ a);have h:(l.map AT)[k]? =some (AT l[k]):=A1 a;have i:(E.map Ct)[l[k]]? =some (Ct E[l[k]]):=A1 c;refine AE (J (BC (k) Z Z (Z) (h) E0 Z BW Z) (J (CG Z Z Am Z) (AB Z Z ?_)));refine AD (AE (ek Z Z (ek Z Z (ek Z Z (J (BC (l[k]) Z Z (Z) (i) cl Z GV Z) (J (VK Z JZ Z Z Z) (J (ND Z Nr Z Z Z) (J (CG Z Z Am Z) ?_))))))));rw[show ((E[l[k]]).1.id:Int)=(DK E l[k]).id by rw[S2 c]];refine V (C1 30 BR Z Z Z Z Z Z Z Z) (V (Ev (T) ([(DK E l[k]).id]) Z Z Z Z Z Z Z Z BR (by simp only[υ];omega) Z Z Z Z) (AB Z Z (AD (AE (J (Aj Z Z (AN (k+1) (by omega)) Z) (ek Z Z (AD ?_)))))));exact ⟨(k+1,T++ [(DK E l[k]).id]),⟨a,by show _=BF E (l.take (k+1));rw[f];unfold BF;rw[ψ a,Ω];rfl⟩,by show l.length-(k+1)<l.length-k;omega,AX j [10] Z (Z) ⟨Z,Z,Z,Z,Z,trivial⟩⟩
 .refine Aw (AC ?_);have g:k=l.length:=by have:=b;omega
  rw[g,gy] at f;refine KL (emb:=AF) 5 10 T Z Z Z Z Z Z Z ?_;rw[f];refine AE (ek Z Z (AB Z Z (AD (A2 ?_))));exact ⟨_,[],[],A0 Z,Z,Z,Z,Z⟩
end Go.Proofs.YteifpcnphnhaoaaGreat
namespace Go.Proofs.YteifpcnphnhaoaaGreat
variable{E:List (AJ×Nat)}{f:Nat->Nat}{U:List (AU×Nat)}{a:List AU}{C:Nat->Nat->Prop}{c:Nat->AU->Prop}{g:Prop}{k h j:Nat}{i:AU}{o s t:Nat}
noncomputable def dec(p:Prop):Bool:= @decide p (Classical.propDecidable p)
theorem FV:dec g=true↔g:= @decide_eq_true_iff g (Classical.propDecidable g)
theorem YF(h:g):dec g=true:=FV.2 h
theorem o0(h:¬g):dec g=false:=by grind[dec]
theorem W2{q:Prop}[Decidable g](h:g↔q):decide g=dec q:=by grind[YF,o0]
def Je(rs:List AU)(a b:AJ):Prop:=b.id∈a.af\/a.id∈b.af\/∃r,r∈(dR rs a).map Prod.fst/\r∈(dR rs b).map Prod.fst
noncomputable instance (rs:List AU) (a b:AJ):Decidable (Je rs a b):=Classical.propDecidable _
theorem Je.symm{c b:AJ}(h:Je a c b):Je a b c:=by grind[Je]
noncomputable def py(rs:List AU)(E:List (AJ×Nat))(i:Nat):List Nat:=(List.range E.length).filter λj=>decide (i<E.length/\Je rs (DK E i) (DK E j))
theorem Ec:j∈py a E t↔t<E.length/\j<E.length/\Je a (DK E t) (DK E j):=by grind[py]
def Cn(rs:List AU)(E:List (AJ×Nat)):Nat->Nat->Prop:=Rh (py rs E)
theorem Rh.sym{c:Nat->List Nat}(g:∀i j,j∈c i->i∈c j)(h:Rh c s o):Rh c o s:=by
 induction h with
 | refl=>exact .refl _
 | step _ e f=>exact (Rh.one (g _ _ e)).trans f
theorem Cn.symm(h:Cn a E t j):Cn a E j t:=
 Rh.sym (λt j h=>Ec.2 ⟨(Ec.1 h).2.1,(Ec.1 h).1,(Ec.1 h).2.2.symm⟩) h
def EH(f:Nat->Nat)(a b:Nat):Nat->Nat:=λk=>if f k=max (f a) (f b) then min (f a) (f b) else f k
theorem Hj(h:f t=f j):EH f s o t=EH f s o j:=by unfold EH;rw[h]
theorem Qh:EH f s o s=EH f s o o:=by grind[EH]
structure UF (n:Nat) (C:Nat->Nat->Prop) (f:Nat->Nat):Prop where
 le:∀k,k<n->f k<=k
 ff:∀k,k<n->f (f k)=f k
 snd:∀i j,i<n->j<n->f i=f j->C i j
theorem UF.join(c:UF h C f)(x:∀i j k,C i j->C j k->C i k)(y:∀i j,C i j->C j i)(v:s<h)(u:o<h)(r:C s o):UF h C (EH f s o):=by
 have z:min (f s) (f o)=f s\/min (f s) (f o)=f o:=by omega
 have F:max (f s) (f o)=f s\/max (f s) (f o)=f o:=by omega
 have B:f (min (f s) (f o))=min (f s) (f o):=by
  rcases z with e | e
  .rw[e];exact c.ff s v
  .rw[e];exact c.ff o u
 have E:∀i,i<h->f i=max (f s) (f o)->C i s:=λi l e=>by
  rcases F with g | g
  .exact c.snd i s l v (e.trans g)
  .exact x _ _ _ (c.snd i o l u (e.trans g)) (y _ _ r)
 have D:∀i,i<h->f i=min (f s) (f o)->C i s:=λi l e=>by
  rcases z with g | g
  .exact c.snd i s l v (e.trans g)
  .exact x _ _ _ (c.snd i o l u (e.trans g)) (y _ _ r)
 refine ⟨λk t=>?_,λk t=>?_,λi j l A e=>?_⟩
 .have:=c.le k t;unfold EH;split<;>omega
 .by_cases e:f k=max (f s) (f o)
  .grind[EH]
  .have w:EH f s o k=f k:=κ e;rw[w];unfold EH;rw[c.ff k t,κ e]
 .unfold EH at e
  by_cases w:f i=max (f s) (f o)<;>by_cases g:f j=max (f s) (f o)
  .grind
  .grind
  .grind
  .rw[κ w,κ g] at e;exact c.snd i j l A e
theorem UF.id(n:Nat)(a:∀i,C i i):UF n C (λk=>k):=⟨λ_ _=>Γ _,λ_ _=>rfl,λi j _ _ (e:i=j)=>by subst e;exact a i⟩
noncomputable def jY(n:Nat)(C:Nat->Nat->Prop):List (List Nat):=((List.range n).filter λk=>dec (∀j,j<k->¬C k j)).map λk=>(List.range n).filter λj=>dec (C k j)
def Z9(n:Nat)(f:Nat->Nat)(k:Nat):List Nat:=(List.range n).filter λj=>decide (f j=k)
def Kt(n m:Nat)(f:Nat->Nat):List (List Nat):=((List.range m).filter λk=>decide (f k=k)).map (Z9 n f)
theorem dZ{m:Nat}(a:f m=m):Kt h (m+1) f=Kt h m f++ [Z9 h f m]:=by
 unfold Kt;rw[iM,i7,Ω];simp[a]
theorem Z8{m:Nat}(a:¬f m=m):Kt h (m+1) f=Kt h m f:=by
 unfold Kt;rw[iM,i7,Ω];simp[a]
theorem dY(n m:Nat)(f:Nat->Nat):(Kt n m f).length<=m:=by grind[Kt]
theorem lu(a:UF h C f)(w:∀i j,i<h->j<h->C i j->f i=f j):Kt h h f=jY h C:=by
 have g:∀k,k<h->(f k=k↔∀j,j<k->¬C k j):=λk b=>by
  constructor
  .intro e j v t;have y:=w k j b (by omega) t;have u:=a.le j (by omega);omega
  .intro x;have y:=a.le k b;rcases Nat.lt_or_ge (f k) k with u | u
   .exact absurd (a.snd k (f k) b (by omega) (a.ff k b).symm) (x _ u)
   .omega
 unfold Kt jY;rw[show ((List.range h).filter λk=>decide (f k=k))=(List.range h).filter λk=>dec (∀j,j<k->¬C k j) from jy λk b=>W2 (g k (Ψ.1 b))];refine hQ λk b=>?_;obtain ⟨s,r⟩:=gk.1 b;have c:=Ψ.1 s;have o:f k=k:=(g k c).2 (FV.1 r);unfold Z9;refine jy λj v=>W2 ?_;have l:=Ψ.1 v;exact ⟨λe=>a.snd k j c l (by rw[o,e]),λt=>by rw[<-w k j c l t,o]⟩
structure QG (rs:List AU) (E:List (AJ×Nat)) (P:Nat->AU->Prop) (U:List (AU×Nat)) (f:Nat->Nat):Prop where
 ok:∀e∈U,e.2<E.length/\e.1∈(dR rs (DK E e.2)).map Prod.fst
 has:∀k r,P k r->r∈U.map Prod.fst/\f (Ac U r 0)=f k
theorem QG.keep{P:Nat->AU->Prop}{b:Nat->Nat}(h:QG a E P U f)(g:∀i j,f i=f j->b i=b j):QG a E P U b:=
 ⟨h.ok,λk r c=>⟨(h.has k r c).1,g _ _ (h.has k r c).2⟩⟩
theorem QG.mono{P:Nat->AU->Prop}(h:QG a E P U f)(b:∀k r,c k r->P k r):QG a E c U f:=⟨h.ok,λk r g=>h.has k r (b k r g)⟩
theorem lj(h:i∈U.map Prod.fst):(i,Ac U i 0)∈U:=Ie h
theorem QG.new{P:Nat->AU->Prop}(h:QG a E P U f)(j:i∉U.map Prod.fst)(v:k<E.length)(u:i∈(dR a (DK E k)).map Prod.fst)(l:∀b s,c b s->P b s\/(b=k/\s=i)):QG a E c (BX U i k) f:=by
 rw[EU j];refine ⟨λe g=>?_,λb s o=>?_⟩
 .rcases ϖ.1 g with g | g
  .exact h.ok e g
  grind
 .rw[<-EU j,HH];rcases l b s o with t | ⟨rfl,rfl⟩
  .obtain ⟨x,w⟩:=h.has b s t
   grind[EU]
  grind[EU]
theorem QG.join{P:Nat->AU->Prop}(h:QG a E P U f)(j:i∈U.map Prod.fst)(l:∀b s,c b s->P b s\/(b=k/\s=i)):QG a E c U (EH f (Ac U i 0) k):=
 ⟨h.ok,λb s o=>(l b s o).elim (λg=>⟨(h.has b s g).1,Hj (h.has b s g).2⟩) λ⟨u,t⟩=>by subst u t;exact ⟨j,Qh⟩⟩
theorem QG.zero(a:List AU)(E:List (AJ×Nat))(f:Nat->Nat):QG a E (λ_ _=>False) [] f:=⟨λe b=>(by cases b),λk r h=>h.elim⟩
def NZ(E:List (AJ×Nat))(k:Nat):List (Int×Nat):=(List.range k).map λj=>((DK E j).id,j)
theorem cP(E:List (AJ×Nat))(k:Nat):NZ E (k+1)=NZ E k++ [((DK E k).id,k)]:=by unfold NZ;rw[iM,Ω];rfl
theorem XM{x:Int}:x∈(NZ E k).map Prod.fst↔∃j,j<k/\(DK E j).id=x:=by grind[NZ]
def kT(E:List (AJ×Nat)):Prop:=∀i j,i<E.length->j<E.length->(DK E i).id=(DK E j).id->i=j
theorem lO(c:kT E)(b:k<E.length):BX (NZ E k) (DK E k).id k=NZ E (k+1):=by
 rw[EU λa=>by
  obtain ⟨j,f,e⟩:=XM.1 a;have:=c j k (by omega) b e
  omega,cP]
theorem XL(a:kT E){x:Int}(h:x∈(NZ E E.length).map Prod.fst):Ac (NZ E E.length) x 0<E.length/\(DK E (Ac (NZ E E.length) x 0)).id=x:=by grind[NZ,Ie]
theorem cQ(b:kT E)(a:j<E.length):(DK E j).id∈(NZ E E.length).map Prod.fst/\Ac (NZ E E.length) (DK E j).id 0=j:=by
 have c:(DK E j).id∈(NZ E E.length).map Prod.fst:=XM.2 ⟨j,a,Z⟩;obtain ⟨g,f⟩:=XL b c;exact ⟨c,b _ _ g a f⟩
end Go.Proofs.YteifpcnphnhaoaaGreat
namespace Go.Proofs.YteifpcnphnhaoaaGreat
open Go.RowKit
variable{a:Nat->List Nat}{c:List (Nat×Nat)}{f:Nat}{S:TS}{g k h:Nat}{i j:Nat->Nat}{o:Nat->Int}{s:Nat}{x:Nat×Nat}{t:Nat}
abbrev rowN(n:Nat)(f:Nat->Nat):List D:=(List.range n).map λv=>AT (f v)
abbrev IP(n:Nat)(f:Nat->Int):List D:=(List.range n).map λv=>AF (f v)
theorem Np{n i:Nat}{f:Nat->Nat}(h:i<n):(rowN n f)[i]? =some (AT (f i)):=by simp[h]
theorem bv(h:s<f):(IP f o)[s]? =some (AF (o s)):=by simp[h]
theorem NX{a h:Nat->D}(c:∀j,j<f->j≠s->a j=h j){x:D}(b:x=h s):((List.range f).map a).set s x=(List.range f).map h:=by
 refine ir (by simp) λj k g=>?_
 grind
theorem Dl{x:Nat}:(rowN f i).set s (AT x)=rowN f (BJ i s x):=by grind[NX,HX,L6]
theorem bu{x:Int}:(IP f o).set s (AF x)=IP f (BJ o s x):=by grind[NX,HX,L6]
theorem Dm(n:Nat)(f:Nat->Nat):(rowN n f).length=n:=by simp
theorem TK(n:Nat)(f:Nat->Int):(IP n f).length=n:=by simp
theorem pR(n:Nat):List.replicate n (D.raw (.int .i64 0))=rowN n (λ_=>0):=by
 refine ir (by simp) λj b a=>?_
 simp
theorem uc(n:Nat):List.replicate n (D.raw (.int .i64 0))=IP n (λ_=>0):=by
 refine ir (by simp) λj b a=>?_
 simp
abbrev Zq(f:Nat×Nat):D:= .agg [AT f.1,AT f.2]
def pend:Option Nat->List (Nat×Nat)
 | none=> []
 | some v=> [(v,0)]
theorem MN{l j:List (Nat×Nat)}(h:k=l.length):((l++ [x]++j).map Zq)[k]? =some (Zq x):=by
 subst h;simp
theorem u8{l j:List (Nat×Nat)}{y:Nat×Nat}(h:k=l.length):((l++ [x]++j).map Zq).set k (Zq y)=(l++ [y]++j).map Zq:=by
 subst h;simp
theorem sK(l j:List (Nat×Nat)){x:Nat×Nat}:((l++j).map Zq).take l.length++ [Zq x].take 1=(l++ [x]).map Zq:=by
 rw[<-List.map_take,List.take_left];simp
theorem pz(a b:Nat):(if (b:Int)<(a:Int) then (b:Int) else (a:Int))=((min a b:Nat):Int):=by
 split<;>omega
def mu(n:Nat)(suc:Nat->List Nat)(S:TS):Nat:=((List.range n).map λv=>if S.idx v=0 then (suc v).length+1 else 0).sum+(S.cs.map λf=>(suc f.1).length-f.2+1).sum
theorem dB{n:Nat}{a:Nat->List Nat}{S:TS}{v:Nat}(g:v<n)(j:S.idx v=0){l:Nat->Nat}{st:List Nat}{c:Nat}:
  mu n a ⟨BJ S.idx v (S.clk+1),l,S.of,st,S.cs++ [(v,0)],S.cnt,c⟩=mu n a S:=by
 unfold mu;dsimp only
 have:=Wy (n:=n) (i:=v) (f:=λv=>if S.idx v=0 then (a v).length+1 else 0) (h:=λu=>if BJ S.idx v (S.clk+1) u=0 then (a u).length+1 else 0) (c:=(a v).length+1) g
  (λk _ b=>by rw[HX b]) (by rw[L6,ς j,κ (by omega)];omega)
 grind
theorem WD(b:S.cs=c++ [(h,k)])(g:k<(a h).length):mu f a {S with low:=j,cs:=c++ [(h,k+1)]}<mu f a S:=by grind[mu]
theorem dC(b:S.cs=c++ [(h,k)]){o:Nat->Int}{i:List Nat}{g:Nat}:mu f a ⟨S.idx,j,o,i,c,g,S.clk⟩<mu f a S:=by grind[mu]
structure TH (n:Nat) (suc:Nat->List Nat) (r:Nat) (S:TS) (p:Option Nat):Prop where
 ti:TI n suc S p
 k1:∀f∈S.cs,1<=f.2
 old:∀v,v<r->S.idx v≠0
 rt:S.idx r≠0\/p=some r
structure TB (n:Nat) (suc:Nat->List Nat) (r:Nat) (S:TS) (cs0:List (Nat×Nat)) (v k:Nat):Prop where
 ti:TI n suc S none
 hcs:S.cs=cs0++ [(v,k)]
 k1:∀f∈cs0,1<=f.2
 old:∀v,v<r->S.idx v≠0
 rt:S.idx r≠0
theorem kh{p:Option Nat}(h:TH f a g S p)(c:S.cs++pend p≠ []):∃b v k,S.cs++pend p=b++ [(v,k)]/\v<f/\(k=0->S.cs=b/\p=some v)/\(k≠0->S.cs=b++ [(v,k)]/\p=none):=by
 cases p with
 | some v=>exact ⟨S.cs,v,0,Z,(h.ti.pnd v Z).1,λ_=>⟨Z,Z⟩,λh=>(h Z).elim⟩
 | none=>
  rw[pend,iR] at c⊢;rcases List.eq_nil_or_concat S.cs with e | ⟨l,⟨v,k⟩,e⟩
  .grind
  .rw[List.concat_eq_append] at e;have i:(v,k)∈S.cs:=by rw[e];exact jN _ (θ.2 Z)
   have:=h.k1 _ i;have j:=h.ti.lt v ((h.ti.st v).1 (h.ti.csm _ i)).1
   grind
theorem az(b:TH f a g S (some h)):
  TB f a g ⟨BJ S.idx h (S.clk+1),BJ S.low h (S.clk+1),S.of,S.st++ [h],S.cs++ [(h,0)],S.cnt,S.clk+1⟩ S.cs h 0:=by
 refine ⟨aw b.ti,Z,b.k1,λw c=>?_,?_⟩
 .show BJ S.idx h (S.clk+1) w≠0
  by_cases e:w=h
  .subst e;rw[L6];omega
  .rw[HX e];exact b.old w c
 .show BJ S.idx h (S.clk+1) g≠0
  by_cases e:g=h
  .subst e;rw[L6];omega
  .rw[HX e];exact b.rt.resolve_right λi=>e (Option.some.inj i).symm
theorem ox(b:TH f a g S none)(j:S.cs=c++ [(h,k)]):TB f a g S c h k:=
 ⟨b.ti,j,λi l=>b.k1 i (by rw[j];exact j7 _ l),b.old,b.rt.resolve_right λe=>by cases e⟩
theorem V5(b:TB f a g S c h k):h<f/\h∈S.st/\S.idx h≠0/\k<=(a h).length:=by
 have i:(h,k)∈S.cs:=by rw[b.hcs];exact jN _ (θ.2 Z)
 have l:=b.ti.csm _ i;have j:=((b.ti.st h).1 l).1;exact ⟨b.ti.lt h j,l,j,(b.ti.gry _ i).1⟩
theorem oy(b:TB f a g S c h k)(z:(a h)[k]? =some t)(o:t<f)(s:S.idx t=0):
  TH f a g {S with cs:=c++ [(h,k+1)]} (some t):=by
 refine ⟨V4 b.ti b.hcs z o (low':=S.low) (λw=>Γ _) (λw u=>(b.ti.lw w u).2) (.inr Z) (λx e=>⟨(Option.some.inj e).symm,s⟩) (λy=>absurd s ((b.ti.st t).1 y).1),λi l=>?_,b.old,.inl b.rt⟩;rcases ϖ.1 l with l | l
 .exact b.k1 i l
 grind
theorem oz(b:TB f a g S c h k)(z:(a h)[k]? =some t)(s:t<f)(A:S.idx t≠0)(B:S.of t<0):
  TH f a g {S with low:=BJ S.low h (min (S.low h) (S.idx t)),cs:=c++ [(h,k+1)]} none:=by
 have o:t∈S.st:=(b.ti.st t).2 ⟨A,B⟩;refine ⟨V4 b.ti b.hcs z s (λw=>?_) (λw u=>?_) (.inl A) (λx e=>by cases e) (λ_=>by rw[L6];omega),λi l=>?_,b.old,.inl b.rt⟩
 .grind[L6,HX]
 .by_cases e:w=h
  .subst e;rw[L6];rcases Nat.lt_or_ge (S.idx t) (S.low w) with C | C
   .exact ⟨t,o,by omega,Rh.one (ξ z)⟩
   .obtain ⟨y,D,F,E⟩:=(b.ti.lw w u).2
    grind
  .rw[HX e];exact (b.ti.lw w u).2
 .rcases ϖ.1 l with l | l
  .exact b.k1 i l
  grind
theorem km(b:TB f a g S c h k)(z:(a h)[k]? =some t)(o:t<f)(A:S.idx t≠0)(u:¬S.of t<0):
  TH f a g {S with cs:=c++ [(h,k+1)]} none:=by
 refine ⟨V4 b.ti b.hcs z o (low':=S.low) (λw=>Γ _) (λw s=>(b.ti.lw w s).2) (.inl A) (λx e=>by cases e) (λy=>absurd ((b.ti.st t).1 y).2 u),λi l=>?_,b.old,.inl b.rt⟩;rcases ϖ.1 l with l | l
 .exact b.k1 i l
 grind
theorem tL(a b:Nat):(if (b:Int)>(a:Int) then (b:Int) else (a:Int))=((max a b:Nat):Int):=by split<;>omega
def Zc(f:Nat->Nat)(a b k:Nat):Nat->Nat:=λj=>if j<k then EH f a b j else f j
theorem dc(f:Nat->Nat)(a b:Nat):Zc f a b 0=f:=by funext j;unfold Zc;rw[κ (by omega)]
theorem qO(f:Nat->Nat)(a b k:Nat):Zc f a b k k=f k:=κ (by omega)
theorem lx{a b:Nat}(h:i k=max (i a) (i b)):BJ (Zc i a b k) k (min (i a) (i b))=Zc i a b (k+1):=by grind[L6,Zc,EH,HX]
theorem df{a b:Nat}(h:¬i k=max (i a) (i b)):Zc i a b (k+1)=Zc i a b k:=by grind[Zc,EH]
theorem QT{n:Nat}{f h:Nat->Nat}(e:∀j,j<n->f j=h j):rowN n f=rowN n h:=by simp_all
abbrev HJ(n:Nat)(f:Nat->Nat):Hp:=[(930,[.blk 28 [.own 931 0 n]]),(931,[.rowD 3 1 (rowN n f)])]
set_option maxRecDepth 100000 in
theorem Xm(n:Nat)(f:Nat->Nat)(a b:Nat)(s:a<n)(o:b<n)(w:n<=100000):AP prog 67 [.d (AT a),.d (AT b),.ptr 930 0 0] (HJ n f) λr v=>r= .tup []/\v=HJ n (EH f a b):=by
 refine Av func67 Z Z ntmps67 Z Z Z λF t=>(AC (CK [[],[],[0,1],[0,1,2],[],[],[4,5],[4,5,6],rg 8,[],[],[9,10],[9,10,11],[],[],[13,14],[13,14,15],[9,10,11,12,13,14,15,16],rg 9,rg 19] mixed Z (By (Ao [2] Z Z (λ_=>Aa (AO Z Z Z BH Z)) (Ap 0 Z Z (Ao [8,9] Z Z (λ_=>Aa (DB (a) Z Z (Z) (s) Z E0 BW Z)) (Ao [10] Z Z (λ_=>Aa (EC Z Z (Np s) Z Am Z)) (Ao [2] Z Z (λ_=>Aa (AO Z Z Z BH Z)) ?_))))))));refine Ap 1 Z Z (Ao [12,13] Z Z (λ_=>Aa (DB (b) Z Z (Z) (o) Z E0 BW Z)) (Ao [14] Z Z (λ_=>Aa (EC Z Z (Np o) Z Am Z)) (AR [11,15] Z (RY Z Z (tL _ _) Z) (Ao [2] Z Z (λ_=>Aa (AO Z Z Z BH Z)) (Ap 0 Z Z (Ao [17,18] Z Z (λ_=>Aa (DB (a) Z Z (Z) (s) Z E0 BW Z)) (Ao [19] Z Z (λ_=>Aa (EC Z Z (Np s) Z Am Z)) (Ao [2] Z Z (λ_=>Aa (AO Z Z Z BH Z)) ?_))))))));refine Ap 1 Z Z (Ao [21,22] Z Z (λ_=>Aa (DB (b) Z Z (Z) (o) Z E0 BW Z)) (Ao [23] Z Z (λ_=>Aa (EC Z Z (Np o) Z Am Z)) (AR [20,24] Z (RX Z Z (pz _ _) Z) (AR [16] Z (JK Z Z) (Bu 19 Z Z Z (Ab 20 Z Z (AB Z Z (AD ⟨Z,?_⟩))))))));refine Bz (AC (AE (J (AO Z Z Z BH Z) (J (RL Z E0 Z) (ek Z Z (AD (AZ ?_)))))));have u:rowN n f=rowN n (Zc f a b 0):=(by rw[dc]);unfold HJ;rw[u];refine BM (α:=Nat) (λk=>⟨42,[(2,(.ptr 930 0 0)),(5,(.d (AT (max (f a) (f b))))),(6,(.d (AT (min (f a) (f b))))),(27,(.d (AT n))),(28,(.d (AT k)))],[(930,[.blk 28 [.own 931 0 n]]),(931,[.rowD 3 1 (rowN n (Zc f a b k))])]⟩) (λk=>k<=n) (λk=>n-k) (0) (ζ _) (AX t [930,931] Z Z ⟨Z,Z,Z,Z,Z,trivial⟩) ?_;rintro k x;refine AC (AE (J (Az Z Z Z) (AD (AC (A6 Z (λl=>?_) (λl=>?_))))))
 .refine AW (AC (AZ (AC ?_)));have c:k<n:=BQ l;refine AE ?_;refine ek Z Z (AB Z Z (AD (AC (AE (J (AO Z Z Z BH Z) (ek Z Z (J (DB (k) Z Z (Z) (c) Z E0 BW Z) (J (EC Z Z (Np c) Z Am Z) ?_))))))));rw[qO];refine ek Z Z (J (GR Z Z Z) (AD (A6 Z (λi=>?_) (λi=>?_))))
  .have g:f k=max (f a) (f b):=Int.ofNat.inj i;refine AE (J (AO Z Z Z BH Z) (ek Z Z (ek Z Z (J (DB (k) Z Z (Z) (c) Z E0 BW Z) (V (YR Z Z Z Z Z (by rw[Dm];exact c) Dl Z BW) ?_)))));rw[lx g];refine AD (AE (J (Aj Z Z (AN (k+1) (by omega)) Z) (ek Z Z (AD ?_))));exact ⟨k+1,c,by omega,AX t [930,931] Z (Z) ⟨Z,Z,Z,Z,Z,trivial⟩⟩
  .have g:¬f k=max (f a) (f b):=λe=>i (by rw[e]);refine AW (AE (J (Aj Z Z (AN (k+1) (by omega)) Z) (ek Z Z (AD ?_))));exact ⟨k+1,c,by omega,AX t [930,931] Z (by simp only[df g];rfl) ⟨Z,Z,Z,Z,Z,trivial⟩⟩
 .refine Aw ?_;exact ⟨_,[930,931],_,A0 Z,Z,Z,Z,by rw[QT (f:=EH f a b) (h:=Zc f a b k) λj y=>by unfold Zc;rw[ς (by have:=l;omega)]]⟩
end Go.Proofs.YteifpcnphnhaoaaGreat
