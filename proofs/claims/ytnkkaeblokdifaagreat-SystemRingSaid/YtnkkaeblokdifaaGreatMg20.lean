import Derived.Test.YtnkkaeblokdifaaGreatMg19
import Derived.Shelf.SlSortCmp.Whole1
open Go.Proofs.Tryz
set_option maxHeartbeats 2000000
namespace Go.Proofs.YtnkkaeblokdifaaGreat
open Go.RowKit Go.Shelf
open Go.Sort (putRow Holds PermIn SortedIn SWO mapBlock onCells putCells)
variable {P:Program}
section
variable {ρr:Ren} {τ:Type}
variable {a:Option (Nat×Bool)} {c:Array TypeId} {f:Array Edge} {g:Type} {h:g ->Value} {i:Array Obj} {j:Array g} {k:String} {o:TypeId} {w:World} {s:FuncId} {t:Nat} {u:AV} {F:Fr} {x:AS} {y:Nat}
theorem ov [Inhabited g] {c m:Nat} {a:Nat} (k:a≠y) (f:a<w.heap.size):(sortWorld h w y c m j i).heap[a]? =w.heap[a]?:=by
 unfold sortWorld;rw [Go.Sort.heap_grow_old _ _ (by rw [Go.Sort.size_putRow];exact f)];show (w.heap.modify y _)[a]? =_
 grind
theorem G0 [Inhabited g] {a m:Nat}:w.heap.size<=(sortWorld h w y a m j i).heap.size:=by simp [*,sortWorld]
theorem Yt (L:SlLaysF.n6 P ρr) {E:TypeId} {g g6:FuncId} {fn:Func} (hfn:P.funcs[g]? =some fn) (hnm:(fn.name== "runtime.NumGoroutine")=false) {c:Code} (hbody:fn.body=some c)
  {A:τ ->Nat} {px:τ ->List D} {tx:τ ->TypeId} (cf:τ ->τ ->Int) (hO:SWO (ltOf cf)) (k B:List τ) (hsz:k.length<4611686018427387904) (hc:∀x∈k,∀y∈k,AM P g [.d (.ptr (.agg (px x))),.d (.ptr (.agg (px y)))] (.raw (.int .i64 (cf x y))))
  (hu:∀ys:List τ,ys.Perm k ->ys.Pairwise (λa b=>¬cf b a<0) ->ys=B)
  {F:Fr} {s:AS} {d:Nat} {x y:Operand} {ty:TypeId} {pos:String} {aft:Array Edge} {gd:Option (Nat×Bool)} {at_:Array TypeId} {f b t n:Nat} {M:MF} {fa:AV} {row:List D} {hp':Hp}
  (hg:ρr.f 6=g6) (hM:cu s.hp f=some [.multi M]) (hpx:∀x∈k,M (A x)=some (.cells (tx x) (px x))) (h1x:∀x∈k,∀c∈px x,c.one=true) (hx:s.ev x=some (.d (.raw (sV b n t)))) (hy:s.ev y=some fa) (hfa:∀w O V v,AU w O V fa v ->v= .func (.func g) #[] #[]) (hb:M b=some (.row E 1 t row)) (N:row=k.map λx=>pD (A x) 0) (hn:n=k.length) (hxs:k≠ []) (hh:BZ s.hp f (BM M b (.row E 1 t (B.map λx=>pD (A x) 0)))=some hp') (hd:Nat.blt d s.n=true):
  AH P F ⟨some d,.call {callee:= .value (.func g6),args:= #[x,y],argTypes:=at_},ty,pos,aft,gd⟩ s ⟨s.n,(d,.d (.tup []))::s.env,hp'⟩ (λ_ _=>true):=by
 subst hg N hn;intro V U w hs
 obtain ⟨fn6,hf1,hf2,hf3⟩:∃fn,P.funcs[ρr.f 6]? =some fn/\(fn.name== "runtime.NumGoroutine")=false/\fn.body.isSome=true:=by
  obtain ⟨nm,hn,hf⟩:=L.f6;exact ⟨_,hf,hn,Z⟩
 unfold Oper.wp;rw [show (#[x,y]:Array Operand)=[x,y].toArray from rfl,DC hf1 hf2 hf3,Oper.upon_enter]
 suffices R:Calls P (ρr.f 6) ([x,y].map U.eval).toArray w λe w'=>e= .returned (.tuple #[])/\SR F ⟨s.n,s.env,hp'⟩ V U w' by
  refine R.mono λe w' ⟨G,hsr⟩=>?_;subst G;exact ⟨V,hsr.put (IW hd) (.d (.tup Z λi c v hc=>by cases hc)),λ_ _ _=>rfl⟩
 have r0:=hs.raw hx;have r1:=hfa _ _ _ _ (hs.ev hy);have h3:=hs.heap
 have hO0:Ar V s.hp b:=⟨f,b,_,by rw [Fn hM,hb];rfl,by rw [(hs.rowN hM hb).1];rfl⟩
 obtain ⟨hρ,us,q1,q2,q3⟩:=hs.rowN hM hb;show Calls P (ρr.f 6) #[U.eval x,U.eval y] w _;rw [r1,r0];have hn:0<k.length:=gO.2 hxs
 have hus:us=k.map λx=>pV (A x) 0:=by
  apply gM
  intro i;rw [ζ]
  by_cases C:i<k.length
  .rw [ω C];obtain ⟨u,h1,h2,h4⟩:=q2.2.2 i (pD (A k[i]) 0) (by rw [ζ,ω C];rfl) 0 (pD (A k[i]) 0) rfl;rw [fc,fG] at h1;rw [h1]
   cases h4 with
   | raw _=>rfl
  .have:us.length=k.length:=by have:=q2.1;rwa [ψ,fc] at this
   rw [fw (by omega),fw (by omega)];rfl
 obtain ⟨r,p1,p2,p3,p3',p4⟩:∃r,w.heap[b]? =some (.cells r E (0,0))/\r.size=t/\k.length<=t/\t<=maxLen/\r.toList.take k.length=us:=by
  rcases q1.2 with ⟨_,h⟩ | ⟨K,cap',r,G,_,T,e3,e4,e5,e6⟩
  .rw [ψ] at h;omega
  .rw [ψ] at G;injection G with G e7 e8
   injection G with G
   injection G with G
   subst G e8;rw [ψ] at e3 e6;exact ⟨r,T,by omega,e3,e4,by rwa [fc] at e6⟩
 rw [ψ] at*;have hlt:b<w.heap.size:=(fX.1 p1).1;have hOb:F.O V s.hp b:= .inr hO0;have hOl:∀K,F.O V s.hp K ->K<w.heap.size:=λK h=>h3.ltO h
 let x0:τ:=k[0]
 let ix:Nat ->Nat:=λi=>if i<k.length then i else 0
 let el:Nat ->τ:=λi=>(k[ix i]?).getD x0
 have Q:∀i,el i∈k:=λi=>by
  have hix:ix i<k.length:=by show (if _ then _ else _)<_;split<;>omega
  show (k[ix i]?).getD x0∈k;rw [ω hix];exact θ hix
 have X:∀i (C:i<k.length),el i=k[i]:=λi C=>by
  show (k[ix i]?).getD x0=_;rw [show ix i=i from ϖ C,ω C];rfl
 let o:Nat ->Value:=λi=>pV (A (el i)) 0
 let cf':Nat ->Nat ->Int:=λi j=>cf (el i) (el j)
 have hO':SWO (ltOf cf'):=⟨λx=>hO.irrefl (el x),λx y z=>hO.trans (el x) (el y) (el z),λx y z=>hO.ntrans (el x) (el y) (el z)⟩
 have henc1:OneCell o:=λ_=>rfl;have hd0:∀i,i<k.length ->(Array.range k.length)[i]! =i:=λi C=>by rw [getElem!_pos _ i (by simpa using C)];simp
 have hcu:∀i (C:i<k.length),r[i]? =some (pV (A k[i]) 0):=λi C=>by
  have:us[i]? =r.toList[i]?:=by rw [<-p4,gT C]
  rw [hus,ζ,ω C] at this;rw [<-fi];exact this.symm
 have hH:Holds o w b 0 (Array.range k.length):=by
  intro j J;simp only [gW] at J;rw [hd0 _ J];refine ⟨?_,?_⟩
  .simp only [World.cell?,p1,fN];rw [hcu j J];show _=some (pV (A (el j)) 0);rw [X j J];rfl
  .simp only [World.frozen?,p1]
   simp
 have hcmp:CmpLays1 P g #[] o cf' b 0 (Array.range k.length).size w:=by
  intro m os dk _ x y;have hWs:w.heap.size<=(sortWorld o w b 0 m dk os).heap.size:=G0
  let O':Nat ->Prop:=λK=>F.O V s.hp K/\K≠A (el x)/\K≠A (el y)
  have hne:∀i,A (el i)≠b:=λi e=>by
   have:=hpx _ (Q i);rw [e,hb] at this;cases this
  have W:∀i,i=x\/i=y ->AN (sortWorld o w b 0 m dk os) O' (.ptr (.agg (px (el i)))) (pV (A (el i)) 0):=λi C=>by
   obtain ⟨_,vs,c1,c2,c3,c4⟩:=hs.cellsN hM (hpx _ (Q i));have hl:A (el i)<w.heap.size:=(fX.1 c1).1
   have hOn:¬O' (A (el i)):=λh=>by
    rcases C with e | e
    .exact h.2.1 (by rw [e])
    .exact h.2.2 (by rw [e])
   show AN _ _ (.ptr (.agg (px (el i)))) (.pointer (some ⟨A (el i),0,none⟩));refine AN.ptr (x:= .agg (px (el i))) (λj=>vs.getD j undef) (fu hl hWs) hOn (h1x _ (Q i)) (λj c J=>?_) λj c J=>?_
   .have hj':j<vs.length:=by rw [c2];exact (χ.1 J).1
    simp only [World.cell?,ov (hne i) hl,c1,fN]
    simp [hj']
   .have hj':j<vs.length:=by rw [c2];exact (χ.1 J).1
    have I:vs[j]? =some vs[j]:=ω hj';have:vs.getD j undef=vs[j]:=by rw [Δ,I];rfl
    rw [this];exact (c3 j c _ J I).mono hWs (λK hl hno=>ov (λe=>hno (e▸hOb)) hl) (λ_ _ h=>h.1)
  refine (QA (hc (el x) (Q x) (el y) (Q y)) (w:=sortWorld o w b 0 m dk os) (O:=O') (λK h=>fu (hOl K h.1) hWs) (vs:=[pV (A (el x)) 0,pV (A (el y)) 0]) Z (λi a v S I=>?_)).mono λe w' ⟨v,G,T,e3,e4,e5⟩=>⟨?_,ND e3 e4 e5⟩
  .match i,S,I with
   | 0,S,I=>injection S with S;injection I with I;subst S I;exact .d (W x (.inl Z))
   | 1,S,I=>injection S with S;injection I with I;subst S I;exact .d (W y (.inr Z))
  .cases T with
   | raw _=>exact G
 have eg:∀args w,(callFunc g args).run P w= .ok (.enter g args) w:=enters_of hfn hnm hbody;have R:=Any.slices_SortFunc L o henc1 cf' hO' g #[] b 0 t (Array.range k.length) w eg hcmp hH hlt (by simpa using hsz);rw [gW] at R;refine R.mono λe w' ⟨G,Y,n,os,hp,hsort,hw⟩=>?_;subst G hw;obtain ⟨s1,_,s3⟩:=hp;rw [gW] at s1
 have hperm:Y.toList.Perm (List.range k.length):=by
  have G:Y.extract 0 k.length=Y:=by rw [<-s1];exact Array.extract_size
  have T:(Array.range k.length).extract 0 k.length=Array.range k.length:=by
   conv=>lhs;arg 3;rw [<-gW (n:=k.length)]
   exact Array.extract_size
  rw [G,T] at s3
  simpa using s3
 refine ⟨Z,?_⟩
 have hys:Y.toList.map el=B:=by
  apply hu
  .refine (hperm.map el).trans (List.Perm.of_eq ?_)
   apply fh (by simp)
   intro i h5 h6;simp only [eP,List.getElem_range];exact X i h6
  .rw [fR];intro i j C J hij;simp only [ψ,gN] at C J;have:=hsort i j (ϱ _) hij (by omega);rw [getElem!_pos _ j J,getElem!_pos _ i C] at this;simp only [ltOf,decide_eq_false_iff_not] at this
   simpa using this
 have hlen':B.length=k.length:=by rw [<-hys];simp [s1]
 -- the world: first what lies in the row, then the new blocks
 have hheap:(sortWorld o w b 0 n Y os).heap[b]? =some (.cells (putCells o 0 Y r) E (0,0)):=by
  unfold sortWorld;rw [Go.Sort.heap_grow_old _ _ (by rw [Go.Sort.size_putRow];exact hlt)];show (w.heap.modify b _)[b]? =_;rw [gS,ϖ Z,p1];rfl
 refine hs.writeG f b (.nr b E 1 t (k.map λx=>pD (A x) 0)) (.nr b E 1 t (B.map λx=>pD (A x) 0)) (by rw [Fn hM,hb];rfl) (λg i=>?_) Z Z Z G0 (Nat.le_add_right _ _) (λK hl hno=>ov (λe=>hno (by rw [e,hρ];rfl)) hl) (λ_ _ e=>by cases e) λhrep=>?_
 .rw [Cd hh]
  by_cases e:g=f
  .subst e;rw [ϖ Z,Fn hM]
   by_cases T:i=b
   .subst T;rw [ϖ ⟨Z,Z⟩,GM];rfl
   .rw [η (λh=>T h.2),Gz T]
  .rw [η e,η (λh=>e h.1)]
 have hcs:(putCells o 0 Y r).size=t:=by simp only [putCells,Array.size_mapIdx];omega
 have N:(putCells o 0 Y r).toList.take B.length=B.map λx=>pV (A x) 0:=by
  apply gM
  intro i
  by_cases C:i<k.length
  .rw [gT (by omega),ζ,<-hys,ζ,fi,fi,ez (by omega),ez (by omega)];simp only [putCells,Array.getElem_mapIdx,fS];rw [ϖ ⟨ϱ _,by omega⟩];simp only [Nat.sub_zero];rw [getElem!_pos _ i (by omega)]
  .rw [fw (by rw [Θ];omega),fw (by rw [ψ];omega)]
 refine ⟨hρ,B.map λx=>pV (A x) 0,⟨by simp,.inr ⟨b,t,_,by simp only [ψ],ϱ _,hheap,by rw [ψ,hlen'];exact p3,p3',by rw [hcs];omega,by rw [ψ,fc,N]⟩⟩,⟨by simp,λx l=>?_,λi x l j c H=>?_⟩,λx l c H=>?_⟩
 .obtain ⟨y,_,rfl⟩:=υ.1 l;rfl
 .rw [ζ] at l
  cases dr:B[i]? with
  | none=>rw [dr] at l;cases l
  | some q=>
   rw [dr] at l;injection l with l;subst l
   match j,H with
   | 0,H=>
    injection H with H;subst H
    exact ⟨pV (A q) 0,by rw [fc,fG,ζ,dr];rfl,Z,.raw Z⟩
 .obtain ⟨y,_,rfl⟩:=υ.1 l
  cases H with
  | head=>rfl
  | tail _ h=>cases h
theorem Wk (L:SlLaysF.n6 P ρr) {b y:Operand}
  (G:ρr.f 6=s) (D:x.ev b=some (.d (.raw (.slice none 0 0)))) (R:x.ev y=some u) (I:Nat.blt t x.n=true):
  AH P F ⟨some t,.call {callee:= .value (.func s),args:= #[b,y],argTypes:=c},o,k,f,a⟩ x ⟨x.n,(t,.d (.tup []))::x.env,x.hp⟩ (λ_ _=>true):=by
 subst G;intro B h w A
 obtain ⟨K,r,l,j⟩:∃z,P.funcs[ρr.f 6]? =some z/\(z.name== "runtime.NumGoroutine")=false/\z.body.isSome=true:=by
  obtain ⟨Q,E,H⟩:=L.f6;exact ⟨_,H,E,Z⟩
 unfold Oper.wp;rw [show (#[b,y]:Array Operand)=[b,y].toArray from rfl,DC r l j,Oper.upon_enter];have C:=A.raw D;show Calls P (ρr.f 6) #[h.eval b,h.eval y] w _;rw [C];refine (AnyF.slices_SortFunc_none {L with} none 0 _ w).mono λe O ⟨N,M⟩=>?_;subst N M;exact ⟨B,A.put (IW I) (.d (.tup Z λi g v J=>by cases J)),λ_ _ _=>rfl⟩
end
end Go.Proofs.YtnkkaeblokdifaaGreat
namespace Go.Proofs.YtnkkaeblokdifaaGreat
open Go.RowKit Go.Shelf
variable {M:MF} {f a c:Nat ->Nat} {N:dS} {g:Nat} {h:Type} {i j k o:Nat} {t:TypeId} {s:Nat} {u:A7}
set_option maxRecDepth 100000 in
theorem kN (x y:Po):AM prog 78 [.d (.ptr (.agg (iv x))),.d (.ptr (.agg (iv y)))] (AF (Ba x.r y.r)):=by
 refine Av func78 Z Z ntmps78 Z Z Z λF a=>(AC ?_);refine AE (AB Z Z (AD (AC (Dr [[],[0],[0,1],[0,1,2],[],[4],[4,5],[4,5,6],rg 8,rg 9] mixed Z (E6 (At 0 Z Z (AX [5] Z (JI Z Z) (AX [6] Z (GV Z Lp Z Z Z) ?_))))))));refine AX [7] Z (IX Z Z CL Z) (At 1 Z Z (AX [9] Z (JI Z Z) (AX [10] Z (GV Z Lp Z Z Z) (AX [11] Z (IX Z Z CL Z) (Dh 8 Z Z Z (An 9 Z Z (J (B5 (Kv x.r y.r) Z Z) (AD ⟨Z,?_⟩))))))));refine An 10 Z Z (AB Z Z (AD ⟨Z,?_⟩));refine Dg (A6 ?_);exact ⟨_,[],[],A4 Z,Z,Z,Z,Z⟩
theorem GA {m:A7} (a:M i=none) (h:M s=some m):BM M i u s=some m:=by grind [Gz]
theorem LD (f:M i=none) {h:Hd} {b:List D} (a:Ax M h t o b):Ax (BM M i u) h t o b:=by
 match h,a with
 | none,a=>exact a
 | some (g,c),a=>exact ⟨a.1,GA f a.2⟩
theorem Bp.fresh (h:Bp j k c a N M) {m:A7} (g:M i=none):Bp j k c a N (BM M i m):=
 ⟨λf x o=>GA g (h.n f x o),λb y l=>GA g (h.p b y l),⟨λr=>LD g (h.rs.1 r),h.rs.2⟩,GA g h.w,h.ni,h.pi,h.e,h.q⟩
def Lr (f:Nat ->Nat) (k b:Nat):Nat ->Nat:=λj=>if j=k then b else f j
theorem Ce {j:Nat} (h:j<o):Lr f o g j=f j:=η (by omega)
theorem Fk:Lr f o g o=g:=ϖ rfl
theorem Ot:(List.range (o+1)).map (λj=>BC (Lr f o g j))=(List.range o).map (λj=>BC (f j))++ [BC g]:=by grind [ea,Fk,eE,Ce]
abbrev XT (nh:Hd) (a:Nat) (mh:Hd) (c mv:Nat):A7:= .cells 103 [dU nh a,dU mh c,KY (.map (some mv))]
theorem Bp.keepM (h:Bp j k c a N M) (u:BV M N.mh g=none) {v:A7} {l:List D} (i:M s=some (.cells t l)):BM (BV M N.mh) g v s=some (.cells t l):=
 Go.Proofs.YtnkkaeblokdifaaGreat.fP u i λf o=>by have:=h.rs.blk (r:= .m) o;rw [i] at this;cases this
theorem Kj (l:List h) (y d:h) (j:Nat):(l++ [y]).getD j d=if j=l.length then y else l.getD j d:=by grind
theorem eS {l:List h} {d:h} (i:Nat):l.getD i d∈l\/l.getD i d=d:=by grind
theorem fk {l:List h} {y z:h} {i:Nat} (a:(l++ [y])[i]? =some z):(i<l.length/\l[i]? =some z)\/(i=l.length/\z=y):=by grind
theorem Bp.addM (h:Bp j k c a N M) {y:Po} (R:y.q=[]) (E:y.qh=none) {bn:Nat} (Y:M bn=some (T7 y)) (C:∀o,o<N.po.length ->a o≠bn) {cap:Nat} (J:BV M N.mh g=none) (U:N.po.length+1<=cap):
  Bp j k c (Lr a N.po.length bn) {N with po:=N.po++ [y],mh:=some (g,cap)} (BM (BM (BV M N.mh) g (.row VX 1 cap ((List.range N.po.length).map (λo=>BC (a o))++ [BC bn]))) j (XT N.nh N.nd.length (some (g,cap)) (N.po.length+1) k)):=by
 have I:∀i,((N.nd.getD i Bg).ef.map (bc (Lr a N.po.length bn)))=(N.nd.getD i Bg).ef.map (bc a):=λi=>eE λe u=>by
  rcases eS (l:=N.nd) (d:=Bg) i with s | s
  .show D.agg [pD (Lr a N.po.length bn e.1) 0,_]=_;rw [Ce ((h.e _ s).1 e u)]
  .rw [s] at u;cases u
 have G:∀i,((N.nd.getD i Bg).pl.map (gx (Lr a N.po.length bn)))=(N.nd.getD i Bg).pl.map (gx a):=λi=>eE λe u=>by
  rcases eS (l:=N.nd) (d:=Bg) i with s | s
  .show D.agg [pD (Lr a N.po.length bn e.1) 0,_]=_;rw [Ce ((h.e _ s).2 e u)]
  .rw [s] at u;cases u
 have X:∀r,r≠RI.m ->CB c (Lr a N.po.length bn) {N with po:=N.po++ [y],mh:=some (g,cap)} r=CB c a N r:=λr T=>by
  cases r with
  | e i=>show (⟨_,_,_,(N.nd.getD i Bg).ef.map _⟩:dY)=_;rw [I];rfl
  | p i=>show (⟨_,_,_,(N.nd.getD i Bg).pl.map _⟩:dY)=_;rw [G];rfl
  | n=>rfl
  | m=>exact absurd Z T
  | q o=>
   show (⟨((N.po++ [y]).getD o Br).qh,_,_,((N.po++ [y]).getD o Br).q.map _⟩:dY)=⟨(N.po.getD o Br).qh,_,_,(N.po.getD o Br).q.map _⟩
   rw [Kj]
   split
   .rename_i e
    rw [R,E,Δ,fw (by omega)];rfl
   .rfl
 have w:=h.rs.upd (R':=CB c (Lr a N.po.length bn) {N with po:=N.po++ [y],mh:=some (g,cap)}) .m X (b:=g) (cap:=cap) J Z (by
  show ((List.range (N.po++ [y]).length).map _).length<=cap
  simp;exact U)
 have A:(CB c (Lr a N.po.length bn) {N with po:=N.po++ [y],mh:=some (g,cap)} .m).xs=(List.range N.po.length).map (λo=>BC (a o))++ [BC bn]:=by
  show (List.range (N.po++ [y]).length).map _=_;rw [Ω,Φ,Ot]
 rw [A] at w
 have B:∀(Q:Nat) (t:TypeId) (O:List D),t≠103 ->M Q=some (.cells t O) ->BM (BM (BV M N.mh) g (.row VX 1 cap ((List.range N.po.length).map (λo=>BC (a o))++ [BC bn]))) j (XT N.nh N.nd.length (some (g,cap)) (N.po.length+1) k) Q=some (.cells t O):=λQ t O S s=>by
  rw [Gz]
  .exact h.keepM J s
  .rintro rfl;rw [h.w] at s;injection s with s;injection s with s;exact S s.symm
 refine ⟨λi x F=>B _ _ _ (by decide) (h.n i x F),λi z v=>?_,w.cells (h.keepM J h.w),?_,h.ni,λi f H B e=>?_,λx F=>?_,λz v=>?_⟩
 .rcases fk v with ⟨L,K⟩ | ⟨L,K⟩
  .rw [Ce L];exact B _ _ _ (by decide) (h.p i z K)
  .subst L K;rw [Fk];exact B _ _ _ (by decide) Y
 .rw [GM];show _=some (A7.cells _ [_,dU _ (N.po++ [y]).length,_]);rw [Ω];rfl
 .have W:i<N.po.length+1:=by simpa using H
  have V:f<N.po.length+1:=by simpa using B
  by_cases e1:i=N.po.length<;>by_cases e2:f=N.po.length
  .omega
  .subst e1;rw [Fk,Ce (by omega)] at e;exact absurd e.symm (C f (by omega))
  .subst e2;rw [Fk,Ce (by omega)] at e;exact absurd e (C i (by omega))
  .rw [Ce (by omega),Ce (by omega)] at e;exact h.pi i f (by omega) (by omega) e
 .have:=h.e x F;refine ⟨λe u=>?_,λe u=>?_⟩
  .have:=this.1 e u;simp;omega
  .have:=this.2 e u;simp;omega
 .rcases ν.1 v with v | v
  .exact h.q z v
  .rw [ξ.1 v,R];intro i H;cases H
theorem Bp.perm (h:Bp j k c a N M) (U:N.nd=[]) (hqn:∀y∈N.po,y.q=[]/\y.qh=none) {u:List Nat} (X:u.Perm (List.range N.po.length)) {v:Nat} (V:N.mh=some (g,v)):
  Bp j k c (λf=>a (u.getD f 0)) {N with po:=u.map λi=>N.po.getD i Br} (BM M g (.row VX 1 v (u.map λo=>BC (a o)))):=by
 have I:u.length=N.po.length:=by rw [X.length_eq,eT]
 have E:∀f,f<u.length ->u.getD f 0<N.po.length:=λf Q=>by
  rw [DW 0 Q];exact Γ.1 (X.mem_iff.1 (θ Q))
 have hrow:=h.rs.blk (r:= .m) V
 have J:=(h.rs.1 .m)
 rw [show (CB c a N .m).h=some (g,v) from V] at J
 have L:N.po.length<=v:=by
  have:=J.1;have e:((List.range N.po.length).map λo=>BC (a o)).length=N.po.length:=by simp
  exact e▸this
 have Q:∀(H:Nat) (t:TypeId) (cs:List D),M H=some (.cells t cs) ->BM M g (.row VX 1 v (u.map λo=>BC (a o))) H=some (.cells t cs):=λH t cs hm'=>by
  grind [Gz]
 have K:∀(l:List Po),(∀y∈l,y.q=[]/\y.qh=none) ->∀o,(l.getD o Br).q=[]/\(l.getD o Br).qh=none:=λl hl o=>by
  grind [Br]
 have z:∀y∈u.map λi=>N.po.getD i Br,y.q=[]/\y.qh=none:=λy T=>by
  grind
 refine ⟨λi x hx=>?_,λo y T=>?_,⟨λr=>?_,λr r' G s W C h2=>?_⟩,?_,h.ni,λi f B Z e=>?_,λx hx=>?_,λy T=>?_⟩
 .grind
 .have w:(u.map λi=>N.po.getD i Br)[o]? =some y:=T;rw [ζ] at w
  cases hj:u[o]? with
  | none=>rw [hj] at w;cases w
  | some i=>
   rw [hj] at w;have e:y=N.po.getD i Br:=(Option.some.inj w).symm;have hjl:=(χ.1 hj).1;have B:=E o hjl;rw [Gg hj] at B;show BM M g _ (a (u.getD o 0))=_;rw [Gg hj,e,DW Br B];exact Q _ _ _ (h.p i _ (ω B))
 .cases r with
  | e i=> 
   have:N.nd.getD i Bg=Bg:=by rw [U];rfl
   show Ax _ (N.nd.getD i Bg).eh _ _ ((N.nd.getD i Bg).ef.map _);rw [this];rfl
  | p i=> 
   have:N.nd.getD i Bg=Bg:=by rw [U];rfl
   show Ax _ (N.nd.getD i Bg).ph _ _ ((N.nd.getD i Bg).pl.map _);rw [this];rfl
  | q o=>
   show Ax _ ((u.map λi=>N.po.getD i Br).getD o Br).qh _ _ (((u.map λi=>N.po.getD i Br).getD o Br).q.map _);obtain ⟨e1,e2⟩:=K _ z o;rw [e1,e2];rfl
  | n=>
   have F:=h.rs.1 .n;show Ax _ N.nh _ _ ((List.range N.nd.length).map _)
   cases hh:N.nh with
   | none=>show _=[];rw [U];rfl
   | some p=>
    obtain ⟨H,W⟩:=p;rw [show (CB c a N .n).h=some (H,W) from hh] at F;refine ⟨by have:=F.1;exact this,?_⟩;rw [Gz]
    .exact F.2
    .rintro rfl;exact absurd (h.rs.2 .n .m H W v hh V) (by intro e;cases e)
  | m=>
   show Ax _ N.mh _ _ ((List.range (u.map λi=>N.po.getD i Br).length).map λf=>BC (a (u.getD f 0)))
   have e:((List.range (u.map λi=>N.po.getD i Br).length).map λf=>BC (a (u.getD f 0)))=u.map λo=>BC (a o):=by
    apply fh (by simp)
    intro f C h2;simp only [eP,List.getElem_range];rw [DW 0 (by simpa using h2)]
   rw [e,V];exact ⟨by rw [ψ,I];exact L,GM _ _ _⟩
 .have A:∀r G s,(CB c (λf=>a (u.getD f 0)) {N with po:=u.map λi=>N.po.getD i Br} r).h=some (G,s) ->(CB c a N r).h=some (G,s):=λr G s C=>by
   cases r with
   | e i=>exact C
   | p i=>exact C
   | n=>exact C
   | m=>exact C
   | q o=>
    have S:((u.map λi=>N.po.getD i Br).getD o Br).qh=some (G,s):=C;rw [(K _ z o).2] at S;cases S
  exact h.rs.2 r r' G s W (A _ _ _ C) (A _ _ _ h2)
 .have:=Q _ _ _ h.w;show _=some (A7.cells _ [_,dU N.mh (u.map λi=>N.po.getD i Br).length,_]);rw [ψ,I];exact this
 .have R:i<u.length:=by simpa using B
  have O:f<u.length:=by simpa using Z
  have:=h.pi _ _ (E i R) (E f O) e;rw [DW 0 R,DW 0 O] at this;have Y:u.Nodup:=X.nodup_iff.2 List.nodup_range;exact (List.getElem_inj Y).1 this
 .have:x∈N.nd:=hx;rw [U] at this;cases this
 .intro i B;rw [(z y T).1] at B;cases B
end Go.Proofs.YtnkkaeblokdifaaGreat
namespace Go.Proofs.YtnkkaeblokdifaaGreat
open Go.RowKit
variable {T:List (AO×Int)} {a c:Type} {f:List (a×c)} {g:List AO} {h:List AG} {i:List cw} {j:List (List (AO×Int))} {k:a} {o:AO×Int} {s:List a} {t:Nat ->Nat} {u:Nat} {z:Value} {w x:c} {y:a}
theorem aZ [DecidableEq a] (h:k∉f.map Prod.fst):BA f k w=f++ [(k,w)]:=by
 induction f with
 | nil=>rfl
 | cons p r g=>
  grind [BA]
theorem DO [DecidableEq a] (h:k∉f.map Prod.fst):AY f k x=x:=by
 induction f with
 | nil=>rfl
 | cons p r b=>
  grind [AY]
theorem Cm [DecidableEq a] {g:a} (h:k≠g):AY (f++ [(g,w)]) k x=AY f k x:=by
 induction f with
 | nil=>simp only [List.nil_append,AY];rw [η h]
 | cons p r i=>
  grind [AY]
theorem DN [DecidableEq a] (h:k∉f.map Prod.fst):AY (f++ [(k,w)]) k x=w:=by
 induction f with
 | nil=>simp [AY]
 | cons p r g=>
  grind [AY]
def Tn {α:Type} (d:α) (f:Nat ->Nat) (l:List α):List (α×Value):=(List.range l.length).map λi=>(l.getD i d,pV (f i) 0)
theorem MO (d:a) (f:Nat ->Nat) (l:List a):(Tn d f l).map Prod.fst=l:=by
 unfold Tn;rw [dl];refine fh (by simp) λj c b=>?_
 grind
theorem VE [DecidableEq a] {d:a} {f:Nat ->Nat} {b:Nat} (h:k∉s):BA (Tn d f s) k (pV b 0)=Tn d (Lr f s.length b) (s++ [k]):=by
 rw [aZ (by rw [MO];exact h)];unfold Tn;rw [Ω,Φ,ea,du,List.map_singleton,Fk]
 grind [eE,Ce]
theorem VF [DecidableEq a] [BEq a] [LawfulBEq a] (c:s.Nodup) {i:Nat} (b:i<s.length) (e:s[i]=k):AY (Tn y t s) k z=pV (t i) 0:=by
 refine cc (by rw [MO];exact c) ?_;exact υ.2 ⟨i,Γ.2 b,by rw [DW y b,e]⟩
theorem mW [DecidableEq a] (h:k∉s):AY (Tn y t s) k z=z:=DO (by rw [MO];exact h)
def Lw (rs:List AO) (i j:Nat):Int:=Ba (rs.getD i Er) (rs.getD j Er)
theorem Pe (a:List AO):PC (Lw a):=Ly.comap λi=>a.getD i Er
def Gv (rs:List AO):List Nat:=(List.range rs.length).mergeSort λi j=>decide (Lw rs i j<=0)
theorem cd (a:List AO):(Gv a).Perm (List.range a.length):=List.mergeSort_perm _ _
theorem Wq (E:g.Nodup) {l:List Nat} (v:l.Perm (List.range g.length)) (r:l.Pairwise λa b=>¬Lw g b a<0):l=Gv g:=by
 have k:∀f:List Nat,f.Perm (List.range g.length) ->(f.Pairwise λa b=>¬Lw g b a<0) ->f.Pairwise λa b=>Lw g a b<0:=λf u r=>by
  have s:f.Pairwise λa b=>a≠b:=u.nodup_iff.2 List.nodup_range;have F:∀x∈f,x<g.length:=λx w=>Γ.1 (u.mem_iff.1 w);refine List.Pairwise.imp_of_mem (λ{a b} H G h=>?_) (r.and s);have o:=(Pe g).anti a b
  by_cases C:Lw g a b=0
  .exfalso
   have I:=Cr.1 C
   grind [List.getElem_inj]
  omega
 refine lx (R:=λa b=>Lw g a b<0) (λx=>by rw [(Pe g).refl];omega) (λx y z=>(Pe g).trans x y z) (k l v r) (k _ (cd g) ?_) λx=>v.mem_iff.trans (cd g).mem_iff.symm;have:=List.pairwise_mergeSort (le:=λi j=>decide (Lw g i j<=0)) (λa b c o A=>?_) (λa b=>?_) (List.range g.length)
 .refine List.Pairwise.imp (λ{a b} h=>?_) this;have o:=(Pe g).anti a b
  grind
 .have B:Lw g a b<=0:=by simpa using o
  have t:Lw g b c<=0:=by simpa using A
  have:Lw g a c<=0:=by
   by_cases D:Lw g a b=0
   .rw [(Pe g).eqv a b c D];exact t
   .by_cases K:Lw g b c=0
    .have N:=(Pe g).anti b c;have J:=(Pe g).eqv c b a (by omega);have M:=(Pe g).anti a c;have L:=(Pe g).anti a b;omega
    .have:=(Pe g).trans a b c (by omega) (by omega);omega
  grind
 .have o:=(Pe g).anti a b
  grind
abbrev Cs (D:List (AO×Int)) (r:AO):Int:=AY D r 0
def dH (ds:List (List (AO×Int))) (r:AO):List Nat:=(List.range ds.length).filter λi=>decide (Cs (ds.getD i []) r<0)
def Il (x:cw):Po:=⟨x.r,x.n,0,none,[],0⟩
def XJ (ds:List (List (AO×Int))) (x:cw):Po:=⟨x.r,x.n,(ds.map λD=>Cs D x.r).sum,none,dH ds x.r,0⟩
def fp (rs:List AO) (D:List (AO×Int)):List (Nat×Int):=(D.filter λd=>decide (d.1∈rs)).map λd=>(rs.idxOf d.1,d.2)
def fJ (rs:List AO) (ds:List (List (AO×Int))) (D:List (AO×Int)):List (Nat×Nat):=(D.filter λd=>decide (d.1∈rs) && decide (d.2<0)).map λd=>(rs.idxOf d.1,(dH ds d.1).length)
def lc (rs:List AO) (ds:List (List (AO×Int))) (x:AG) (D:List (AO×Int)):Nd:=⟨x,none,fp rs D,none,fJ rs ds D,true⟩
def J1 (rs:List AO) (its:List AG) (k:Nat):List Nd:=(List.range k).map λi=>lc rs ((its.map ct).take i) (its.getD i cv) (ct (its.getD i cv))
def E3 (ro:List cw) (its:List AG) (k:Nat):dS:=⟨J1 (ro.map cw.r) its k,ro.map (XJ ((its.map ct).take k)),none,none⟩
def DV (ro:List cw) (its:List AG) (k t:Nat):dS:=⟨J1 (ro.map cw.r) its k++ [lc (ro.map cw.r) ((its.map ct).take k) (its.getD k cv) ((ct (its.getD k cv)).take t)],ro.map (XJ ((its.map ct).take k++ [(ct (its.getD k cv)).take t])),none,none⟩
theorem Ue (h:o.1∈g):fp g (T++ [o])=fp g T++ [(g.idxOf o.1,o.2)]:=by grind [fp]
theorem Q5 (h:o.1∉g):fp g (T++ [o])=fp g T:=by grind [fp]
theorem Zp (h:o.1∈g) (a:o.2<0):fJ g j (T++ [o])=fJ g j T++ [(g.idxOf o.1,(dH j o.1).length)]:=by grind [fJ]
theorem QC (h:¬(o.1∈g/\o.2<0)):fJ g j (T++ [o])=fJ g j T:=by grind [fJ]
theorem X1 (a:List (List (AO×Int))) (D:List (AO×Int)) (r:AO):dH (a++ [D]) r=dH a r++if Cs D r<0 then [a.length] else []:=by
 unfold dH;rw [Ω,Φ,ea,fy]
 grind [fZ]
theorem Ev (a:List (List (AO×Int))) (D:List (AO×Int)) (x:cw):XJ (a++ [D]) x=⟨x.r,x.n,(XJ a x).sum+Cs D x.r,none,(XJ a x).q++(if Cs D x.r<0 then [a.length] else []),0⟩:=by
 unfold XJ;rw [X1,du,gV]
 simp
theorem XX:DV i h u 0=⟨(E3 i h u).nd++ [⟨h.getD u cv,none,[],none,[],true⟩],(E3 i h u).po,none,none⟩:=by
 unfold DV E3
 congr 1
 grind [eE,Ev,XJ,AY]
theorem XZ (a:u<h.length):DV i h u (ct (h.getD u cv)).length=E3 i h (u+1):=by grind [DV,E3,J1,ea,φ]
theorem XY {t:Nat} (a:t<(ct (h.getD u cv)).length) (b:((ct (h.getD u cv))[t]).1∉i.map cw.r):DV i h u (t+1)=DV i h u t:=by grind [DV,φ,lc,Q5,QC,eE,Ev,Cm]
theorem YW (x:AG):((ct x).map Prod.fst).Nodup:=by
 unfold ct
 split
 .have:=Jy (dq x);show ((Ks (dq x)).map Prod.fst).Pairwise _;rw [ep];refine this.imp λ{a b} h e=>?_;rw [e,Ly.refl] at h;omega
 .exact List.nodup_nil
theorem X0 (E:(i.map cw.r).Nodup) {t j:Nat} (O:u<=h.length) (J:t<(ct (h.getD u cv)).length) (C:j<i.length) (A:(i.map cw.r).idxOf ((ct (h.getD u cv))[t]).1=j) (B:((ct (h.getD u cv))[t]).1∈i.map cw.r) {x:Nd} {y:Po} (N:(DV i h u t).nd[u]? =some x) (I:(DV i h u t).po[j]? =some y):
  DV i h u (t+1)=⟨(DV i h u t).nd.set u (nY x j y.q.length ((ct (h.getD u cv))[t]).2),(DV i h u t).po.set j (nX y u ((ct (h.getD u cv))[t]).2),none,none⟩:=by
 obtain ⟨d,G⟩:∃d,(ct (h.getD u cv))[t]=d:=⟨_,Z⟩
 rw [G] at A B⊢
 have v:d.1∉((ct (h.getD u cv)).take t).map Prod.fst:=λb=>by
  grind [YW,List.take_append_drop]
 have K:(J1 (i.map cw.r) h u).length=u:=by unfold J1;simp
 have s:((h.map ct).take u).length=u:=by simp;omega
 have L:x=lc (i.map cw.r) ((h.map ct).take u) (h.getD u cv) ((ct (h.getD u cv)).take t):=by
  grind [DV]
 have l:(i.map (XJ ((h.map ct).take u++ [(ct (h.getD u cv)).take t])))[j]? =some y:=I;rw [ζ,ω C] at l;have H:y=XJ ((h.map ct).take u++ [(ct (h.getD u cv)).take t]) i[j]:=(Option.some.inj l).symm
 have c:i[j].r=d.1:=by
  have g:=iA (gi B);simp only [A,eP] at g;exact g
 have w:Cs ((ct (h.getD u cv)).take t) d.1=0:=DO v
 have D:y.q.length=(dH ((h.map ct).take u) d.1).length:=by
  rw [H,Ev,c,w];show (dH _ _++_).length=_;rw [c];simp
 unfold DV;rw [φ J,G]
 congr 1
 .rw [List.set_append_right _ _ (by omega),K,Nat.sub_self,List.set_cons_zero]
  congr 2
  rw [L];unfold lc nY;rw [Ue B,A,D]
  by_cases f:d.2<0
  .rw [Zp B f,A,ϖ f]
  .rw [QC (λb=>f b.2),η f]
 .refine gM λa=>?_;rw [gr]
  by_cases e:j=a
  .subst e;rw [ϖ Z,ϖ (by simpa using C),ζ,ω C];show some _=some _
   congr 1
   rw [H];unfold nX;rw [Ev,Ev,c];have g:Cs ((ct (h.getD u cv)).take t++ [d]) d.1=d.2:=DN v;rw [g,w,s,c.symm];simp only [Int.add_zero,Po.mk.injEq,true_and,and_true]
   by_cases f:d.2<0
   .simp [f]
   .simp [f]
  .rw [η e,ζ,ζ]
   cases hi:i[a]? with
   | none=>rfl
   | some z=>
    show some _=some _
    congr 1
    have o:=(χ.1 hi)
    have F:z.r≠d.1:=λM=>e (by
     have g:(i.map cw.r)[j]'(by simpa using C)=(i.map cw.r)[a]'(by simpa using o.1):=by
      rw [eP,eP,o.2,c,M]
     exact (List.getElem_inj E).1 g)
    rw [Ev,Ev];have:Cs ((ct (h.getD u cv)).take t++ [d]) z.r=Cs ((ct (h.getD u cv)).take t) z.r:=Cm F;rw [this]
end Go.Proofs.YtnkkaeblokdifaaGreat
namespace Go.Proofs.YtnkkaeblokdifaaGreat
open Go.RowKit Go.Shelf
variable {a:Nat ->Prop} {w:World} {c:Value} {x:D}
def gq:D ->D
 | .sl (some true) []=> .raw (.slice none 0 0)
 | x=>x
def sX:D ->D
 | .agg cs=> .agg (cs.map gq)
 | x=>gq x
theorem aK (x:D):(gq x).one=x.one:=by
 unfold gq
 split<;>rfl
theorem AN.nrm1 (h:AN w a x c):AN w a (gq x) c:=by
 unfold Go.Proofs.YtnkkaeblokdifaaGreat.gq
 split
 .cases h with
  | sl k i g f z u y A t=>
   rename_i b n s
   have r:=i true rfl
   have o:b=none:=by cases b with
    | none=>rfl
    | some _=>cases r
   subst o;have l:=g rfl;have j:n=0:=f.symm;subst l j;exact .raw rfl
 .exact h
theorem AN.nrm (h:AN w a x c):AN w a (sX x) c:=by
 unfold Go.Proofs.YtnkkaeblokdifaaGreat.sX
 split
 .rename_i l
  cases h with
  | agg k o j=>
   refine .agg (by rw [k,ψ]) (λb f=>?_) λi b c f g=>?_
   .grind [aK]
   .rw [ζ] at f
    cases hd:l[i]? with
    | none=>rw [hd] at f;cases f
    | some d=>
     rw [hd] at f;injection f with f;subst f
     exact (j i d c hd g).nrm1
 .exact h.nrm1
section
variable {P:Program} {F:Fr} {Q:Exit ->AS ->Prop} {ops:Array Oper} {l:List Oper} {n:Nat} {env:List (Nat×AV)} {hp:Hp}
theorem aF (t:Nat) {x:D} (k:get env t=some (.d x)) (h:A3 P F ops l Q ⟨n,(t,.d (sX x))::env,hp⟩):A3 P F ops l Q ⟨n,env,hp⟩:=λi c w b=>h i c w ⟨b.size,b.defs,λj a f=>by
 rcases Ky f with ⟨rfl,rfl⟩ | ⟨_,f⟩
 .have g:=b.env t _ k
  generalize c.tmps.getD t undef=v at g⊢
  cases g with
  | d h=>exact .d h.nrm
 .exact b.env j a f,b.heap⟩
end
variable {N:dS} {M:MF} {a:List AG} {c:List cw} {y:Po} {x:Nd} {i f:Nat}
def ZG (M:MF) (h:Hd) (E:TypeId) (ys:List D):MF:=match h with
 | none=>M
 | some (b,c)=>BM M b (.row E 1 c ys)
theorem Xl {f:Nat}:∀(H a:Hp),cu H f=some [.multi M] ->BZ H f M=some a ->a=H:=by
 intro H
 induction H with
 | nil=>intro a h;cases h
 | cons p r b=>
  grind [cu,BZ]
theorem Yu {P:Program} {r:Ren} {j:Type} (L:SlLaysF.n6 P r) {E:TypeId} {g g6:FuncId} {T:Func} (Q:P.funcs[g]? =some T) (N:(T.name== "runtime.NumGoroutine")=false) {c:Code} (o:T.body=some c)
  {bl:j ->Nat} {px:j ->List D} {tx:j ->TypeId} (G:j ->j ->Int) (hO:Go.Sort.SWO (ltOf G)) (i k:List j) (J:i.length<4611686018427387904) (hc:∀x∈i,∀y∈i,AM P g [.d (.ptr (.agg (px x))),.d (.ptr (.agg (px y)))] (.raw (.int .i64 (G x y))))
  (hu:∀H:List j,H.Perm i ->H.Pairwise (λa b=>¬G b a<0) ->H=k)
  {F:Fr} {s:AS} {d:Nat} {x y:Operand} {ty:TypeId} {I:String} {V:Array Edge} {gd:Option (Nat×Bool)} {U:Array TypeId} {f n:Nat} {h:Hd} {fa:AV} {t:List D} {A:Hp}
  (X:r.f 6=g6) (Z:cu s.hp f=some [.multi M]) (K:∀x∈i,M (bl x)=some (.cells (tx x) (px x))) (S:∀x∈i,∀c∈px x,c.one=true) (u:s.ev x=some (.d (dU h n))) (W:s.ev y=some fa) (R:∀w O ρ v,AU w O ρ fa v ->v= .func (.func g) #[] #[]) (C:Ax M h E 1 t) (z:t=i.map λx=>pD (bl x) 0) (hn:n=i.length) (l:h≠none ->i≠ []) (B:BZ s.hp f (ZG M h E (k.map λx=>pD (bl x) 0))=some A) (Y:Nat.blt d s.n=true):
  AH P F ⟨some d,.call {callee:= .value (.func g6),args:= #[x,y],argTypes:=U},ty,I,V,gd⟩ s ⟨s.n,(d,.d (.tup []))::s.env,A⟩ (λ_ _=>true):=by
 match h,u,C,B,l with
 | none,u,C,B,_=>
  rw [Xl _ _ Z B];exact Wk L X u W Y
 | some (b,cap),u,C,B,l=>exact Yt L Q N o G hO i k J hc hu X Z K S u W R C.2 z hn (l (by simp)) B Y
theorem rn (h k:Nat) (o l:Nat ->Nat) (s:M h=some (XT none 0 none 0 k)):Bp h k o l ⟨[],[],none,none⟩ M:=by
 refine ⟨λi x f=>by simp at f,λj y a=>by simp at a,⟨λr=>?_,λr u b c w t v=>?_⟩,s,λi j g _=>by simp at g,λi j g _=>by simp at g,λx f=>(by cases f),λy a=>(by cases a)⟩
 .cases r<;>rfl
 .cases r<;>cases t
structure E9 (p:dG):Prop where
 i:p.it.length<=30
 r:p.ro.length<=100
 x:∀x∈p.it,x.po.length<=12/\x.pa.length<=12/\x.af.length<=12
def cq (x:AG):Prop:=x.po.length<=12/\x.pa.length<=12/\x.af.length<=12
theorem E9.b {p:dG} (h:E9 p):EP p:=⟨by have:=h.r;omega,by have:=h.i;omega,λi a=>by have:=h.x i a;omega⟩
theorem QH {g f:Type} {l:List (g×f)} (h:(l.map Prod.fst).Nodup):l.Nodup:=by
 have c:(l.map Prod.fst).Pairwise (λa b=>a≠b):=h;rw [ep] at c;exact c.imp λ{a b} h e=>h (by rw [e])
theorem Lt {x:AG} (h:cq x):(ct x).length<=60:=by
 unfold ct
 split
 .have g:(bp x).length<=(dq x).length:=by
   have f:(Ks (dq x)).length<=(dN (dq x)).length:=by
    have c:(Ks (dq x)).Perm ((dN (dq x)).filter λd=>decide (d.2≠0)):=by
     refine (List.perm_ext_iff_of_nodup ?_ ?_).2 λd=>?_
     .have:=Jy (dq x);refine this.imp λ{a b} h e=>?_;rw [e,Ly.refl] at h;omega
     all_goals (grind [QH,En,GJ])
    rw [c.length_eq]
    grind
   exact dh f (HS _)
  have:=Ix x;have:=h.1;have:=h.2.1;omega
 simp
theorem Jx (x:AG):Nz (ct x):=by
 unfold ct
 split
 .rename_i b
  intro d a;exact lu b d ((GJ _ _).1 a).1
 .intro d a;cases a
theorem WS {D:List (AO×Int)} (h:Nz D) (r:AO): -1000000000000000<=Cs D r/\Cs D r<=1000000000000000:=by
 unfold Cs
 induction D with
 | nil=>simp [AY]
 | cons d D a=>
  grind [AY,Nz]
theorem VL:∀{ds:List (List (AO×Int))} (_:∀D∈ds,Nz D) (r:AO),-(ds.length*1000000000000000)<=(ds.map λD=>Cs D r).sum/\(ds.map λD=>Cs D r).sum<=ds.length*1000000000000000
 | [],_,r=>by simp
 | D::ds,h,r=>by
  have c:=WS (h D (eI ..)) r;have b:=VL (ds:=ds) (λD a=>h D (er _ a)) r;simp only [dz,eW,gm];omega
theorem JZ (a:List (List (AO×Int))) (r:AO):(dH a r).length<=a.length:=by
 unfold dH
 grind
theorem WE (a:List AO) (D:List (AO×Int)):(fp a D).length<=D.length:=by
 unfold fp;rw [ψ];exact fx _ _
theorem V1 (a:List AO) (b:List (List (AO×Int))) (D:List (AO×Int)):(fJ a b D).length<=D.length:=by
 unfold fJ;rw [ψ];exact fx _ _
theorem b6 (h:N.nd[i]? =some x):(Am N).nd[i]? =some (EN x):=by
 show (N.nd.map EN)[i]? =_
 grind
theorem bZ (h:N.po[i]? =some y):(Am N).po[i]? =some (CD y):=by
 show (N.po.map CD)[i]? =_
 grind
theorem ce (M:a.length<=30) (r:∀x∈a,cq x) {k t j:Nat} (i:k<a.length) (h:Am N=DV c a k t) (E:N.nd[k]? =some x) (C:N.po[j]? =some y):
  (-1000000000000000000<=y.sum/\y.sum<=1000000000000000000)/\x.ef.length<=100000/\x.pl.length<=100000/\y.q.length<=100000:=by
 have o:=b6 E;have l:=bZ C;rw [h] at o l;have u:(J1 (c.map cw.r) a k).length=k:=by unfold J1;simp
 have A:(ct (a.getD k cv)).length<=60:=Lt (r _ (by rw [DW cv i];exact θ i));have g:(J1 (c.map cw.r) a k++ [lc (c.map cw.r) ((a.map ct).take k) (a.getD k cv) ((ct (a.getD k cv)).take t)])[k]? =some (EN x):=o;rw [mH (by omega),u,Nat.sub_self] at g;have G:EN x=_:=(Option.some.inj g).symm;have K:x.ef=(EN x).ef:=rfl;have J:x.pl=(EN x).pl:=rfl;have b:(c.map (XJ ((a.map ct).take k++ [(ct (a.getD k cv)).take t])))[j]? =some (CD y):=l;rw [ζ] at b
 cases hj:c[j]? with
 | none=>rw [hj] at b;cases b
 | some z=>
  rw [hj] at b;have F:CD y=XJ ((a.map ct).take k++ [(ct (a.getD k cv)).take t]) z:=(Option.some.inj b).symm;have I:y.sum=(CD y).sum:=rfl;have H:y.q=(CD y).q:=rfl;have w:((a.map ct).take k++ [(ct (a.getD k cv)).take t]).length<=31:=by simp;omega
  have B:=VL (ds:=(a.map ct).take k++ [(ct (a.getD k cv)).take t]) (λD f=>by
   rcases ν.1 f with f | f
   .obtain ⟨x,_,rfl⟩:=υ.1 (fM f);exact Jx x
   .rw [ξ.1 f];exact (Jx _).take t) z.r
  have L:=JZ ((a.map ct).take k++ [(ct (a.getD k cv)).take t]) z.r;have v:=WE (c.map cw.r) ((ct (a.getD k cv)).take t);have s:=V1 (c.map cw.r) ((a.map ct).take k) ((ct (a.getD k cv)).take t);rw [Θ] at v s;rw [K,J,I,H,G,F];unfold XJ lc;dsimp only
  generalize (List.map (λD=>Cs D z.r) (List.take k (List.map ct a)++ [List.take t (ct (a.getD k cv))])).sum=S at B⊢
  generalize (List.take k (List.map ct a)++ [List.take t (ct (a.getD k cv))]).length=m at*
  omega
theorem o6 (b:(c.map cw.r).Nodup) {k t j:Nat} (v:k<a.length) (s:t<(ct (a.getD k cv)).length) {f:dS} (h:Am N=DV c a k t) (u:(c.map cw.r).idxOf ((ct (a.getD k cv))[t]).1=j) (l:((ct (a.getD k cv))[t]).1∈c.map cw.r) {i:Nd} {g:Po} (A:N.nd[k]? =some x) (z:N.po[j]? =some y)
  (E:f.nd=N.nd.set k i) (C:EN i=EN (nY x j y.q.length ((ct (a.getD k cv))[t]).2)) (D:f.po=N.po.set j g) (B:CD g=CD (nX y k ((ct (a.getD k cv))[t]).2)):Am f=DV c a k (t+1):=by
 have r:=b6 A;have o:=bZ z
 have w:j<c.length:=by
  have:=gi l
  grind
 rw [h] at r o;rw [X0 b (Nat.le_of_lt v) s w u l r o,<-h];unfold Am;dsimp only;rw [E,D,List.map_set,List.map_set,C,B]
 rfl
theorem EW.del {R:RI ->dY} (h:EW M R) {t:TypeId} {g:List D} (i:M f=some (.cells t g)):EW (EU M f) R:=by
 refine ⟨λr=>?_,h.2⟩;have a:=h.1 r
 cases hh:(R r).h with
 | none=>rw [hh] at a;exact a
 | some p=>
  obtain ⟨j,c⟩:=p;rw [hh] at a;refine ⟨a.1,?_⟩;rw [G8]
  .exact a.2
  .rintro rfl;have:=a.2
   grind
theorem Bp.addN2 {v I:Nat} {a w:Nat ->Nat} (h:Bp v I a w N M) {x:Nd} (C:x.ef=[]) (Q:x.eh=none) (B:x.pl=[]) (O:x.ph=none) {bn:Nat} (hM:M bn=some (T9 x)) (H:∀j,j<N.nd.length ->a j≠bn) {cap:Nat} (U:BV (EU M v) N.nh f=none) (Y:N.nd.length+1<=cap) {wb':Nat} (E:BM (BV (EU M v) N.nh) f (.row Zm 1 cap ((List.range N.nd.length).map (λj=>BC (a j))++ [BC bn])) wb'=none):
  Bp wb' I (Lr a N.nd.length bn) w {N with nd:=N.nd++ [x],nh:=some (f,cap)} (BM (BM (BV (EU M v) N.nh) f (.row Zm 1 cap ((List.range N.nd.length).map (λj=>BC (a j))++ [BC bn]))) wb' (XT (some (f,cap)) (N.nd.length+1) N.mh N.po.length I)):=by
 have X:∀j,((N.po.getD j Br).q.map λi=>BC (Lr a N.nd.length bn i))=(N.po.getD j Br).q.map λi=>BC (a i):=λj=>eE λe o=>by
  rcases eS (l:=N.po) (d:=Br) j with g | g
  .rw [Ce (h.q _ g e o)]
  .rw [g] at o;cases o
 have hR:∀r,r≠RI.n ->CB (Lr a N.nd.length bn) w {N with nd:=N.nd++ [x],nh:=some (f,cap)} r=CB a w N r:=λr W=>by
  cases r with
  | q j=>show (⟨_,_,_,(N.po.getD j Br).q.map _⟩:dY)=_;rw [X];rfl
  | m=>rfl
  | n=>exact absurd Z W
  | e i=>
   show (⟨((N.nd++ [x]).getD i Bg).eh,_,_,((N.nd++ [x]).getD i Bg).ef.map _⟩:dY)=⟨(N.nd.getD i Bg).eh,_,_,(N.nd.getD i Bg).ef.map _⟩
   rw [Kj]
   split
   .rename_i e
    rw [C,Q,Δ,fw (by omega)];rfl
   .rfl
  | p i=>
   show (⟨((N.nd++ [x]).getD i Bg).ph,_,_,((N.nd++ [x]).getD i Bg).pl.map _⟩:dY)=⟨(N.nd.getD i Bg).ph,_,_,(N.nd.getD i Bg).pl.map _⟩
   rw [Kj]
   split
   .rename_i e
    rw [B,O,Δ,fw (by omega)];rfl
   .rfl
 have T:=h.rs.del h.w
 have u:=T.upd (R':=CB (Lr a N.nd.length bn) w {N with nd:=N.nd++ [x],nh:=some (f,cap)}) .n hR (b:=f) (cap:=cap) U Z (by
  show ((List.range (N.nd++ [x]).length).map _).length<=cap
  simp;exact Y)
 have F:(CB (Lr a N.nd.length bn) w {N with nd:=N.nd++ [x],nh:=some (f,cap)} .n).xs=(List.range N.nd.length).map (λj=>BC (a j))++ [BC bn]:=by
  show (List.range (N.nd++ [x]).length).map _=_;rw [Ω,Φ,Ot]
 rw [F] at u
 have G:∀(K:Nat) (t:TypeId) (J:List D),t≠103 ->M K=some (.cells t J) ->BM (BM (BV (EU M v) N.nh) f (.row Zm 1 cap ((List.range N.nd.length).map (λj=>BC (a j))++ [BC bn]))) wb' (XT (some (f,cap)) (N.nd.length+1) N.mh N.po.length I) K=some (.cells t J):=λK t J V g=>by
  refine GA E ?_
  have A:EU M v K=some (.cells t J):=by
   rw [G8]
   .exact g
   .rintro rfl;rw [h.w] at g;injection g with g;injection g with g;exact V g.symm
  exact Go.Proofs.YtnkkaeblokdifaaGreat.fP U A λc hc=>by have:=T.blk (r:= .n) hc;rw [A] at this;cases this
 refine ⟨λi z s=>?_,λj y L=>G _ _ _ (by decide) (h.p j y L),⟨λr=>LD E (u.1 r),u.2⟩,?_,λi k R G e=>?_,h.pi,λz s=>?_,λy L=>?_⟩
 .rcases fk s with ⟨A,S⟩ | ⟨A,S⟩
  .rw [Ce A];exact G _ _ _ (by decide) (h.n i z S)
  .subst A S;rw [Fk];exact G _ _ _ (by decide) hM
 .rw [GM];show _=some (A7.cells _ [dU _ (N.nd++ [x]).length,_,_]);rw [Ω];rfl
 .have hi':i<N.nd.length+1:=by simpa using R
  have hk':k<N.nd.length+1:=by simpa using G
  by_cases e1:i=N.nd.length<;>by_cases e2:k=N.nd.length
  .omega
  .subst e1;rw [Fk,Ce (by omega)] at e;exact absurd e.symm (H k (by omega))
  .subst e2;rw [Fk,Ce (by omega)] at e;exact absurd e (H i (by omega))
  .rw [Ce (by omega),Ce (by omega)] at e;exact h.ni i k (by omega) (by omega) e
 .rcases ν.1 s with s | s
  .exact h.e z s
  .have e:=ξ.1 s;subst e;refine ⟨λe o=>?_,λe o=>?_⟩
   .rw [C] at o;cases o
   .rw [B] at o;cases o
 .intro i R;have:=h.q y L i R
  simp;omega
section
variable {P:Program} {F:Fr} {s:AS} {d:Nat} {ty T T' E:TypeId} {pos:String} {aft:Array Edge} {g:Option (Nat×Bool)} {x:Operand}
theorem RT {p:Option Addr} (b:P.underlying T=some (.pointer E)) (c:s.ev x=some (.d (.raw (.pointer p)))) (j:Nat.blt d s.n=true):AA P F ⟨some d,.binOp .neq T x (.const (.pointer none)) T',ty,pos,aft,g⟩ s d (.d (.raw (.bool (!p.isNone)))):=
 CR _ j λl a w h=>by
  have f:=h.raw c;have i:P.pointee T=E:=by unfold Program.pointee;rw [b]
  have k:a.eval (.const (.pointer none))= .pointer none:=rfl;exact ⟨.bool (!p.isNone),by simp [execOp,f,k,Sd,binOp,run_equal_pointer_nil w T p (by rw [i];exact b)],.d (.raw Z)⟩
end
section
variable {P:Program} {F:Fr} {s:AS} {d:Nat} {ty T:TypeId} {pos:String} {aft:Array Edge} {g:Option (Nat×Bool)} {x:Operand}
theorem Wl (r k:Nat) {f j b f2 l m:Nat} {t:TypeId} {u:List AV} (z:s.ev x=some (.ptr f j b)) (B:cr s.hp f j=some (.blk t u)) (E:u[b]? =some (.d (.raw (.map (some m))))) (C:cr s.hp r k=some (.addr f2 l (.map (some m)))) (G:BF P T=true) (D:Nat.blt d s.n=true):
  AA P F ⟨some d,.load T x,ty,pos,aft,g⟩ s d (.map f2 l):=by
 have h:=A5 (F:=F) (ty:=ty) (pos:=pos) (aft:=aft) (g:=g) z B E G D;refine ⟨h.1,h.2.1,λy i w o=>?_⟩;refine hQ (λa J ⟨v,I,c,H⟩=>⟨v,I,?_,H⟩) (h.2.2 y i w o)
 cases c with
 | d c=>cases c with
  | raw _=>
   obtain ⟨_,A⟩:=o.heap.sim r k _ C;exact .map A
end
variable {a:List AG} {c:List cw} {k:Nat} {N:dS} {f:dG} {g:Nat ->Nat} {h:List Nat} {i:List AO} {j:List cw} {o:Hd} {X:AG} {t:Nat} {M:MF} {s:Nat} {y:Po} {u w:Nat}
def Bu (p:dG):List cw:=(Gv (p.ro.map cw.r)).map λi=>p.ro.getD i HD
def NG (y:Po):Po:={y with mi:=y.q.length}
def aT (p:dG):dS:=⟨(E3 (Bu p) (dC p) (dC p).length).nd,(E3 (Bu p) (dC p) (dC p).length).po.map NG,none,none⟩
theorem aN {a:Type} {f:cw ->a} (h:(j.map f).Nodup) (k:Nat):((j.take k).map f).Nodup:=by grind
theorem aO {f:cw ->AO} (h:(j.map f).Nodup) (c:k<j.length):f j[k]∉(j.take k).map f:=λb=>by
 have a:=aN h (k+1);rw [D0 c,gY] at a;exact a.2.2 _ b _ (List.mem_singleton_self _) rfl
theorem G3 (c:Ai f=0):(f.ro.map cw.r).Nodup:=by
 have g:=Pc.1 (JA c).1;rw [List.Nodup,ep,fR];intro i j h a b e;have:=g j (Γ.2 a)
 grind [L1,Mm]
theorem qA (l:i.Nodup) (k:h.Perm (List.range i.length)) {f:Nat ->Nat} {r:AO} {z:Value} (o:r∈h.map λa=>i.getD a Er):AY (Tn Er f i) r z=pV (f (h.getD ((h.map λa=>i.getD a Er).idxOf r) 0)) 0:=by
 have b:=gi o;have c:=iA b
 generalize (h.map λa=>i.getD a Er).idxOf r=j at b c⊢
 rw [ψ] at b;rw [eP] at c;have g:h[j]<i.length:=Γ.1 (k.mem_iff.1 (θ b));rw [DW Er g] at c;rw [DW 0 b];exact VF l g c
theorem mm (g:h.Perm (List.range i.length)) {f:Nat ->Nat} {r:AO} {z:Value} (j:r∉h.map λa=>i.getD a Er):AY (Tn Er f i) r z=z:=by
 refine mW λb=>j ?_;obtain ⟨a,c,e⟩:=eQ b;exact υ.2 ⟨a,g.mem_iff.2 (Γ.2 c),by rw [DW Er c,e]⟩
theorem UC (p:dG):(Bu p).map cw.r=(Gv (p.ro.map cw.r)).map λi=>(p.ro.map cw.r).getD i Er:=by grind [Bu,eE,HD,Er]
theorem iu (y:Po):∀c∈iv y,c.one=true:=by
 intro c a;simp only [di,List.not_mem_nil,or_false] at a;rcases a with rfl | rfl | rfl | rfl | rfl | rfl | rfl | rfl | rfl | rfl<;>rfl
theorem ZF (p:dG):∀i∈List.range p.ro.length,∀j∈List.range p.ro.length,AM prog 78 [.d (.ptr (.agg (iv (Il (p.ro.getD i HD))))),.d (.ptr (.agg (iv (Il (p.ro.getD j HD)))))] (.raw (.int .i64 (Lw (p.ro.map cw.r) i j))):=by grind [kN,Il,Lw]
theorem i5 (c:Bp u w (λ_=>0) g ⟨[],f.ro.map Il,none,o⟩ M):∀i∈List.range f.ro.length,M (g i)=some (.cells 113 (iv (Il (f.ro.getD i HD)))):=λi b=>by
 have a:=Γ.1 b;refine c.p i (Il (f.ro.getD i HD)) ?_;show (f.ro.map Il)[i]? =_;rw [ζ,ω a,DW HD a];rfl
theorem ZE (a:Bp u w (λ_=>0) g ⟨[],f.ro.map Il,none,o⟩ M):
  Bp u w (λ_=>0) (λk=>g ((Gv (f.ro.map cw.r)).getD k 0)) ⟨[],(Bu f).map Il,none,o⟩ (ZG M o VX ((Gv (f.ro.map cw.r)).map λx=>pD (g x) 0)):=by
 have v:(Gv (f.ro.map cw.r)).Perm (List.range (f.ro.map Il).length):=by
  grind [cd]
 have s:(Gv (f.ro.map cw.r)).map (λi=>(f.ro.map Il).getD i Br)=(Bu f).map Il:=by
  grind [Bu,eE]
 cases hmh:o with
 | some q=>
  obtain ⟨b,c⟩:=q;subst hmh;have h:=a.perm Z (λy l=>by obtain ⟨x,_,rfl⟩:=υ.1 l;exact ⟨Z,Z⟩) v rfl;dsimp only at h;rw [s] at h;exact h
 | none=>
  subst hmh;have C:Ax M none VX 1 ((List.range (f.ro.map Il).length).map λj=>BC (g j)):=a.rs.1 .m;have t:=TZ C rfl;rw [eT,ψ] at t;have B:f.ro=[]:=gU t
  have A:(Bu f).map Il=f.ro.map Il:=by
   simp_all
  rw [A];rw [B] at a⊢;exact ⟨a.n,λj y l=>by simp at l,⟨λr=>by cases r<;>rfl,λr E b c G D F=>by cases r<;>cases D⟩,a.w,a.ni,λi j z _ _=>by simp at z,a.e,a.q⟩
theorem XW (a:List cw) (b:List AG):Am ⟨[],a.map Il,none,o⟩=E3 a b 0:=by
 unfold Am E3 J1;dsimp only;rw [dl]
 rfl
theorem FZ (a:Ai f=0):((dC f).map AG.id).Nodup:=by
 have b:dC f=dA f.it:=ϖ a;rw [b];exact ((KD f.it).map AG.id).nodup_iff.2 (WY (JA a).2.1)
theorem MY (a:Ai f=0):((Bu f).map cw.r).Nodup:=by grind [Bu,cd,ψ,fh,DW,G3]
theorem PD {l:List AG} (h:(l.map AG.id).Nodup) (c:k<l.length):l[k].id∉(l.take k).map AG.id:=λb=>by
 have a:((l.take (k+1)).map AG.id).Nodup:=h.sublist ((List.take_sublist (k+1) l).map AG.id);rw [D0 c,gY] at a;exact a.2.2 _ b _ (List.mem_singleton_self _) rfl
theorem nF (h:Am N=E3 c a k):N.nd.length=k:=by grind [J1,ψ,Am,E3]
theorem ml (h:Am N=E3 c a k):N.po.length=c.length:=by grind [ψ,Am,E3]
theorem kq {x:AG} {nh:Hd} (b:a.getD k cv=x) (h:Am N=E3 c a k):Am {N with nd:=N.nd++ [⟨x,none,[],none,[],true⟩],nh:=nh}=DV c a k 0:=by
 subst b;rw [XX,<-h];unfold Am;dsimp only;rw [du];rfl
theorem kt (g:a.getD k cv=X) (b:t<(ct X).length) (f:((ct X)[t]).1∉c.map cw.r):DV c a k (t+1)=DV c a k t:=by
 subst g;exact XY b f
theorem kr {b:List cw} (v:a.getD k cv=X) (i:(b.map cw.r).Nodup) (u:k<a.length) (l:t<(ct X).length) {c:dS} (h:Am N=DV b a k t) (o:(b.map cw.r).idxOf ((ct X)[t]).1=s) (r:((ct X)[t]).1∈b.map cw.r) {x g:Nd} {f:Po} (z:N.nd[k]? =some x) (w:N.po[s]? =some y)
  (D:c.nd=N.nd.set k g) (B:EN g=EN (nY x s y.q.length ((ct X)[t]).2)) (C:c.po=N.po.set s f) (A:CD f=CD (nX y k ((ct X)[t]).2)):Am c=DV b a k (t+1):=by grind [o6]
theorem sR (h:Am N=DV c a k t):N.nd.length=k+1:=by grind [J1,Ω,Am,DV]
theorem sQ (h:Am N=DV c a k t):N.po.length=c.length:=by
 have b:=dc (λN=>N.po.length) h;have f:(N.po.map CD).length=(c.map _).length:=b
 grind
theorem kw (f:a.getD k cv=X) (b:k<a.length):DV c a k (ct X).length=E3 c a (k+1):=by
 subst f;exact XZ b
theorem nf (h:Am N=E3 c a a.length):BJ N=a.map AG.id:=by
 have j:N.nd.map EN=J1 (c.map cw.r) a a.length:=dc (λN=>N.nd) h;have g:BJ N=(N.nd.map EN).map λx=>x.it.id:=by unfold BJ;rw [dl];rfl
 rw [g,j];unfold J1;rw [dl]
 apply fh (by simp)
 intro i f b;simp only [eP,List.getElem_range,Function.comp];show (a.getD i cv).id=_
 grind
theorem bS {b a:List Po} (f:s<b.length) (h:a=(b.take s).map NG++b.drop s) (c:a[s]? =some y):a.set s (NG y)=(b.take (s+1)).map NG++b.drop (s+1):=by grind [ψ,lC]
theorem jR (g:dC f=a) (b:Bu f=c):aT f=⟨(E3 c a a.length).nd,(E3 c a a.length).po.map NG,none,none⟩:=by
 unfold aT;rw [g,b]
theorem aQ {b:dS} (f:Am N=E3 c a a.length) (h:b.nd=N.nd) (g:b.po=N.po.map NG):Am b=⟨(E3 c a a.length).nd,(E3 c a a.length).po.map NG,none,none⟩:=by
 rw [<-f];unfold Am;dsimp only;rw [h,g,dl,dl]
 rfl
set_option maxRecDepth 100000 in
theorem TL (p:dG) (hf:E9 p) (hE:Ai p=0):AK prog 34 [.d (CM p)] [] λr H'=>∃B u l o N M bs,r= .d (.tup [pD B 0,AF 0])/\H'=HW u bs (Fb l (BJ N)) M/\Bp B u l o N M/\Am N=aT p:=by
 have hck:=Fz p hf.b;rw [hE] at hck;have hrn:=G3 hE;have hrl:=hf.r;refine Av func34 Z Z ntmps34 Z Z Z λF H=>(AC (AE ?_));refine V (CQ 1 Z Z Z Z Z Z Z) (AB Z Z (AB Z Z (AD (AC (AC (AE (J (B1 Z Z Bc Z Z Z) (J (B5 (hck) Z Z) ?_))))))));refine AB Z Z (AD (AC (AE (cl Z Z (J (EO Z Z Z) (AD (EV Z (Z) (AZ ?_))))))));refine AC (AE (V (Pd 50 Z Z Z Z) (aG 51 50 0 Z Z Z Z Z λu=>(jN 26 51 0 (.inl Z) Z (J (FU pH qL Z Z Z) (aF 27 Z (V (CQ 2 Z Z Z Z Z Z Z) (AB Z Z ?_))))))));refine AD (AC (IS 40 Z Z Z (DR 5 2 40 (ds:=[dU none 0,dU none 0,KY (.map (some u))]) H Z Z Z Z Z Z Z Z Z Z Z (λ_=>rfl) λB hwb=>(AE (V (Pd 3 Z Z Z Z) (AB Z Z (AD (AC ?_))))))));refine AC (AE (J (A1 Z Fj Z Z Z) (J (A5 Z Z Z Ro Z) (J (CV Z an Z) (cl Z Z (AD (A2 (Bb (α:=Nat×(Nat ->Nat)×Hd×MF) (λq=>⟨142,[(1,(.ptr 1 0 0)),(5,(.d (pD B 0))),(6,(.map 3 0)),(31,(.d (.sl none (p.ro.map Cv)))),(32,(.d (AF (p.ro.length:Int)))),(33,(.d (AF (q.1:Int))))],[(1,[.blk 31 [.d (.sl none (p.ro.map Cv)),.d (.sl none (p.it.map Ap))]]),(3,[BD C4 KY (Tn Er q.2.1 ((p.ro.take q.1).map cw.r))]),(40,[.multi q.2.2.2]),(50,[BD AF KY (Fb (λ_=>0) [])]),(51,[.addr 50 0 (.map (some u))])]⟩) (λq=>q.1<=p.ro.length/\Bp B u (λ_=>0) q.2.1 ⟨[],(p.ro.take q.1).map Il,none,q.2.2.1⟩ q.2.2.2/\(q.2.2.1≠none ->0<q.1)) (λq=>p.ro.length - q.1) ((0,(λ_=>0),none,BM (λ_=>none) B (XT none 0 none 0 u))) (⟨ϱ _,rn _ _ _ _ (show BM (λ_=>none) B (XT none 0 none 0 u) B=_ from GM _ _ _),λh=>absurd Z h⟩) (A0 H [1,3,40,50,51] Z Z ⟨Z,Z,Z,Z,Z,Z,trivial⟩) ?_))))))));rintro ⟨k,o,mh,M⟩ ⟨hk0,G,hmh⟩;dsimp only at hk0 G hmh⊢;refine AC (AE (J (BW Z Z Z) (AD (AC (Ah Z (λh34=>?_) (λh34=>?_))))))
 .have g:k<p.ro.length:=Bi h34;refine AZ (AC (A2 (AC ?_)));have hpl:((p.ro.take k).map Il).length=k:=by rw [ψ,Θ];omega
  have hpr:((p.ro.take k).map cw.r).length=k:=by rw [ψ,Θ];omega
  refine AE (J (Bq (k) Z Z (Z) (Aq g) an Z OA Z) (J (IX Z Z ZR Z) ?_));refine V (CE 4 Qv Z Z Z Z) (V (Bk Z Z Z Z Z Z Z OA) (AD (AC (AE (cl Z Z (J (A1 Z FD Z Z Z) (J (B1 Z Z CL Z Z Z) (J (A1 Z FD Z Z Z) ?_))))))));refine J (B1 Z Z CL Z Z Z) (J (A1 Z QW Z Z Z) (J (A5 Z Z Z L3 Z) (J (FU pE qI Z Z Z) (aF 44 Z (V (CQ 5 Z Z Z Z Z Z Z) (aI 45 5 40 (ds:=iv (Il p.ro[k])) H Z Z Z Z Z Z Z Z Z Z Z (λ_=>rfl) λbn U=>(V (Tc (Tn Er o ((p.ro.take k).map cw.r)) (p.ro[k].r) (pV bn 0) Z Z Z Vl Bv Z Z) (AD ?_))))))));have hrnk:p.ro[k].r∉(p.ro.take k).map cw.r:=aO hrn g;rw [VE hrnk,hpr,<-D0 g];have cr:AY (Tn Er (Lr o k bn) ((p.ro.take (k+1)).map cw.r)) p.ro[k].r (.pointer none)=pV bn 0:=by rw [VF (i:=k) (aN hrn (k+1)) (by rw [ψ,Θ];omega) (by rw [eP,List.getElem_take]),Fk]
  have A:=G.fresh (m:=T7 (Il p.ro[k])) U;have hpb:((List.range k).map o).length=k:=by simp
  have I:BM M bn (T7 (Il p.ro[k])) B=some (XT none 0 mh ((List.range k).map o).length u):=by rw [hpb];have h:_=some (XT none 0 mh ((p.ro.take k).map Il).length u):=A.w;rw [hpl] at h;exact h
  have hmr:Ax (BM M bn (T7 (Il p.ro[k]))) mh VX 1 (((List.range k).map o).map BC):=by have h:Ax _ mh VX 1 ((List.range ((p.ro.take k).map Il).length).map λj=>BC (o j)):=A.rs.1 .m;rw [hpl] at h;rw [dl];exact h
  refine Dr [[],[],[1],[1,2],[1,2,3],[],[],[6],[5,6,7],[5,6,7,8],[1,2,3,4,5,6,7,8,9],rg 11,rg 12,rg 13] mixed Z (E6 (At 5 Z Z (At 5 Z Z (AX [47] Z (Cy Z Z) (AX [48] Z (Bz Z Js Z Z Z) (By [49] [40] Z Z (λ_=>A9 (EI (f:=40) Z Z (I) Z Va Z)) (At 6 Z Z (AX [8] Z (A1 Z FD Z Z Z) ?_))))))));refine By [52] [4] Z Z (λ_=>A9 (B1 Z Z CL Z Z Z)) (By [51,53] [3] Z Z (λ_=>A9 (HO (Tn Er (Lr o k bn) ((p.ro.take (k+1)).map cw.r)) p.ro[k].r (.pointer none) (pV bn 0) Z Z Z Vl Bv Y4 cr Z)) (IU [54] [6] [(55,_)] Z Z (λ_=>IV (EH 6 lV Z Z Z Z Z Z Z Z)) (.inr ⟨55,_,Z,Z,Z,Z,Z⟩) Z Z Z Z Z (IU [50,55] [61,40,6] [(56,_)] Z Z (λ_=>IV (GZ 50 61 40 hmr Z Z (by simp) Z Z Z Z Z (Ic (emb:=BC) ((List.range k).map o) [bn] Z Z Z Z Z Z Z Z lV (by simp;omega) Z Z Z Z))) (.inr ⟨56,_,Z,Z,Z,Z,Z⟩) Z Z Z Z Z (Dh 11 Z Z Z (An 12 Z Z (Ee 56 61 40 H Z Z Z (by simp) (by simp) Z Z Z Z Z Z Z (λ_ _=>rfl) λb1 c1 hb1 hc1=>(J (Cy Z Z) (AD ⟨Z,?_⟩))))))));refine An 13 Z Z (J (Bz Z Js Z Z Z) (AD ⟨Z,?_⟩));refine An 14 Z Z (V (OZ (f:=40) Z Z Z Z (A.keepM hb1 I) ((by show _<3;omega)) Z pW) (AD ⟨Z,?_⟩));refine Dg ?_;have e1:((List.range ((p.ro.take k).map Il).length).map (λj=>BC (o j))++ [BC bn])=((List.range k).map o++ [bn]).map BC:=by rw [hpl,du,dl];rfl
  have e2:((List.range k).map o++ [bn]).length=((p.ro.take k).map Il).length+1:=by simp;omega
  have O:=A.addM (y:=Il p.ro[k]) (bn:=bn) Z Z (GM _ _ _) (λj hj e=>by have h1:=G.p j _ (ω hj);rw [e,U] at h1;cases h1) hb1 (cap:=c1) (by have h:=hc1;simp at h⊢;omega);dsimp only at O;rw [e1,<-e2,<-D0 g,hpl] at O;refine AE (J (Aw Z Z (Ξ _ (by omega)) Z) (cl Z Z (AD ?_)));exact ⟨(k+1,Lr o k bn,some (b1,c1),_),⟨by show k+1<=_;omega,O,λ_=>Nat.succ_pos _⟩,by show p.ro.length - (k+1)<p.ro.length - k;omega,A0 H [1,3,40,50,51] Z (Z) ⟨Z,Z,Z,Z,Z,Z,trivial⟩⟩
 .refine BL (AC ?_);have hkk:k=p.ro.length:=by have h:=h34;omega
  subst hkk;rw [eo] at G⊢;have Q:M B=some (XT none 0 mh p.ro.length u):=by have h:_=some (XT none 0 mh (p.ro.map Il).length u):=G.w;rw [ψ] at h;exact h
  have hR3:=ZE G;have hmr:Ax M mh VX 1 ((List.range p.ro.length).map λj=>BC (o j)):=by have h:Ax _ mh VX 1 ((List.range (p.ro.map Il).length).map λj=>BC (o j)):=G.rs.1 .m;rw [ψ] at h;exact h
  refine AE (cl Z Z (J (Cy Z Z) (J (Bz Z Js Z Z Z) (J (EI (f:=40) Z Z (Q) Z Va Z) (V (Yu nM func78 Z Z (f:=40) (bl:=o) (px:=λj=>iv (Il (p.ro.getD j HD))) (tx:=λ_=>113) (Lw (p.ro.map cw.r)) (Pe _).swo (List.range p.ro.length) (Gv (p.ro.map cw.r)) (by simp;omega) (ZF p) (λys h1 h2=>Wq hrn (by rw [ψ];exact h1) h2) Z Z (i5 G) (λ_ _=>iu _) Z Z Kq hmr Z (by simp) (λh=>by have h1:=hmh h;intro h2;have h3:=dc List.length h2;rw [eT,List.length_nil] at h3;omega) Z Z) (AD (AC (AC ?_))))))))
  obtain ⟨a,v⟩:∃a,dC p=a:=⟨_,Z⟩
  have hoi:=HY p hf.b;rw [v] at hoi
  obtain ⟨c,s⟩:∃c,Bu p=c:=⟨_,Z⟩
  have hitl:a.length<=30:=by rw [<-v];exact dh (DH p) hf.i
  have hrol:c.length<=100:=by rw [<-s];unfold Bu;rw [ψ,(cd _).length_eq,eT,ψ];exact hrl
  have hitx:∀x∈a,cq x:=λx hx=>hf.x x (HZ (p:=p) (by rw [v];exact hx));have hin:(a.map AG.id).Nodup:=by rw [<-v];exact FZ hE
  have hroN:(c.map cw.r).Nodup:=by rw [<-s];exact MY hE
  have hpin:=λ(r:AO) (h:r∈c.map cw.r)=>qA (z:= .pointer none) hrn (cd (p.ro.map cw.r)) (f:=o) (r:=r) (by rw [<-UC,s];exact h);have R:=λ(r:AO) (h:r∉c.map cw.r)=>mm (z:= .pointer none) (cd (p.ro.map cw.r)) (f:=o) (r:=r) (by rw [<-UC,s];exact h);rw [<-UC,s] at hpin;rw [s] at hR3
  generalize ZG M mh VX ((Gv (p.ro.map cw.r)).map λx=>pD (o x) 0)=M2 at hR3⊢
  obtain ⟨w,hpb2⟩:∃f:Nat ->Nat,(λk=>o ((Gv (p.ro.map cw.r)).getD k 0))=f:=⟨_,Z⟩
  rw [hpb2] at hR3;have S:∀r,r∈c.map cw.r ->AY (Tn Er o (p.ro.map cw.r)) r (.pointer none)=pV (w ((c.map cw.r).idxOf r)) 0:=λr h=>by rw [hpin r h,<-hpb2]
  obtain ⟨pm,hpm⟩:∃m,Tn Er o (p.ro.map cw.r)=m:=⟨_,Z⟩
  rw [hpm] at S R⊢;refine AE (J (B1 Z Z Bc Z Z Z) (J (B5 (hoi) Z Z) (J (CV Z E0 Z) (cl Z Z (AD (A2 (Bb (α:=Nat×Nat×(Nat ->Nat)×dS×MF) (λq=>⟨142,[(1,(.ptr 1 0 0)),(5,(.d (pD q.2.1 0))),(6,(.map 3 0)),(66,(.d (.sl none ((a.map AG.id).map AF)))),(67,(.d (AF ((a.map AG.id).length:Int)))),(68,(.d (AF (q.1:Int))))],[(1,[.blk 31 [.d (.sl none (p.ro.map Cv)),.d (.sl none (p.it.map Ap))]]),(3,[BD C4 KY pm]),(40,[.multi q.2.2.2.2]),(50,[BD AF KY (Fb q.2.2.1 ((a.take q.1).map AG.id))]),(51,[.addr 50 0 (.map (some u))])]⟩) (λq=>q.1<=a.length/\Bp q.2.1 u q.2.2.1 w q.2.2.2.1 q.2.2.2.2/\Am q.2.2.2.1=E3 c a q.1) (λq=>a.length - q.1) ((0,B,(λ_=>0),⟨[],c.map Il,none,mh⟩,M2)) (⟨ϱ _,hR3,XW c a⟩) (A0 H [1,3,40,50,51] Z Z ⟨Z,Z,Z,Z,Z,Z,trivial⟩) ?_)))))));rintro ⟨k,B,l,N,M⟩ ⟨hk0,G,hT⟩;dsimp only at hk0 G hT⊢;refine AC (AE (J (BW Z Z Z) (AD (AC (Ah Z (λh69=>?_) (λh69=>?_))))))
  .have g:k<a.length:=by have h:=h69;rw [ψ] at h;exact Bi h
   refine AZ (AC (A2 (AC ?_)))
   obtain ⟨X,hX⟩:∃X,a.getD k cv=X:=⟨_,Z⟩
   have L:a[k]=X:=by rw [<-hX,DW cv g]
   have hidk:X.id∉(a.take k).map AG.id:=by rw [<-L];exact PD hin g
   have hitk:Mt a X.id=(X,true):=by have h:=SP g (PD hin g) rfl;rw [L] at h;exact h
   have hip:=n4 p X.id hf.b;rw [v,hitk] at hip;have hk70:((a.map AG.id).map AF)[k]? =some (AF X.id):=by rw [ζ,ζ,ω g,L];rfl
   refine AE (J (Bq (k) Z Z (Z) (hk70) E0 Z B4 Z) (J (EJ Z Z BE Z) (AB Z Z (AD (AC (AE (J (B1 Z Z Bc Z Z Z) (cl Z Z ?_))))))));refine J (B5 (hip) Z Z) (cl Z Z (J (Ds Z Z Z) (J (Ds Z Z Z) (V (CE 7 Fc Z Z Z Z) (V (Bk Z Z Z Z Z Z Z Cu) (AB Z Z (AD (AC ?_))))))));refine AE (J (B1 Z Z Bs Z Z Z) (J (FU pG qK Z Z Z) (aF 79 Z (V (CQ 8 Z Z Z Z Z Z Z) (AB Z Z (AD (AC (DR 13 8 40 (ds:=sZ ⟨X,none,[],none,[],true⟩) H Z Z Z Z Z Z Z Z Z Z Z (λ_=>rfl) λbn U=>?_))))))));have hNk:N.nd.length=k:=nF hT;have A:=G.fresh (m:=T9 ⟨X,none,[],none,[],true⟩) U;have hnb:((List.range k).map l).length=k:=by simp
   have I:BM M bn (T9 ⟨X,none,[],none,[],true⟩) B=some (XT N.nh ((List.range k).map l).length N.mh N.po.length u):=by rw [hnb];have h:_=some (XT N.nh N.nd.length N.mh N.po.length u):=A.w;rw [hNk] at h;exact h
   have hnr:Ax (EU (BM M bn (T9 ⟨X,none,[],none,[],true⟩)) B) N.nh Zm 1 (((List.range k).map l).map BC):=by have h:Ax _ N.nh Zm 1 ((List.range N.nd.length).map λj=>BC (l j)):=(A.rs.del A.w).1 .n;rw [hNk] at h;rw [dl];exact h
   refine ke 5 20 40 Z Z Z I Z Z Z Z (Dr [[],[],[1],[1,2],[1,2,3],[],[],[6],[6,7],[6,7,8],[],[10],[6,7,8,9,10,11],[],[0,1,2,3,4,6,7,8,9,10,11,12],[0,1,2,3,4,6,7,8,9,10,11,12,14],[0,1,2,3,4,6,7,8,9,10,11,12,14,15],[0,1,2,3,4,5,6,7,8,9,10,11,12,14,15,16],[0,1,2,3,4,5,6,7,8,9,10,11,12,14,15,16,17],rg 19] mixed Z (E6 (At 5 Z Z (At 5 Z Z (AX [82] Z (KE Z Z) (AX [83] Z (A1 Z Lq Z Z Z) (By [84] [20,51] Z Z (λ_=>A9 (Wl 51 0 Z Z Z Z V9 Z)) ?_)))))));refine At 10 Z Z (At 5 Z Z (AX [87] Z (KE Z Z) (AX [88] Z (A1 Z IN Z Z Z) (By [89] [20] Z Z (λ_=>A9 (A5 Z Z Z K5 Z)) (At 13 Z Z (IU [91] [9] [(92,_)] Z Z (λ_=>IV (EH 9 i6 Z Z Z Z Z Z Z Z)) (.inr ⟨92,_,Z,Z,Z,Z,Z⟩) Z Z Z Z Z (IU [90,92] [60,40,9] [(93,_)] Z Z (λ_=>IV (GZ 90 60 40 hnr Z Z (by simp) Z Z Z Z Z (Ic (emb:=BC) ((List.range k).map l) [bn] Z Z Z Z Z Z Z Z i6 (by simp;omega) Z Z Z Z))) (.inr ⟨93,_,Z,Z,Z,Z,Z⟩) Z Z Z Z Z (At 13 Z Z ?_))))))));refine AX [81] Z (KE Z Z) (AX [95] Z (A1 Z IN Z Z Z) (IU [96,93] [20,60] [] Z Z (λ_=>IV (Bk Z Z Z Z Z Z Z pN)) (.inl ⟨Z,Z⟩) Z Z Z Z Z (IU [85,86] [50] [(97,_)] Z Z (λ_=>IV (GS (Fb l ((a.take k).map AG.id)) (X.id) ((.pointer none)) Z Z Z Vm HI iE Z Z)) (.inr ⟨97,_,Z,Z,Z,Z,Z⟩) Z Z Z Z Z (AX [97] Z (C8 Z Z Z) (Dh 19 Z Z Z (An 20 Z Z (V (GX (Fb l ((a.take k).map AG.id)) (X.id) ((.pointer none)) (pV bn 0) Z Z Z HI Z Z) (AD ⟨Z,?_⟩))))))));refine Dg (AC (Uq 93 60 40 20 0 H Z Z Z (by simp) (by simp) Z Z (λ_ _=>rfl) (λ_ _=>rfl) Z (λ_ _=>rfl) (λ_ _=>rfl) Z Z (λ_ _=>rfl) (λ_ _=>rfl) (λ_ _=>rfl) (λ_ _=>rfl) λb1 c1 hb1 hc1=>(DR 5 20 40 (ds:=[dU (some (b1,c1)) ((List.range k).map l++ [bn]).length,dU N.mh N.po.length,KY (.map (some u))]) H Z Z Z Z Z Z Z Z Z Z Z (λ_=>rfl) λwb2 Q=>?_)));have hby:BA (Fb l ((a.take k).map AG.id)) X.id (pV bn 0)=Fb (Lr l k bn) ((a.take (k+1)).map AG.id):=by have h:=VE (d:=(0:Int)) (f:=l) (b:=bn) hidk;rw [show ((a.take k).map AG.id).length=k by rw [ψ,Θ];omega,<-L,<-D0 g] at h;rw [<-L];exact h
   rw [hby];have e1:((List.range N.nd.length).map (λj=>BC (l j))++ [BC bn])=((List.range k).map l++ [bn]).map BC:=by rw [hNk,du,dl];rfl
   have e2:((List.range k).map l++ [bn]).length=N.nd.length+1:=by simp;omega
   have O:=A.addN2 (x:=⟨X,none,[],none,[],true⟩) (bn:=bn) Z Z Z Z (GM _ _ _) (λj hj e=>by have h1:=G.n j _ (ω hj);rw [e,U] at h1;cases h1) hb1 (cap:=c1) (by have h:=hc1;simp at h;omega) (wb':=wb2) (by rw [e1];exact Q);rw [e1,<-e2,hNk] at O;have hT0:=kq (x:=X) (nh:=some (b1,c1)) hX hT;have hfk:cq X:=hitx X (by rw [<-L];exact θ g);have hdl:=Lt hfk;refine AE (J (B1 Z Z Bs Z Z Z) (J (B5 (So X (by have h:=hfk.1;omega) (by have h:=hfk.2.1;omega) (by have h:=hfk.2.2;omega)) Z Z) (cl Z Z (J (Ds Z Z Z) (J (Ds Z Z Z) (AB Z Z (AB Z Z ?_)))))));refine AD (AC (AE (cl Z Z (J (CV Z underlying44 Z) (cl Z Z (AD (A2 (Bb (α:=Nat×dS×MF) (λr=>⟨142,[(1,(.ptr 1 0 0)),(5,(.d (pD wb2 0))),(6,(.map 3 0)),(66,(.d (.sl none ((a.map AG.id).map AF)))),(67,(.d (AF ((a.map AG.id).length:Int)))),(68,(.d (AF (k:Int)))),(13,(.d (pD bn 0))),(104,(.d (.sl none ((ct X).map OR)))),(105,(.d (AF ((ct X).length:Int)))),(106,(.d (AF (r.1:Int))))],[(1,[.blk 31 [.d (.sl none (p.ro.map Cv)),.d (.sl none (p.it.map Ap))]]),(3,[BD C4 KY pm]),(40,[.multi r.2.2]),(50,[BD AF KY (Fb (Lr l k bn) ((a.take (k+1)).map AG.id))]),(51,[.addr 50 0 (.map (some u))])]⟩) (λr=>r.1<=(ct X).length/\Bp wb2 u (Lr l k bn) w r.2.1 r.2.2/\Am r.2.1=DV c a k r.1) (λr=>(ct X).length - r.1) ((0,_,_)) (⟨ϱ _,O,hT0⟩) (A0 H [1,3,40,50,51] Z Z ⟨Z,Z,Z,Z,Z,Z,Z,Z,Z,Z,trivial⟩) ?_))))))));rintro ⟨t,N3,M3⟩ ⟨ht0,hR4,D⟩;dsimp only at ht0 hR4 D⊢;refine AC (AE (J (BW Z Z Z) (AD (AC (Ah Z (λY=>?_) (λY=>?_))))))
   .have ht1:t<(ct X).length:=Bi Y;refine AZ (AC (A2 (AC (AE (J (Bq (t) Z Z (Z) (Aq ht1) underlying44 Z iS Z) ?_)))));refine J (IX Z Z p9 Z) (V (CE 10 mI Z Z Z Z) (V (Bk Z Z Z Z Z Z Z iS) (AD (AC (AE (cl Z Z (J (A1 Z NK Z Z Z) (J (B1 Z Z CL Z Z Z) ?_))))))))
    by_cases hm:((ct X)[t]).1∈c.map cw.r
    .refine J (HO pm ((ct X)[t]).1 (.pointer none) (pV (w ((c.map cw.r).idxOf ((ct X)[t]).1)) 0) Z Z Z Vl Bv Y4 (S _ hm) Z) (AB Z Z (AD (AC (AE (cl Z Z (J (RT underlying109 Z Z) (AD (Dt Z (Z) ?_))))))));have hnl3:N3.nd.length=k+1:=sR D;have hpl3:N3.po.length=c.length:=sQ D
     obtain ⟨x,hx⟩:∃x,N3.nd[k]? =some x:=⟨_,ω (by omega)⟩
     have hjl:(c.map cw.r).idxOf ((ct X)[t]).1<N3.po.length:=by rw [hpl3];have h:=gi hm;rw [ψ] at h;exact h
     obtain ⟨y,hy⟩:∃y,N3.po[(c.map cw.r).idxOf ((ct X)[t]).1]? =some y:=⟨_,ω hjl⟩
     have hbd:=ce hitl hitx g D hx hy;have hda:=Jx X _ (θ ht1);have hj:=nV hR4 hx hy ((ct X)[t]).2 ⟨by omega,by omega⟩ hbd.1 hbd.2.1 hbd.2.2.1 hbd.2.2.2;rw [Fk] at hj;refine AE (cl Z Z (cl Z Z (J (A1 Z bU Z Z Z) (J (A5 Z Z Z L3 Z) ?_))));refine CZ (WW hj Z [40] ⟨Z,trivial⟩ Z Z Z Z (λr H' ⟨e1,N',M',e2,_⟩=>by subst e1 e2;exact ⟨Z,Z,Z⟩) Z) Z ?_;rintro _ ⟨r,H',⟨rfl,N4,M4,rfl,E,hnh4,hmh4,⟨x',hx4,ex4⟩,y',hy4,ey4⟩,rfl⟩;refine AD (AE (J (Aw Z Z (Ξ _ (by omega)) Z) (cl Z Z (AD ?_))));exact ⟨(t+1,N4,M4),⟨by show t+1<=_;omega,E,kr hX hroN g ht1 D Z hm hx hy hx4 ex4 hy4 ey4⟩,by show (ct X).length - (t+1)<(ct X).length - t;omega,A0 H [1,3,40,50,51] Z (Z) ⟨Z,Z,Z,Z,Z,Z,Z,Z,Z,Z,trivial⟩⟩
    .refine J (HO pm ((ct X)[t]).1 (.pointer none) (.pointer none) Z Z Z Vl Bv Y4 (R _ hm) Z) (AB Z Z (AD (AC (AE ?_))));refine cl Z Z (J (RT underlying109 Z Z) (AD (EV Z (Z) (AZ (AE (J (Aw Z Z (Ξ _ (by omega)) Z) (cl Z Z (AD ?_))))))));exact ⟨(t+1,N3,M3),⟨by show t+1<=_;omega,hR4,by show Am N3=DV c a k (t+1);rw [kt hX ht1 hm];exact D⟩,by show (ct X).length - (t+1)<(ct X).length - t;omega,A0 H [1,3,40,50,51] Z (Z) ⟨Z,Z,Z,Z,Z,Z,Z,Z,Z,Z,trivial⟩⟩
   .refine BL ?_;have hte:t=(ct X).length:=by have h:=Y;omega
    have hT5:Am N3=E3 c a (k+1):=by rw [<-kw hX g,<-hte];exact D
    refine AE (J (Aw Z Z (Ξ _ (by omega)) Z) (cl Z Z (AD ?_)));exact ⟨(k+1,wb2,Lr l k bn,N3,M3),⟨by show k+1<=_;omega,hR4,hT5⟩,by show a.length - (k+1)<a.length - k;omega,A0 H [1,3,40,50,51] Z (Z) ⟨Z,Z,Z,Z,Z,Z,trivial⟩⟩
  .refine BL (AC (AC ?_));have hke:k=a.length:=by have h:=h69;rw [ψ] at h;omega
   subst hke;rw [eo];have hwbf:=G.w;have hpzf:N.mh=none ->N.po.length=0:=λh=>by have h1:Ax M N.mh VX 1 ((List.range N.po.length).map λj=>BC (w j)):=G.rs.1 .m;have h2:=TZ h1 h;rw [eT] at h2;exact h2
   have hids:=nf hT;have hNl:N.po.length=c.length:=ml hT;refine AE ?_;refine cl Z Z (J (Cy Z Z) (J (Bz Z Js Z Z Z) (J (EI (f:=40) Z Z (hwbf) Z Va Z) (J (Ut hpzf Z underlying100 Z) (cl Z Z (AD (A2 (Bb (α:=Nat×dS×MF) (λr=>⟨142,[(5,(.d (pD B 0))),(126,(.d (dU N.mh N.po.length))),(127,(.d (AF (N.po.length:Int)))),(128,(.d (AF (r.1:Int))))],[(40,[.multi r.2.2]),(50,[BD AF KY (Fb l (a.map AG.id))]),(51,[.addr 50 0 (.map (some u))])]⟩) (λr=>r.1<=N.po.length/\Bp B u l w r.2.1 r.2.2/\r.2.1.nd=N.nd/\r.2.1.mh=N.mh/\r.2.1.po=(N.po.take r.1).map NG++N.po.drop r.1) (λr=>N.po.length - r.1) ((0,N,M)) (⟨ϱ _,G,Z,Z,Z⟩) (A0 H [40,50,51] Z Z ⟨Z,Z,Z,Z,trivial⟩) ?_))))))));rintro ⟨j,N5,M5⟩ ⟨hj0,E,K,T,C⟩;dsimp only at hj0 E K T C⊢;refine AC (AE (J (BW Z Z Z) (AD (AC (Ah Z (λW=>?_) (λW=>?_))))))
   .have hj1:j<N.po.length:=Bi W;refine AZ (AC (A2 (AC ?_)));have hl5:N5.po.length=N.po.length:=by rw [C];simp;omega
    have hpr5:Ax M5 N.mh VX 1 ((List.range N.po.length).map λj=>BC (w j)):=by have h:Ax M5 N5.mh VX 1 ((List.range N5.po.length).map λj=>BC (w j)):=E.rs.1 .m;rw [hl5,T] at h;exact h
    obtain ⟨rb,rc,hre⟩:=Tb hpr5 (j:=j) (by rw [eT];exact hj1);have hrow:=Qt hpr5 hre
    obtain ⟨y,hy⟩:∃y,N5.po[j]? =some y:=⟨_,ω (by omega)⟩
    obtain ⟨hyb,hyq⟩:=E.pp j y hy;have hqz:=TZ hyq;refine AE (J (Ur hre (j) Z Z Z hj1 underlying100 Yn Z) (J (km (f:=40) (e:=j) (off:=0) Z (by omega) Z (hrow) ((by rw [ζ,gG hj1];rfl)) Z ER Z) ?_));refine AB Z Z (AD (AE (cl Z Z ?_)));refine cl Z Z (J (Cy Z Z) (J (Bz Z Gl Z Z Z) (J (EI (f:=40) Z Z (hyb) Z K5 Z) (J (Ut hqz Z S1 Z) (J (Cy Z Z) (J (Bz Z Jo Z Z Z) (V (OZ (f:=40) Z Z Z Z (hyb) ((by show _<10;omega)) Z B4) (AD ?_))))))));have hR6:=E.setPo (y':=NG y) hy Z Z;refine AE (J (Aw Z Z (Ξ _ (by omega)) Z) (cl Z Z (AD ?_)));exact ⟨(j+1,{N5 with po:=N5.po.set j (NG y)},_),⟨by show j+1<=_;omega,hR6,K,T,bS hj1 C hy⟩,by show N.po.length - (j+1)<N.po.length - j;omega,A0 H [40,50,51] Z (Z) ⟨Z,Z,Z,Z,trivial⟩⟩
   .refine BL (AC ?_);have hje:j=N.po.length:=by have h:=W;omega
    subst hje;rw [eo,List.drop_length,en] at C;have hids5:BJ N5=a.map AG.id:=by unfold BJ at hids⊢;rw [K];exact hids
    refine AE (cl Z Z (AB Z Z (AB Z Z (AD (A6 ?_)))));exact ⟨_,[40,50,51],_,A4 Z,Z,Z,B,u,l,w,N5,M5,some (List.range (Fb l (a.map AG.id)).length,(Fb l (a.map AG.id)).length),Z,by rw [hids5];rfl,E,by rw [jR v s];exact aQ hT K C⟩
end Go.Proofs.YtnkkaeblokdifaaGreat
namespace Go.Proofs.YtnkkaeblokdifaaGreat
open Go.RowKit
variable {a:List cw} {c:List AG} {f:Nat ->Bool} {g:List (List (AO×Int))} {i:Nat} {h:dG} {N:dS} {j:AO} {k:KG} {x:Nd} {o:List cw} {s:List AO} {t:Type} {u:List Int} {w:Nat} {y:cw} {z:Nat}
set_option maxRecDepth 100000
def DU (ds:List (List (AO×Int))) (on:Nat ->Bool) (r:AO):Int:=((List.range ds.length).map λi=>if on i=true then Cs (ds.getD i []) r else 0).sum
def ab (on:Nat ->Bool) (q:List Nat):Nat:=q.findIdx λi=>!on i
def Zl (ds:List (List (AO×Int))) (on:Nat ->Bool) (x:cw):Po:=⟨x.r,x.n,DU ds on x.r,none,dH ds x.r,ab on (dH ds x.r)⟩
def ID (rs:List AO) (its:List AG) (on:Nat ->Bool) (i:Nat):Nd:={lc rs ((its.map ct).take i) (its.getD i cv) (ct (its.getD i cv)) with on:=on i}
def dD (ros:List cw) (its:List AG) (on:Nat ->Bool):dS:=⟨(List.range its.length).map (ID (ros.map cw.r) its on),ros.map (Zl (its.map ct) on),none,none⟩
def Af (on:Nat ->Bool) (i:Nat):Nat ->Bool:=λj=>if j=i then false else on j
theorem Vp (q:List Nat):ab (λ_=>true) q=q.length:=by
 unfold ab
 simp
theorem Yq (a:List (List (AO×Int))) (r:AO):DU a (λ_=>true) r=(a.map λD=>Cs D r).sum:=by
 unfold DU
 congr 1
 apply fh (by simp)
 grind
theorem aS (p:dG):aT p=dD (Bu p) (dC p) λ_=>true:=by
 unfold aT dD E3 J1;dsimp only;rw [dl]
 congr 1
 grind [eE,ς,NG,XJ,Zl,Yq,Vp]
theorem Q3 {f g:cw ->Po} (k:z<a.length) {y:Po} (h:(a.map cw.r).Nodup) (s:y=g a[z]) (o:∀x∈a,x.r≠a[z].r ->f x=g x):(a.map f).set z y=a.map g:=by
 refine gM λi=>?_;rw [gr]
 by_cases e:z=i
 .grind
 .rw [η e,ζ,ζ]
  cases hi:a[i]? with
  | none=>rfl
  | some b=>
   have c:=χ.1 hi;show some _=some _
   rw [o b (ϑ hi) λt=>e (by
    have l:(a.map cw.r)[z]'(by simpa using k)=(a.map cw.r)[i]'(by simpa using c.1):=by
     grind
    exact (List.getElem_inj h).1 l)]
theorem Lm (b:j∈a.map cw.r):∃c:(a.map cw.r).idxOf j<a.length,a[(a.map cw.r).idxOf j].r=j:=by
 have h:=gi b;have f:=iA h
 grind
theorem Ys (l:(a.map cw.r).Nodup) (f:cw ->Po):∀(D:List (AO×Int)),(D.map Prod.fst).Nodup ->(fp (a.map cw.r) D).foldl LZ (a.map f)=a.map λx=>{f x with sum:=(f x).sum - Cs D x.r}:=by
 intro D
 induction D using YV with
 | h0=>
  intro _;show a.map f=_;refine eE λx _=>?_;show f x={f x with sum:=(f x).sum - 0}
  rw [Int.sub_zero]
 | h1 D d b=>
  intro g;rw [du,gY] at g;have j:d.1∉D.map Prod.fst:=λh=>g.2.2 _ h _ (List.mem_singleton_self _) rfl;have b:=b g.1
  by_cases c:d.1∈a.map cw.r
  .rw [Ue c,List.foldl_append,b];obtain ⟨o,k⟩:=Lm c
   grind [LZ,Q3,DN,DO,Cm]
  .rw [Q5 c,b];refine eE λx i=>?_;have:Cs (D++ [d]) x.r=Cs D x.r:=Cm λe=>c (e▸υ.2 ⟨x,i,Z⟩);rw [this]
theorem aa (w:(a.map cw.r).Nodup) (f:cw ->Po) (k:List (List (AO×Int))):∀(D:List (AO×Int)),(D.map Prod.fst).Nodup ->(fJ (a.map cw.r) k D).foldl OL (a.map f)=a.map λx=>{f x with mi:=if Cs D x.r<0 then min (f x).mi (dH k x.r).length else (f x).mi}:=by
 intro D
 induction D using YV with
 | h0=>
  intro _;show a.map f=_;refine eE λx _=>?_;have z:Cs [] x.r=0:=rfl
  simp_all
 | h1 D d i=>
  intro o;rw [du,gY] at o;have b:d.1∉D.map Prod.fst:=λh=>o.2.2 _ h _ (List.mem_singleton_self _) rfl;have i:=i o.1
  by_cases c:d.1∈a.map cw.r/\d.2<0
  .rw [Zp c.1 c.2,List.foldl_append,i];obtain ⟨v,j⟩:=Lm c.1;show OL _ ((a.map cw.r).idxOf d.1,(dH k d.1).length)=_;rw [Vo (y:=(λx=>{f x with mi:=if Cs D x.r<0 then min (f x).mi (dH k x.r).length else (f x).mi}) a[(a.map cw.r).idxOf d.1]) (by rw [ζ,ω v];rfl)];refine Q3 v w ?_ λx u g=>?_
   .dsimp only;have t:Cs (D++ [d]) a[(a.map cw.r).idxOf d.1].r=d.2:=by rw [j];exact DN b
    have s:Cs D a[(a.map cw.r).idxOf d.1].r=0:=by rw [j];exact DO b
    rw [t,s,η (by omega),ϖ c.2,j]
   .rw [j] at g;have:Cs (D++ [d]) x.r=Cs D x.r:=Cm g;rw [this]
  .rw [QC c,i];refine eE λx u=>?_
   by_cases e:x.r=d.1
   .have l:d.1∈a.map cw.r:=e▸υ.2 ⟨x,u,Z⟩;have t:Cs (D++ [d]) x.r=d.2:=by rw [e];exact DN b
    have s:Cs D x.r=0:=by rw [e];exact DO b
    rw [t,s,η (by omega),η (λh=>c ⟨l,h⟩)]
   .have:Cs (D++ [d]) x.r=Cs D x.r:=Cm e;rw [this]
theorem Fv (h:z≠i):Af f i z=f z:=η h
theorem Hz:Af f i i=false:=ϖ rfl
theorem Sa (p:t ->Bool) (l m:List t):(l++m).findIdx p=if l.findIdx p<l.length then l.findIdx p else m.findIdx p+l.length:=List.findIdx_append
theorem NJ {b:Type} {p q:b ->Bool}:∀{l:List b},(∀x∈l,p x=q x) ->l.findIdx p=l.findIdx q
 | [],_=>rfl
 | a::l,h=>by
  rw [List.findIdx_cons,List.findIdx_cons,h a (eI ..),NJ λx c=>h x (er _ c)]
theorem IA {n:Nat} (h:i<n):∃B:List Nat,List.range n=List.range i++i::B/\∀j∈B,i<j:=by
 refine ⟨List.range' (i+1) (n - i - 1),?_,λj b=>?_⟩
 .rw [List.range_eq_range',List.range_eq_range'];have a:n=i+(1+(n - i - 1)):=by omega
  conv=>lhs;rw [a]
  rw [<-List.range'_append_1,fN,Nat.add_comm 1 (n - i - 1),List.range'_succ]
 grind
theorem J0 (h:i<g.length) (r:AO):∃B:List Nat,dH g r=dH (g.take i) r++((if Cs (g.getD i []) r<0 then [i] else [])++B)/\(∀j∈dH (g.take i) r,j<i)/\∀j∈B,i<j:=by
 obtain ⟨B,c,b⟩:=IA h;refine ⟨B.filter λi=>decide (Cs (g.getD i []) r<0),?_,λj a=>?_,λj a=>b j (Ψ.1 a).1⟩
 all_goals (grind [dH,fZ])
theorem jT (h:i<g.length) (a:Nat ->Bool) (r:AO):ab (Af a i) (dH g r)=if Cs (g.getD i []) r<0 then min (ab a (dH g r)) (dH (g.take i) r).length else ab a (dH g r):=by
 obtain ⟨B,c,b,f⟩:=J0 h r;rw [c]
 generalize dH (g.take i) r=A at b⊢
 grind [NJ,Fv,ab,Sa,Hz]
theorem Yp (h:i<g.length) (b:f i=true) (r:AO):DU g (Af f i) r=DU g f r - Cs (g.getD i []) r:=by
 obtain ⟨B,a,c⟩:=IA h;unfold DU;rw [a,du,du,dz,dz,gV,gV,eW,eW]
 grind [eE,Fv,Hz]
theorem VM:∀(l:List (Nat×Int)) (a:List Po),(l.foldl LZ a).map CD=l.foldl LZ (a.map CD)
 | [],_=>rfl
 | e::l,a=>by
  rw [List.foldl_cons,List.foldl_cons,VM l]
  congr 1
  unfold LZ;rw [ζ]
  cases a[e.1]? with
  | none=>rfl
  | some y=>show (a.set e.1 _).map CD=_;rw [List.map_set];rfl
theorem Vn:∀(l:List (Nat×Nat)) (a:List Po),(l.foldl OL a).map CD=l.foldl OL (a.map CD)
 | [],_=>rfl
 | e::l,a=>by
  rw [List.foldl_cons,List.foldl_cons,Vn l]
  congr 1
  unfold OL;rw [ζ]
  cases a[e.1]? with
  | none=>rfl
  | some y=>show (a.set e.1 _).map CD=_;rw [List.map_set];rfl
theorem rk (t:(a.map cw.r).Nodup) (h:Am N=dD a c f) (g:i<c.length) (y:f i=true) (w:N.nd[i]? =some x):Am (pf N i x)=dD a c (Af f i):=by
 have o:N.nd.map EN=(List.range c.length).map (ID (a.map cw.r) c f):=dc dS.nd h;have k:N.po.map CD=a.map (Zl (c.map ct) f):=dc dS.po h
 have b:EN x=ID (a.map cw.r) c f i:=by
  have u:(N.nd.map EN)[i]? =some (EN x):=by rw [ζ,w];rfl
  grind
 have s:x.ef=fp (a.map cw.r) (ct (c.getD i cv)):=dc Nd.ef b;have l:x.pl=fJ (a.map cw.r) ((c.map ct).take i) (ct (c.getD i cv)):=dc Nd.pl b;have dr:i<(c.map ct).length:=by simpa using g
 have r:(c.map ct).getD i []=ct (c.getD i cv):=by rw [DW [] dr,DW cv g,eP]
 unfold Am pf dD;dsimp only
 congr 1
 .rw [List.map_set,o]
  have:EN (EC x)=ID (a.map cw.r) c (Af f i) i:=by
   have u:EN (EC x)=EC (EN x):=rfl;rw [u,b];unfold ID EC Af;rw [ϖ rfl]
  rw [this];refine gM λj=>?_;rw [gr]
  by_cases e:i=j
  .subst e;rw [ϖ Z,ϖ (by simpa using g),ζ,gG g];rfl
  .rw [η e,ζ,ζ]
   cases hj:(List.range c.length)[j]? with
   | none=>rfl
   | some z=>
    have v:=χ.1 hj;have:z=j:=by have:=v.2;simp at this;exact this.symm
    subst this;show some _=some _;unfold ID Af;rw [η (λh=>e h.symm)]
 .rw [Vn,VM,k,s,l,Ys t _ _ (YW _),aa t _ _ _ (YW _)];refine eE λz _=>?_;unfold Zl;dsimp only;rw [Yp dr y,jT dr,r]
theorem FF (N:dS) (i:Nat):(Am N).nd.getD i Bg=EN (N.nd.getD i Bg):=by
 show (N.nd.map EN).getD i Bg=_;rw [Δ,Δ,ζ]
 cases N.nd[i]?<;>rfl
theorem Hi (N:dS) (j:Nat):(Am N).po.getD j Br=CD (N.po.getD j Br):=by
 show (N.po.map CD).getD j Br=_;rw [Δ,Δ,ζ]
 cases N.po[j]?<;>rfl
theorem Gm (N:dS):BJ (Am N)=BJ N:=by
 unfold BJ Am;rw [dl];rfl
theorem Xh (N:dS) (x:Nd):F6 (Am N) (EN x)=F6 N x:=by
 have c:eZ (Am N)=eZ N:=funext λe=>by unfold eZ;rw [Hi];rfl
 have b:∀e,Q4 (Am N) (EN x) e=Q4 N x e:=λe=>by unfold Q4;rw [Hi,FF];rfl
 have a:dP (Am N)=dP N:=funext λe=>by unfold dP;rw [FF,Gm];rfl
 grind [F6,EN]
theorem SA (N:dS):CG (Am N)=CG N:=by
 have c:(Am N).nd.findSome? (PH (Am N))=N.nd.findSome? (PH N):=by
  show (N.nd.map EN).findSome? _=_;rw [List.findSome?_map]
  congr 1
  grind [PH,EN,Xh]
 have b:(Am N).po.findSome? (T6 (Am N))=N.po.findSome? (T6 N):=by
  show (N.po.map CD).findSome? _=_;rw [List.findSome?_map]
  congr 1
  funext y
  show T6 (Am N) (CD y)=T6 N y;have a:eB (Am N)=eB N:=funext λi=>by unfold eB;rw [FF];rfl
  have f:∀i,((Am N).nd.getD i Bg).it.id=(N.nd.getD i Bg).it.id:=λi=>by rw [FF];rfl
  unfold T6;rw [a];show (if OH y y.sum=true then (y.q.reverse.find? (eB N)).map λi=>(⟨((Am N).nd.getD i Bg).it.id,0,y.r,-1⟩:KG) else none)=_
  grind
 unfold CG;rw [c,b]
theorem bH (h:F6 N x=some k):k.id=x.it.id:=by
 unfold F6 at h
 split at h
 .injection h with h;subst h;rfl
 grind
theorem QJ (h:CG N=some k):∃(i:Nat) (x:Nd),N.nd[i]? =some x/\x.on=true/\k.id=x.it.id:=by
 unfold CG at h
 split at h
 .rename_i o g
  injection h with h;subst h
  obtain ⟨x,b,a⟩:=List.exists_of_findSome?_eq_some g;obtain ⟨i,f,j⟩:=eQ b;unfold PH at a
  split at a
  .rename_i c
   exact ⟨i,x,by rw [ω f,j],c,bH a⟩
  .cases a
 .obtain ⟨y,l,a⟩:=List.exists_of_findSome?_eq_some h;unfold T6 at a
  split at a
  .cases hf:y.q.reverse.find? (eB N) with
   | none=>rw [hf] at a;cases a
   | some i=>
    grind [eB,Bg]
  .cases a
structure ow (ros:List cw) (its:List AG):Prop where
 l:its.length<=30
 x:∀x∈its,cq x
 i:(its.map AG.id).Nodup
 a:∀x∈its,∀id∈x.af,id∈its.map AG.id
 r:(ros.map cw.r).Nodup
 n:∀x∈ros,-4000000000000000<=x.n/\x.n<=4000000000000000
 o:ros.length<=100
theorem kx (h:x∈(dD a c f).nd):∃i,i<c.length/\x=ID (a.map cw.r) c f i:=by
 obtain ⟨i,b,e⟩:=υ.1 h
 grind
theorem Nq (f:List cw) (c:List AG) (g:Nat ->Bool):BJ (dD f c g)=c.map AG.id:=by
 unfold BJ dD;rw [dl]
 apply fh (by simp)
 intro i a b;simp only [eP,List.getElem_range,Function.comp];show (c.getD i cv).id=_
 grind
theorem ju {D:List (AO×Int)} {e:Nat×Int} (h:e∈fp s D):∃d∈D,e.2=d.2:=by
 obtain ⟨d,a,rfl⟩:=υ.1 h
 grind
theorem iy {D:List (AO×Int)} {e:Nat×Nat} (h:e∈fJ s g D):∃d∈D,d.1∈s/\d.2<0/\e=(s.idxOf d.1,(dH g d.1).length):=by grind [fJ]
theorem mA (h:ow a c) (b:Nat ->Bool) (r:AO): -30000000000000000<=DU (c.map ct) b r/\DU (c.map ct) b r<=30000000000000000:=by
 have f:∀l:List Nat,-(l.length*1000000000000000)<=(l.map λi=>if b i=true then Cs ((c.map ct).getD i []) r else 0).sum/\(l.map λi=>if b i=true then Cs ((c.map ct).getD i []) r else 0).sum<=l.length*1000000000000000:=by
  intro l
  induction l with
  | nil=>simp
  | cons i l s=>
   simp only [dz,eW,gm]
   have k:Nz ((c.map ct).getD i []):=by
    rcases eS (l:=c.map ct) (d:=[]) i with g | g
    .grind [Jx]
    .rw [g];intro x j;cases j
   have o:=WS k r;omega
 have o:=f (List.range (c.map ct).length);have t:=h.l
 grind [DU]
theorem s4 (h:ow a c) (g:Nat ->Bool):fD (dD a c g):=by
 have I:=h.l
 have k:∀y∈(dD a c g).po,y.q.length<=30/\y.mi<=30/\∃x∈a,y=Zl (c.map ct) g x:=λy j=>by
  obtain ⟨x,b,e⟩:=υ.1 j;subst e;have t:=JZ (c.map ct) x.r;rw [ψ] at t;have C:ab g (dH (c.map ct) x.r)<=(dH (c.map ct) x.r).length:=List.findIdx_le_length;exact ⟨by show (dH _ _).length<=_;omega,by show ab _ _<=_;omega,x,b,Z⟩
 refine ⟨by rw [Nq];exact h.i,λx b id v=>?_,λx b=>?_,λx b e z=>?_,λx b e z=>?_,λy j=>?_,λy j=>?_,?_,λy j=>?_⟩
 .obtain ⟨i,f,rfl⟩:=kx b;rw [Nq];refine h.a (c.getD i cv) (by rw [DW cv f];exact θ f) id v
 .obtain ⟨i,f,rfl⟩:=kx b;have u:c.getD i cv∈c:=by rw [DW cv f];exact θ f
  have t:=Lt (h.x _ u);have C:=WE (a.map cw.r) (ct (c.getD i cv));have K:=V1 (a.map cw.r) ((c.map ct).take i) (ct (c.getD i cv));have J:=(h.x _ u).2.2;exact ⟨by show (fp _ _).length<=_;omega,by show (fJ _ _ _).length<=_;omega,by show (c.getD i cv).af.length<=_;omega⟩
 .obtain ⟨i,f,rfl⟩:=kx b;obtain ⟨d,A,G⟩:=ju z;have:=Jx _ d A;rw [G];omega
 .obtain ⟨i,f,rfl⟩:=kx b;obtain ⟨d,A,u,l,rfl⟩:=iy z;obtain ⟨F,D⟩:=Lm u;have dr:i<(c.map ct).length:=by simpa using f
  have w:(c.map ct).getD i []=ct (c.getD i cv):=by rw [DW [] dr,DW cv f,eP]
  have s:Cs ((c.map ct).getD i []) d.1=d.2:=by rw [w];exact cc (YW _) A
  obtain ⟨B,H,M,L⟩:=J0 dr d.1
  have E:((dD a c g).po.getD ((a.map cw.r).idxOf d.1) Br).q=dH (c.map ct) d.1:=by
   show ((a.map _).getD _ Br).q=_;rw [DW Br (by simpa using F),eP];show dH _ (a[(a.map cw.r).idxOf d.1]).r=_;rw [D]
  rw [E];dsimp only;have o:=dc List.length H;rw [ϖ (by rw [s];exact l),Ω,Ω,Φ] at o;have t:=JZ ((c.map ct).take i) d.1;rw [Θ,ψ] at t;omega
 .have:=k y j;omega
 .obtain ⟨_,_,x,b,rfl⟩:=k y j;have:=h.n x b;show -1000000000000000000<=x.n/\x.n<=1000000000000000000;omega
 .have t:(dD a c g).nd.length=c.length:=by unfold dD;simp
  have C:(dD a c g).po.length=a.length:=by unfold dD;simp
  have:=h.o;omega
 .have:=k y j;omega
theorem lz {N:dS} (h:fD (Am N)):fD N:=by
 have c:∀x∈N.nd,EN x∈(Am N).nd:=λx a=>υ.2 ⟨x,a,Z⟩;have f:∀y∈N.po,CD y∈(Am N).po:=λy b=>υ.2 ⟨y,b,Z⟩;refine ⟨by rw [<-Gm];exact h.i,λx a id g=>by rw [<-Gm];exact h.a _ (c x a) id g,λx a=>h.l (EN x) (c x a),λx a=>h.e (EN x) (c x a),λx a e i=>?_,λy b=>h.m (CD y) (f y b),λy b=>h.rm (CD y) (f y b),?_,λy b=>h.ql (CD y) (f y b)⟩
 .have:=h.p _ (c x a) e i;rw [Hi] at this;exact this
 .have:=h.n
  grind [Am]
theorem o7 (h:ow a c) (i:Am N=dD a c f):RM N.po 1000000000000000000:=λy g=>by
 have b:CD y∈(Am N).po:=υ.2 ⟨y,g,Z⟩;rw [i] at b;obtain ⟨x,k,e⟩:=υ.1 b;have l:=mA h f x.r;have j:y.sum=DU (c.map ct) f x.r:=dc Po.sum e.symm;rw [j];omega
def EY (ros:List cw) (its:List AG):Nat ->(Nat ->Bool) ->List KG×(Nat ->Bool)
 | 0,on=>([],on)
 | f+1,on=>match CG (dD ros its on) with
  | none=>([],on)
  | some e=>(e::(EY ros its f (Af on ((its.map AG.id).idxOf e.id))).1,(EY ros its f (Af on ((its.map AG.id).idxOf e.id))).2)
def Cq (n:Nat) (on:Nat ->Bool):Nat:=((List.range n).filter on).length
def Ia (p:dG):List KG×(Nat ->Bool):=EY (Bu p) (dC p) (dC p).length λ_=>true
def BG (its:List AG) (on:Nat ->Bool) (k:Nat):List Int:=((List.range k).filter on).map λi=>(its.getD i cv).id
theorem Dj {n:Nat} (a:i<n) (b:f i=true):Cq n (Af f i)+1=Cq n f:=by
 obtain ⟨B,g,c⟩:=IA a
 grind [Cq,Af,fZ,Fv]
theorem GC [BEq t] [LawfulBEq t] {l:List t} (a:l.Nodup) {i:Nat} (b:i<l.length):l.idxOf l[i]=i:=by grind
theorem JN (h:CG (dD a c f)=none):EY a c w f=([],f):=by
 cases w with
 | zero=>rfl
 | succ w=>unfold EY;rw [h]
theorem JM (h:CG (dD a c f)=some k):EY a c (w+1) f=(k::(EY a c w (Af f ((c.map AG.id).idxOf k.id))).1,(EY a c w (Af f ((c.map AG.id).idxOf k.id))).2):=by
 show (match CG (dD a c f) with | none=>_ | some k=>_)=_;rw [h]
theorem MC (h:Am N=dD a c f) (k:N.nd[i]? =some x):i<c.length/\x.on=f i/\x.it=c.getD i cv:=by
 have b:(N.nd.map EN)[i]? =some (EN x):=by rw [ζ,k];rfl
 rw [show N.nd.map EN=(List.range c.length).map (ID (a.map cw.r) c f) from dc dS.nd h] at b;have g:i<c.length:=by have:=(χ.1 b).1;simpa using this
 rw [ζ,gG g] at b;have j:EN x=ID (a.map cw.r) c f i:=(Option.some.inj b).symm;exact ⟨g,dc Nd.on j,dc Nd.it j⟩
theorem Mb (a:List AG) (b:Nat ->Bool) (k:Nat):BG a b (k+1)=BG a b k++if b k=true then [(a.getD k cv).id] else []:=by grind [BG,ea]
theorem XP (a:List AG) (b:Nat ->Bool) (k:Nat):(BG a b k).length<=k:=by grind [BG]
theorem rD (h:Am N=dD a c f):N.nd.length=c.length:=by grind [ψ,Am,dD]
theorem ZH (c:E9 h) (a:Ai h=0):ow (Bu h) (dC h):=by
 refine ⟨dh (DH h) c.i,λx b=>c.x x (HZ b),FZ a,λx b id g=>?_,MY a,λx b=>?_,?_⟩
 .have f:dC h=dA h.it:=ϖ a;have i:Sc (h.it.map AG.id) x=0:=Jd (JA a).2.2 _ (υ.2 ⟨x,HZ b,Z⟩)
  grind [Sc,JY,KD]
 .have f:x∈h.ro:=by
   grind [cd,Bu]
  exact KR (JA a).1 x f
 .unfold Bu;rw [ψ,(cd _).length_eq,eT,ψ];exact c.r
theorem Uc (p:dG) (hf:E9 p) (hE:Ai p=0):AM prog 28 [.d (CM p)] (.tup [.sl none ((BG (dC p) (Ia p).2 (dC p).length).map AF),.sl none ((Ia p).1.map bY),AF 0]):=by
 have G:=TL p hf hE;have g:=ZH hf hE;unfold Ia;rw [aS] at G
 obtain ⟨a,X⟩:∃a,dC p=a:=⟨_,Z⟩
 obtain ⟨b,S⟩:∃b,Bu p=b:=⟨_,Z⟩
 rw [X,S] at G g⊢;have hl:=g.l;refine Av func28 Z Z ntmps28 Z Z Z λF hF=>(AC (AE ?_));refine V (CQ 1 Z Z Z Z Z Z Z) (AB Z Z (AB Z Z (AB Z Z (AD (kf (AC (AE (J (B1 Z Z Bc Z Z Z) ?_))))))));refine CZ (WW G Z [40,50,51] ⟨Z,Z,Z,trivial⟩ Z Z Z Z (λr H' ⟨_,_,_,_,_,_,_,e1,e2,_⟩=>by subst e1 e2;exact ⟨Z,Z,Z⟩) Z) Z ?_;rintro _ ⟨r,H',⟨wb,mv,nb,pb,N,M,bs,rfl,rfl,A,s⟩,rfl⟩;refine cl Z Z (J (Ds Z Z Z) (J (Ds Z Z Z) (AB Z Z (AB Z Z (AD ?_)))));refine AC (AC (AE (cl Z Z (J (EO Z Z Z) (AD (EV Z (Z) (AZ (AC ?_))))))));have v:BJ N=a.map AG.id:=by rw [<-Gm,s,Nq]
 rw [v];refine AE (AB Z Z (AD (AC (kh (AC (A2 (O0 7 900 m6 Z Z Z Z (Bb (α:=(Nat ->Bool)×dS×MF×List KG×Nat) (λq=>⟨64,[(5,(.d (pD wb 0))),(7,(.own 900 0 q.2.2.2.1.length))],(900,[.rowD 148 9 (q.2.2.2.1.map bY)])::HW mv bs (Fb nb (a.map AG.id)) q.2.2.1⟩) (λq=>Bp wb mv nb pb q.2.1 q.2.2.1/\Am q.2.1=dD b a q.1/\Cq a.length q.1<=q.2.2.2.2/\q.2.2.2.1.length+q.2.2.2.2<=a.length/\q.2.2.2.1++(EY b a q.2.2.2.2 q.1).1=(EY b a a.length λ_=>true).1/\(EY b a q.2.2.2.2 q.1).2=(EY b a a.length λ_=>true).2) (λq=>q.2.2.2.2) ((λ_=>true,N,M,[],a.length)) (⟨A,s,by show ((List.range a.length).filter _).length<=_;exact dh (fx _ _) (by simp),by simp,Z,Z⟩) (A0 hF [900,40,50,51] Z Z ⟨Z,Z,trivial⟩) ?_))))))));rintro ⟨o,N,M,l,f⟩ ⟨A,s,hc,hal,u,t⟩;dsimp only at A s hc hal u t⊢;refine A2 (AC ?_);have K:=lz (N:=N) (by rw [s];exact s4 g o);have O:=o7 g s;have v:BJ N=a.map AG.id:=by rw [<-Gm,s,Nq]
 have W:=nE bs A K O;rw [v] at W;refine AE (cl Z Z (V (Eh W Z [40,50,51] ⟨Z,Z,Z,trivial⟩ Z Z Z Z Z Z Z Z Z) (cl Z Z ?_)))
 cases hne:CG N
 .refine J (Ds Z Z Z) (J (Ds Z Z Z) (V (CE 2 I4 Z Z Z Z) (V (Bk Z Z Z Z Z Z Z JF) (AB Z Z (AD ?_)))));refine AC (AC (AE (cl Z Z (J (CF Z Z) (AD (Dt Z (Z) (BL (AC ?_))))))));have hro:EY b a f o=([],o):=JN (by rw [<-s,SA,hne]);rw [hro] at u t;rw [en] at u;dsimp only at t;have hwb:=A.w;have D:Ax M N.nh Zm 1 ((List.range N.nd.length).map λi=>BC (nb i)):=A.rs.1 .n;have U:=TZ D;rw [eT] at U;have hNl:=rD s;refine AE (AB Z Z (AD (AC (AC (AE (cl Z Z ?_))))));refine J (Cy Z Z) (J (Bz Z IN Z Z Z) (J (EI (f:=40) Z Z (hwb) Z K5 Z) (J (Ut U Z S1 Z) (cl Z Z (AD (A2 (O0 10 901 BX Z Z Z Z (Bb (α:=Nat×List Int) (λq=>⟨64,[(7,(.own 900 0 l.length)),(10,(.own 901 0 q.2.length)),(43,(.d (dU N.nh N.nd.length))),(44,(.d (AF (N.nd.length:Int)))),(45,(.d (AF (q.1:Int))))],(901,[.rowD 3 1 (q.2.map AF)])::(900,[.rowD 148 9 (l.map bY)])::HW mv bs (Fb nb (a.map AG.id)) M⟩) (λq=>q.1<=N.nd.length/\q.2=BG a o q.1) (λq=>N.nd.length - q.1) ((0,[])) (⟨ϱ _,Z⟩) (A0 hF [901,900,40,50,51] Z Z ⟨Z,Z,Z,Z,Z,trivial⟩) ?_))))))));rintro ⟨k,B⟩ ⟨hk0,hI⟩;dsimp only at hk0 hI⊢;refine AC (AE (J (BW Z Z Z) (AD (AC (Ah Z (λI=>?_) (λI=>?_))))))
  .have z:k<N.nd.length:=Bi I;refine AZ (AC (A2 (AC ?_)))
   obtain ⟨x,C⟩:∃x,N.nd[k]? =some x:=⟨_,ω z⟩
   obtain ⟨w,c,E⟩:=MC s C;have L:=A.n k x C;obtain ⟨rb,rc,T⟩:=Tb D (j:=k) (by rw [eT];exact z);have R:=Qt D T;have hidl:B.length<=k:=by rw [hI];exact XP a o k
   refine AE (J (Ur T (k) Z Z Z z S1 RH Z) (J (km (f:=40) (e:=k) (off:=0) Z (by omega) Z (R) ((by rw [ζ,gG z];rfl)) Z UR Z) ?_));refine AB Z Z ?_;refine AD (AC (AE (cl Z Z (J (Cy Z Z) (J (Bz Z E5 Z Z Z) (J (EI (f:=40) Z Z (L) Z ms Z) (AD (KH Z (λH=>?_) (λH=>?_)))))))))
   .refine AE (cl Z Z (cl Z Z (J (Cy Z Z) (J (Bz Z F8 Z Z Z) (J (Bz Z Ny Z Z Z) ?_)))));refine J (EI (f:=40) Z Z (L) Z BE Z) (V (EH 3 BX Z Z Z Z Z Z Z Z) (V (Ic (B) ([x.it.id]) Z Z Z Z Z Z Z Z BX (by simp only [Φ];omega) Z Z Z Z) (AB Z Z (AD (AE (J (Aw Z Z (AQ (k+1) (by omega)) Z) (cl Z Z (AD ?_))))))));exact ⟨(k+1,_),⟨by show k+1<=_;omega,by show _=BG a o (k+1);rw [Mb,ϖ (by rw [<-c];simpa using H),<-hI,<-E]⟩,by show N.nd.length - (k+1)<N.nd.length - k;omega,A0 hF [901,900,40,50,51] Z (Z) ⟨Z,Z,Z,Z,Z,trivial⟩⟩
   .refine AZ (AE (J (Aw Z Z (AQ (k+1) (by omega)) Z) (cl Z Z (AD ?_))));exact ⟨(k+1,_),⟨by show k+1<=_;omega,by show _=BG a o (k+1);rw [Mb,η (by rw [<-c];simpa using H),en,<-hI]⟩,by show N.nd.length - (k+1)<N.nd.length - k;omega,A0 hF [901,900,40,50,51] Z (Z) ⟨Z,Z,Z,Z,Z,trivial⟩⟩
  .refine BL (AC ?_);have hke:k=a.length:=by have h:=I;omega
   refine L6 (emb:=bY) 7 900 l Z Z Z Z Z Z Z ?_;refine L6 (emb:=AF) 10 901 B Z Z Z Z Z Z Z (AE (cl Z Z (cl Z Z (AB Z Z (AB Z Z (AB Z Z (AD (A6 ?_))))))));exact ⟨_,[],[],A4 Z,Z,Z,by rw [<-t,<-u,hI,hke],Z⟩
 .refine J (Ds Z Z Z) (J (Ds Z Z Z) (V (CE 4 I4 Z Z Z Z) (V (Bk Z Z Z Z Z Z Z JF) (AB Z Z (AD ?_)))));refine AC (AC (AE (cl Z Z (J (CF Z Z) (AD (EV Z (Z) (AZ (AC ?_))))))))
  rename_i e
  obtain ⟨i,x,C,hon,hid⟩:=QJ hne;obtain ⟨w,c,E⟩:=MC s C;rw [hon] at c;have c:=c.symm;have Y:i<(a.map AG.id).length:=by rw [ψ];exact w
  have hei:(a.map AG.id)[i]=e.id:=by rw [hid,E,eP,DW cv w]
  have hby:=Qi (nb:=nb) g.i Y;rw [hei] at hby;have hcn:=Dj w c
  obtain ⟨f2,rfl⟩:∃f2,f=f2+1:=⟨f - 1,by omega⟩
  have Q:EY b a (f2+1) o=(e::(EY b a f2 (Af o i)).1,(EY b a f2 (Af o i)).2):=by rw [JM (by rw [<-s,SA,hne]),<-hei,GC g.i Y]
  have y:=ϑ C;have hrm:=Zc A C O (K.e x y) (K.l x y).1 (K.l x y).2.1 (λe he=>(K.p x y e he).2) K.m;refine Dr [[],[0],[0,1],[0,1,2],[],[4],rg 6,rg 7] mixed Z (E6 (At 5 Z Z (AX [28] Z (Cy Z Z) ?_)));refine AX [29] Z (Bz Z Lq Z Z Z) (By [30] [40] Z Z (λ_=>A9 (EI (f:=40) Z Z (A.w) Z V9 Z)) (AX [8] Z (A1 Z js Z Z Z) (By [32] [4] Z Z (λ_=>A9 (A5 Z Z Z BE Z)) (Dh 6 Z Z Z (An 7 Z Z (DJ 31 51 0 Z Z (J (HO (Fb nb (a.map AG.id)) e.id (.pointer none) (pV (nb i) 0) Z Z Z Vm HI iE hby Z) (AD ⟨Z,?_⟩))))))));refine An 8 Z Z ?_;refine CZ (WW hrm Z [40] ⟨Z,trivial⟩ Z Z Z Z (λr H' ⟨e1,M',e2,_⟩=>by subst e1 e2;exact ⟨Z,Z,Z⟩) Z) Z ?_;rintro _ ⟨r,H',⟨rfl,M2,rfl,hR2⟩,rfl⟩;refine AD ⟨Z,?_⟩;refine Dg (AE (cl Z Z (J (B1 Z Z lX Z Z Z) (V (EH 5 m6 Z Z Z Z Z Z Z Z) (V (Ic (l) ([e]) Z Z Z Z Z Z Z Z m6 (by simp only [Φ];omega) Z Z Z Z) (AB Z Z (AD ?_)))))));exact ⟨(Af o i,pf N i x,M2,l++ [e],f2),⟨hR2,rk g.r s w c C,by show Cq a.length (Af o i)<=f2;omega,by show (l++ [e]).length+f2<=_;rw [Ω];simp;omega,by show (l++ [e])++(EY b a f2 (Af o i)).1=_;rw [gn,<-u,Q];rfl,by show (EY b a f2 (Af o i)).2=_;rw [<-t,Q]⟩,by show f2<f2+1;omega,A0 hF [900,40,50,51] Z (Z) ⟨Z,Z,trivial⟩⟩
theorem ZV {g:Type} (f:g ->AO) {l m i:List g} (c:(l.map f).Nodup) (s:m.Perm l) (j:m.Pairwise λa b=>¬Ba (f b) (f a)<0) (o:i.Perm l) (t:i.Pairwise λa b=>¬Ba (f b) (f a)<0):i=m:=by
 have r:∀{k:List g},(k.map f).Nodup ->(k.Pairwise λa b=>¬Ba (f b) (f a)<0) ->k.Pairwise λa b=>Ba (f a) (f b)<0:=λ{k} c h=>by
  rw [List.Nodup,ep] at c;refine (h.and c).imp λ{a b} ⟨v,u⟩=>?_;have o:=Ly.anti (f a) (f b);have t:Ba (f a) (f b)≠0:=λe=>u (Cr.1 e);omega
 exact lx (R:=λa b=>Ba (f a) (f b)<0) (λx=>by rw [Ly.refl];omega) (λx y z=>Ly.trans _ _ _) (r ((o.map f).nodup_iff.2 c) t) (r ((s.map f).nodup_iff.2 c) j) λx=>by rw [o.mem_iff,s.mem_iff]
theorem Pr (f:List AO):(Gv f).Pairwise λa b=>¬Lw f b a<0:=by
 have:=List.pairwise_mergeSort (le:=λi j=>decide (Lw f i j<=0)) (λa b c k l=>?_) (λa b=>?_) (List.range f.length)
 .refine List.Pairwise.imp (λ{a b} h=>?_) this;have k:=(Pe f).anti a b
  grind
 .have o:Lw f a b<=0:=by simpa using k
  have g:Lw f b c<=0:=by simpa using l
  have:Lw f a c<=0:=by
   by_cases r:Lw f a b=0
   .rw [(Pe f).eqv a b c r];exact g
   .by_cases t:Lw f b c=0
    .have w:=(Pe f).anti b c;have s:=(Pe f).eqv c b a (by omega);have v:=(Pe f).anti a c;have u:=(Pe f).anti a b;omega
    .have:=(Pe f).trans a b c (by omega) (by omega);omega
  grind
 .have k:=(Pe f).anti a b
  grind
theorem Ec (p:dG):(Bu p).Perm p.ro:=by grind [Bu,cd,ψ,fh,DW]
theorem LE (p:dG):(Bu p).Pairwise λa b=>¬Ba b.r a.r<0:=by grind [Bu,List.Pairwise.imp_of_mem,Pr,cd,Lw]
theorem Wz (c:(h.ro.map cw.r).Nodup) (g:o.Perm h.ro) (f:o.Pairwise λa b=>¬Ba b.r a.r<0):o=Bu h:=by grind [ZV,Ec,LE]
theorem ZZ (c:Ai h=0) (g:o.Perm h.ro) (f:o.Pairwise λa b=>¬Ba b.r a.r<0):o=Bu h:=Wz (G3 c) g f
def dE (p:dG):List Int:=BG (dC p) (Ia p).2 (dC p).length
theorem G9 (p:dG) (b:E9 p) (c:Ai p=0):AM prog 11 [.d (CM p)] (.tup [.sl none ((dE p).map AF),AF 0]):=by
 have a:=Uc p b c;refine Av func11 Z Z ntmps11 Z Z Z λF f=>(AC (AE (V (CQ 1 Z Z Z Z Z Z Z) (AB Z Z (AB Z Z (AD (AC (AE ?_))))))));refine J (B1 Z Z Bc Z Z Z) (J (B5 (a) Z Z) (cl Z Z (J (Ds Z Z Z) (J (Ds Z Z Z) (J (Ds Z Z Z) (AB Z Z (AB Z Z (AB Z Z ?_))))))));refine AD (AC (AE (cl Z Z (cl Z Z (AB Z Z (AB Z Z (AD (A6 ?_))))))));exact ⟨_,[],[],A4 Z,Z,Z,Z,Z⟩
def GP (l:List Int) (x:Int):List Int:=l.filter λy=>decide (y≠x)
def EQ (its:List AG) (x:cw) (l:List Int):Int:=max x.n 0+((its.filter λi=>decide (i.id∈l)).map λi=>BU i x.r).sum
theorem bq (i:AG) (r:AO): -1000000000000000<=BU i r/\BU i r<=1000000000000000:=by
 unfold BU
 split
 .simp [*,Lx]
 .omega
def Nb (its:List AG) (l:List Int) (id:Int) (x:cw):Option KG:=if id∈dO its x.r then (((dO its x.r).takeWhile λa=>decide (a≠id)).find? λa=>decide (a∉l)).map λa=>⟨id,1,x.r,a⟩ else none
def Cf (p:dG) (l:List Int) (id:Int):Option KG:=match (Bu p).findSome? (Nb (dA p.it) l id) with
 | some e=>some e
 | none=>((dF p id).af.find? λa=>decide (a∉l)).map λa=>⟨id,2,Er,a⟩
theorem Pk {b:Type} {p:b ->Bool}:∀{l:List b} {m:Nat} (c:m<l.length),(∀a∈l.take m,p a=true) ->p l[m]=false ->l.takeWhile p=l.take m
 | a::l,0,_,_,h=>by simp at h;simp [h]
 | a::l,m+1,c,f,h=>by
  have j:p a=true:=f a (by simp);have g:=Pk (l:=l) (m:=m) (by simpa using c) (λx i=>f x (by simp [i])) (by simpa using h);rw [List.takeWhile_cons,j,List.take_succ_cons,<-g];rfl
def Ox (its its0:List AG) (l:List Int) (x:cw):Option KG:=if EQ its0 x l<0 then ((dO its x.r).reverse.find? λa=>decide (a∈l)).map λa=>⟨a,0,x.r,-1⟩ else none
def Mi (p:dG) (l:List Int):Option KG:=match l.findSome? (Cf p l) with
 | some e=>some e
 | none=>(Bu p).findSome? (Ox (dA p.it) p.it l)
theorem YI {id:Int} (b:Cf h u id=some k):k.id=id:=by
 unfold Cf at b
 split at b
 .rename_i g f
  injection b with b;subst b
  obtain ⟨x,_,c⟩:=List.exists_of_findSome?_eq_some f;unfold Nb at c
  split at c
  .obtain ⟨a,_,rfl⟩:=Option.map_eq_some_iff.1 c;rfl
  .cases c
 .obtain ⟨a,_,rfl⟩:=Option.map_eq_some_iff.1 b;rfl
theorem FC {b:Type} {p q:b ->Bool}:∀{l:List b},(∀x∈l,p x=q x) ->l.find? p=l.find? q
 | [],_=>rfl
 | a::l,h=>by
  rw [List.find?_cons,List.find?_cons,h a (eI ..),FC λx c=>h x (er _ c)]
theorem Je {b c:Type} {f g:b ->Option c}:∀{l:List b},(∀x∈l,f x=g x) ->l.findSome? f=l.findSome? g
 | [],_=>rfl
 | a::l,h=>by
  rw [lD,lD,h a (eI ..),Je λx i=>h x (er _ i)]
theorem Kl {b g:Type} {f:b ->Option g} {p:b ->Bool}:∀{l:List b},(∀x∈l,p x=false ->f x=none) ->(l.filter p).findSome? f=l.findSome? f
 | [],_=>rfl
 | a::l,h=>by
  have c:=Kl (f:=f) (p:=p) (l:=l) λx i=>h x (er _ i);rw [fY]
  cases hp:p a with
  | true=>rw [ϖ Z,lD,lD,c]
  | false=>rw [η (by simp),c,lD,h a (eI ..) hp]
theorem LO {c b f:Type} {g:c ->b} {p:b ->Bool} {h:b ->f}:∀{l:List c},((l.map g).find? p).map h=l.findSome? λx=>if p (g x)=true then some (h (g x)) else none
 | []=>rfl
 | a::l=>by
  rw [dz,List.find?_cons,lD]
  cases hp:p (g a) with
  | true=>rw [ϖ rfl];rfl
  | false=>rw [η (by simp),<-LO (l:=l)]
theorem Qj {x:AG} (h:Ak x=0) (b:Bj j=0):Cs (ct x) j=BU x j:=by
 have a:ct x=Ks (dq x):=ϖ h;have c:BU x j=Ab (dq x) j:=ϖ ⟨h,b⟩;rw [a,c]
 by_cases f:Ab (dq x) j=0
 .grind [DO,GJ,Dv]
 .refine cc (by rw [<-a];exact YW x) ?_
  grind [GJ,Dv,F9]
theorem OE {l:List cw} (h:CY l=0):∀x∈l,Bj x.r=0:=λx b=>by
 have f:=Pc.1 h;obtain ⟨j,a,rfl⟩:=eQ b;have:=f j (Γ.2 a);unfold L1 at this;rw [DW HD a] at this
 split at this
 .contradiction
 .rename_i c
  exact Classical.byContradiction λh=>c h
theorem OO {l:List AG} (h:Db l=0):∀x∈l,Ak x=0:=λx b=>by
 have f:=Pc.1 h;obtain ⟨j,a,rfl⟩:=eQ b;have:=f j (Γ.2 a);unfold Mw at this;rw [DW cv a] at this
 split at this
 .contradiction
 .rename_i c
  exact Classical.byContradiction λh=>c h
theorem Zd (a:∀x∈c,Ak x=0) (b:Bj j=0):dO c j=(dH (c.map ct) j).map λi=>(c.getD i cv).id:=by
 unfold dO dH
 have e:c=(List.range c.length).map λi=>c.getD i cv:=by
  apply fh (by simp)
  grind
 conv=>lhs;rw [e]
 rw [List.filter_map,dl,ψ]
 congr 1
 grind [fZ,Qj]
theorem K4 (g:(c.map AG.id).Nodup) (b:Nat ->Bool) (f:i<c.length):(c.getD i cv).id∈BG c b c.length↔b i=true:=by
 unfold BG;rw [υ]
 constructor
 .rintro ⟨j,h,e⟩;obtain ⟨l,o⟩:=Ψ.1 h;have a:=Γ.1 l;rw [DW cv f,DW cv a] at e
  have:j=i:=by
   have k:(c.map AG.id)[j]'(by simpa using a)=(c.map AG.id)[i]'(by simpa using f):=by
    grind
   exact (List.getElem_inj g).1 k
  grind
 grind
theorem rv {m:List Int} (h:u.Perm m):u.sum=m.sum:=by
 induction h with
 | nil=>rfl
 | cons x _ a=>rw [eW,eW,a]
 | swap x y u=>simp only [eW];omega
 | trans _ _ c b=>rw [c,b]
theorem VK {b:Type} {p:b ->Bool} {f:b ->Int}:∀{l:List b},((l.filter p).map f).sum=(l.map λi=>if p i=true then f i else 0).sum
 | []=>rfl
 | a::l=>by
  rw [fY,dz,eW,<-VK (l:=l)]
  cases hp:p a with
  | true=>rw [ϖ Z,ϖ Z,dz,eW]
  | false=>rw [η (by simp),η (by simp),Int.zero_add]
theorem Qn (h:i<c.length):(dD a c f).nd.getD i Bg=ID (a.map cw.r) c f i:=by
 show ((List.range c.length).map _).getD i Bg=_
 grind
theorem Lh (h:i∈dH g j):i<g.length:=Γ.1 (Ψ.1 h).1
theorem IH (a:List AG):a=(List.range a.length).map λi=>a.getD i cv:=by
 apply fh (by simp)
 grind
structure gJ (p:dG) (ros:List cw) (its:List AG):Prop where
 e:Ai p=0
 f:E9 p
 s:ow ros its
 hr:Bu p=ros
 hi:dA p.it=its
 v:∀x∈its,Ak x=0
 w:∀x∈ros,Bj x.r=0
 up:ros.Pairwise λa b=>Ba a.r b.r<0
theorem Ze (c:Ai h=0) (j:E9 h):gJ h (Bu h) (dA h.it):=by
 have k:dC h=dA h.it:=ϖ c;have g:=ZH j c;rw [k] at g;refine ⟨c,j,g,Z,Z,λx f=>OO (JA c).2.1 x ((KD h.it).mem_iff.1 f),λx f=>OE (JA c).1 x ((Ec h).mem_iff.1 f),?_⟩;have i:=g.r;rw [List.Nodup,ep] at i;refine ((LE h).and i).imp λ{a b} ⟨r,l⟩=>?_;have k:=Ly.anti a.r b.r;have o:Ba a.r b.r≠0:=λe=>l (Cr.1 e);omega
theorem Rk (b:gJ h a c) (j:Nat ->Bool) (s:y∈a):EQ h.it y (BG c j c.length)=max y.n 0+DU (c.map ct) j y.r:=by
 unfold EQ
 congr 1
 have u:h.it.Perm c:=by rw [<-b.hi];exact (KD h.it).symm
 rw [rv ((u.filter _).map _)]
 obtain ⟨l,r⟩:∃l,BG c j c.length=l:=⟨_,Z⟩
 rw [r]
 have e:((c.filter λi=>decide (i.id∈l)).map λi=>BU i y.r).sum=((List.range c.length).map λi=>if decide ((c.getD i cv).id∈l)=true then BU (c.getD i cv) y.r else 0).sum:=by
  conv=>lhs;rw [IH c]
  rw [List.filter_map,dl,VK];rfl
 have k:(c.map ct).length=c.length:=by simp
 rw [e];unfold DU;rw [k]
 congr 1
 refine eE λi v=>?_;have f:=Γ.1 v;have g:=K4 b.s.i j f;rw [r] at g;have t:=Qj (b.v (c.getD i cv) (by rw [DW cv f];exact θ f)) (b.w y s);have w:(c.map ct).getD i []=ct (c.getD i cv):=by rw [DW [] (by simpa using f),DW cv f,eP]
 rw [w,t]
 by_cases o:j i=true
 .rw [ϖ o,ϖ (dm (g.2 o))]
 .rw [η o,η (by simpa using λb=>o (g.1 b))]
theorem jC (b:gJ h a c) (g:Nat ->Bool) (o:y∈a):Ox c h.it (BG c g c.length) y=T6 (dD a c g) (Zl (c.map ct) g y):=by
 unfold Ox T6;rw [Rk b g o]
 have k:(OH (Zl (c.map ct) g y) (Zl (c.map ct) g y).sum=true)↔max y.n 0+DU (c.map ct) g y.r<0:=by
  unfold OH cZ Zl;rw [fI];dsimp only;have:(0:Int)<=max y.n 0:=Int.le_max_right _ _;omega
 by_cases l:max y.n 0+DU (c.map ct) g y.r<0
 .rw [ϖ l,ϖ (k.2 l),Zd b.v (b.w y o),<-List.map_reverse,List.find?_map];show Option.map _ (Option.map _ _)=Option.map _ ((dH (c.map ct) y.r).reverse.find? _)
  have e:(dH (c.map ct) y.r).reverse.find? ((λf=>decide (f∈BG c g c.length))∘λi=>(c.getD i cv).id)=(dH (c.map ct) y.r).reverse.find? (eB (dD a c g)):=FC λi r=>by
   have j:=Lh (List.mem_reverse.1 r);rw [ψ] at j;show decide ((c.getD i cv).id∈_)=eB _ i;unfold eB;rw [Qn j];show _=g i;have:=K4 b.s.i g j
   cases ho:g i with
   | true=>exact dm (this.2 ho)
   | false=>exact dw λb=>by rw [this.1 b] at ho;cases ho
  rw [e]
  cases hf:(dH (c.map ct) y.r).reverse.find? (eB (dD a c g)) with
  | none=>rfl
  | some i=>
   have j:=Lh (List.mem_reverse.1 (List.mem_of_find?_eq_some hf));rw [ψ] at j;show some _=some _
   congr 1
   have s:(dD a c g).nd.getD i Bg=ID (a.map cw.r) c g i:=Qn j;show KG.mk (c.getD i cv).id 0 y.r (-1)=KG.mk ((dD a c g).nd.getD i Bg).it.id 0 y.r (-1);rw [s];rfl
 .rw [η l,η λb=>l (k.1 b)]
end Go.Proofs.YtnkkaeblokdifaaGreat
