import Derived.Test.YteifpcnphnhaoaaGreatMg22
import Derived.Shelf.SlSortCmp.Whole1
open Go.Proofs.Tryz
namespace Go.Proofs.YteifpcnphnhaoaaGreat
open Go.RowKit Go.Shelf
open Go.Sort (putRow Holds PermIn SortedIn SWO mapBlock onCells putCells)
variable {P:Program}
section
variable {ρr:Ren} {τ:Type}
variable {a:Option (Nat×Bool)} {c:Array TypeId} {d:Array Edge} {e:Type} {f:e ->Value} {g:Array Obj} {h:Array e} {i:String} {j:TypeId} {w:World} {k:FuncId} {m:AV} {n:Nat} {s:AS} {F:Fr} {o:Nat}
theorem Zcn [Inhabited e] {c m:Nat} {a:Nat} (i:a≠o) (d:a<w.heap.size):(sortWorld f w o c m h g).heap[a]? =w.heap[a]?:=by
 unfold sortWorld;rw [Go.Sort.heap_grow_old _ _ (by rw [Go.Sort.size_putRow];exact d)];show (w.heap.modify o _)[a]? =_
 grind
theorem H5 [Inhabited e] {a m:Nat}:w.heap.size<=(sortWorld f w o a m h g).heap.size:=by simp [*,sortWorld]
theorem bc (L:SlLaysF.n6 P ρr) {E:TypeId} {g g6:FuncId} {fn:Func} (hfn:P.funcs[g]? =some fn) (hnm:(fn.name== "runtime.NumGoroutine")=false) {c:Code} (hbody:fn.body=some c)
  {t:τ ->Nat} {Y:τ ->List D} {tx:τ ->TypeId} (cf:τ ->τ ->Int) (hO:SWO (ltOf cf)) (k A:List τ) (hsz:k.length<4611686018427387904) (hc:∀x∈k,∀y∈k,AM P g [.d (.ptr (.agg (Y x))),.d (.ptr (.agg (Y y)))] (.raw (.int .i64 (cf x y))))
  (hu:∀ys:List τ,ys.Perm k ->ys.Pairwise (λa b=>¬cf b a<0) ->ys=A)
  {F:Fr} {s:AS} {d:Nat} {x y:Operand} {ty:TypeId} {pos:String} {aft:Array Edge} {gd:Option (Nat×Bool)} {at_:Array TypeId} {f b r n:Nat} {M:MF} {fa:AV} {row:List D} {hp':Hp}
  (hg:ρr.f 6=g6) (hM:hfam s.hp f=some [.multi M]) (hpx:∀x∈k,M (t x)=some (.cells (tx x) (Y x))) (h1x:∀x∈k,∀c∈Y x,c.one=true) (hx:s.ev x=some (.d (.raw (sV b n r)))) (hy:s.ev y=some fa) (hfa:∀w O U v,A9 w O U fa v ->v= .func (.func g) #[] #[]) (hb:M b=some (.row E 1 r row)) (K:row=k.map λx=>pD (t x) 0) (hn:n=k.length) (hxs:k≠ []) (hh:Bp s.hp f (B6 M b (.row E 1 r (A.map λx=>pD (t x) 0)))=some hp') (hd:Nat.blt d s.n=true):
  AG P F ⟨some d,.call {callee:= .value (.func g6),args:= #[x,y],argTypes:=at_},ty,pos,aft,gd⟩ s ⟨s.n,(d,.d (.tup []))::s.env,hp'⟩ (λ_ _=>true):=by
 subst hg K hn;intro U T w hs
 obtain ⟨fn6,hf1,hf2,hf3⟩:∃fn,P.funcs[ρr.f 6]? =some fn/\(fn.name== "runtime.NumGoroutine")=false/\fn.body.isSome=true:=by
  obtain ⟨nm,hn,hf⟩:=L.f6;exact ⟨_,hf,hn,Z⟩
 unfold Oper.wp;rw [show (#[x,y]:Array Operand)=[x,y].toArray from rfl,DJ hf1 hf2 hf3,Oper.upon_enter]
 suffices Q:Calls P (ρr.f 6) ([x,y].map T.eval).toArray w λe w'=>e= .returned (.tuple #[])/\SR F ⟨s.n,s.env,hp'⟩ U T w' by
  refine Q.mono λe w' ⟨C,hsr⟩=>?_;subst C;exact ⟨U,hsr.put (IS hd) (.d (.tup Z λi c v hc=>nomatch hc)),λ_ _ _=>rfl⟩
 have r0:=hs.raw hx;have r1:=hfa _ _ _ _ (hs.ev hy);have h3:=hs.heap
 have hO0:BK U s.hp b:=⟨f,b,_,by rw [Gj hM,hb];rfl,by rw [(hs.rowN hM hb).1];rfl⟩
 obtain ⟨hρ,us,q1,q2,q3⟩:=hs.rowN hM hb;show Calls P (ρr.f 6) #[T.eval x,T.eval y] w _;rw [r1,r0];have hn:0<k.length:=χa.2 hxs
 have hus:us=k.map λx=>pV (t x) 0:=by
  apply χn
  intro i;rw [ν]
  by_cases B:i<k.length
  .rw [ω B];obtain ⟨u,h1,h2,h4⟩:=q2.2.2 i (pD (t k[i]) 0) (by rw [ν,ω B];rfl) 0 (pD (t k[i]) 0) rfl;rw [χs,ψx] at h1;rw [h1]
   cases h4 with
   | raw _=>rfl
  .have:us.length=k.length:=by have:=q2.1;rwa [χ,χs] at this
   rw [ψm (by omega),ψm (by omega)];rfl
 obtain ⟨p,p1,p2,p3,p3',p4⟩:∃p,w.heap[b]? =some (.cells p E (0,0))/\p.size=r/\k.length<=r/\r<=maxLen/\p.toList.take k.length=us:=by
  rcases q1.2 with ⟨_,h⟩ | ⟨J,cap',p,C,_,S,e3,e4,e5,e6⟩
  .rw [χ] at h;omega
  .rw [χ] at C;injection C with C e7 e8
   injection C with C
   injection C with C
   subst C e8;rw [χ] at e3 e6;exact ⟨p,S,by omega,e3,e4,by rwa [χs] at e6⟩
 rw [χ] at*;have hlt:b<w.heap.size:=(ωn.1 p1).1;have hOb:F.O U s.hp b:= .inr hO0;have hOl:∀J,F.O U s.hp J ->J<w.heap.size:=λJ h=>h3.ltO h
 let x0:τ:=k[0]
 let ix:Nat ->Nat:=λi=>if i<k.length then i else 0
 let el:Nat ->τ:=λi=>(k[ix i]?).getD x0
 have N:∀i,el i∈k:=λi=>by
  have hix:ix i<k.length:=by show (if _ then _ else _)<_;split<;>omega
  show (k[ix i]?).getD x0∈k;rw [ω hix];exact ϑ hix
 have W:∀i (B:i<k.length),el i=k[i]:=λi B=>by
  show (k[ix i]?).getD x0=_;rw [show ix i=i from ς B,ω B];rfl
 let o:Nat ->Value:=λi=>pV (t (el i)) 0
 let cf':Nat ->Nat ->Int:=λi j=>cf (el i) (el j)
 have hO':SWO (ltOf cf'):=⟨λx=>hO.irrefl (el x),λx y z=>hO.trans (el x) (el y) (el z),λx y z=>hO.ntrans (el x) (el y) (el z)⟩
 have henc1:OneCell o:=λ_=>rfl;have hd0:∀i,i<k.length ->(Array.range k.length)[i]! =i:=λi B=>by rw [getElem!_pos _ i (by simpa using B)];simp
 have hcu:∀i (B:i<k.length),p[i]? =some (pV (t k[i]) 0):=λi B=>by
  have:us[i]? =p.toList[i]?:=by rw [<-p4,ψn B]
  rw [hus,ν,ω B] at this;rw [<-ψd];exact this.symm
 have hH:Holds o w b 0 (Array.range k.length):=by
  intro j I;simp only [χu] at I;rw [hd0 _ I];refine ⟨?_,?_⟩
  .simp only [World.cell?,p1,ψu];rw [hcu j I];show _=some (pV (t (el j)) 0);rw [W j I];rfl
  .simp only [World.frozen?,p1]
   simp
 have hcmp:CmpLays1 P g #[] o cf' b 0 (Array.range k.length).size w:=by
  intro m os dk _ x y;have hWs:w.heap.size<=(sortWorld o w b 0 m dk os).heap.size:=H5
  let O':Nat ->Prop:=λJ=>F.O U s.hp J/\J≠t (el x)/\J≠t (el y)
  have hne:∀i,t (el i)≠b:=λi e=>by
   have:=hpx _ (N i);rw [e,hb] at this;cases this
  have V:∀i,i=x\/i=y ->A1 (sortWorld o w b 0 m dk os) O' (.ptr (.agg (Y (el i)))) (pV (t (el i)) 0):=λi B=>by
   obtain ⟨_,vs,c1,c2,c3,c4⟩:=hs.cellsN hM (hpx _ (N i));have hl:t (el i)<w.heap.size:=(ωn.1 c1).1
   have hOn:¬O' (t (el i)):=λh=>by
    rcases B with e | e
    .exact h.2.1 (by rw [e])
    .exact h.2.2 (by rw [e])
   show A1 _ _ (.ptr (.agg (Y (el i)))) (.pointer (some ⟨t (el i),0,none⟩));refine A1.ptr (x:= .agg (Y (el i))) (λj=>vs.getD j undef) (ψf hl hWs) hOn (h1x _ (N i)) (λj c I=>?_) λj c I=>?_
   .have hj':j<vs.length:=by rw [c2];exact (φ.1 I).1
    simp only [World.cell?,Zcn (hne i) hl,c1,ψu]
    simp [hj']
   .have hj':j<vs.length:=by rw [c2];exact (φ.1 I).1
    have H:vs[j]? =some vs[j]:=ω hj';have:vs.getD j undef=vs[j]:=by rw [Φ,H];rfl
    rw [this];exact (c3 j c _ I H).mono hWs (λJ hl hno=>Zcn (λe=>hno (e▸hOb)) hl) (λ_ _ h=>h.1)
  refine (Rn (hc (el x) (N x) (el y) (N y)) (w:=sortWorld o w b 0 m dk os) (O:=O') (λJ h=>ψf (hOl J h.1) hWs) (vs:=[pV (t (el x)) 0,pV (t (el y)) 0]) Z (λi a v R H=>?_)).mono λe w' ⟨v,C,S,e3,e4,e5⟩=>⟨?_,PO e3 e4 e5⟩
  .match i,R,H with
   | 0,R,H=>injection R with R;injection H with H;subst R H;exact .d (V x (.inl Z))
   | 1,R,H=>injection R with R;injection H with H;subst R H;exact .d (V y (.inr Z))
  .cases S with
   | raw _=>exact C
 have eg:∀args w,(callFunc g args).run P w= .ok (.enter g args) w:=enters_of hfn hnm hbody;have Q:=Any.slices_SortFunc L o henc1 cf' hO' g #[] b 0 r (Array.range k.length) w eg hcmp hH hlt (by simpa using hsz);rw [χu] at Q;refine Q.mono λe w' ⟨C,X,n,os,hp,hsort,hw⟩=>?_;subst C hw;obtain ⟨s1,_,s3⟩:=hp;rw [χu] at s1
 have hperm:X.toList.Perm (List.range k.length):=by
  have C:X.extract 0 k.length=X:=by rw [<-s1];exact Array.extract_size
  have S:(Array.range k.length).extract 0 k.length=Array.range k.length:=by
   conv=>lhs;arg 3;rw [<-χu (n:=k.length)]
   exact Array.extract_size
  rw [C,S] at s3
  simpa using s3
 refine ⟨Z,?_⟩
 have hys:X.toList.map el=A:=by
  apply hu
  .refine (hperm.map el).trans (List.Perm.of_eq ?_)
   apply ψk (by simp)
   intro i h5 h6;simp only [ωp,φc];exact W i h6
  .rw [ωk];intro i j B I hij;simp only [χ,χb] at B I;have:=hsort i j (ζ _) hij (by omega);rw [getElem!_pos _ j I,getElem!_pos _ i B] at this;simp only [ltOf,decide_eq_false_iff_not] at this
   simpa using this
 have hlen':A.length=k.length:=by rw [<-hys];simp [s1]
 -- the world: first what lies in the row, then the new blocks
 have hheap:(sortWorld o w b 0 n X os).heap[b]? =some (.cells (putCells o 0 X p) E (0,0)):=by
  unfold sortWorld;rw [Go.Sort.heap_grow_old _ _ (by rw [Go.Sort.size_putRow];exact hlt)];show (w.heap.modify b _)[b]? =_;rw [ψy,ς Z,p1];rfl
 refine hs.writeG f b (.nr b E 1 r (k.map λx=>pD (t x) 0)) (.nr b E 1 r (A.map λx=>pD (t x) 0)) (by rw [Gj hM,hb];rfl) (λg i=>?_) Z Z Z H5 (Nat.le_add_right _ _) (λJ hl hno=>Zcn (λe=>hno (by rw [e,hρ];rfl)) hl) (λ_ _ e=>nomatch e) λhrep=>?_
 .rw [DZ hh]
  by_cases e:g=f
  .subst e;rw [ς Z,Gj hM]
   by_cases S:i=b
   .subst S;rw [ς ⟨Z,Z⟩,GF];rfl
   .rw [η (λh=>S h.2),IB S]
  .rw [η e,η (λh=>e h.1)]
 have hcs:(putCells o 0 X p).size=r:=by simp only [putCells,Array.size_mapIdx];omega
 have K:(putCells o 0 X p).toList.take A.length=A.map λx=>pV (t x) 0:=by
  apply χn
  intro i
  by_cases B:i<k.length
  .rw [ψn (by omega),ν,<-hys,ν,ψd,ψd,ωg (by omega),ωg (by omega)];simp only [putCells,Array.getElem_mapIdx,ψl];rw [ς ⟨ζ _,by omega⟩];simp only [Nat.sub_zero];rw [getElem!_pos _ i (by omega)]
  .rw [ψm (by rw [ϱ];omega),ψm (by rw [χ];omega)]
 refine ⟨hρ,A.map λx=>pV (t x) 0,⟨by simp,.inr ⟨b,r,_,by simp only [χ],ζ _,hheap,by rw [χ,hlen'];exact p3,p3',by rw [hcs];omega,by rw [χ,χs,K]⟩⟩,⟨by simp,λx l=>?_,λi x l j c G=>?_⟩,λx l c G=>?_⟩
 .obtain ⟨y,_,rfl⟩:=Ξ.1 l;rfl
 .rw [ν] at l
  cases hdi:A[i]? with
  | none=>rw [hdi] at l;cases l
  | some q=>
   rw [hdi] at l;injection l with l;subst l
   match j,G with
   | 0,G=>
    injection G with G;subst G
    exact ⟨pV (t q) 0,by rw [χs,ψx,ν,hdi];rfl,Z,.raw Z⟩
 .obtain ⟨y,_,rfl⟩:=Ξ.1 l
  cases G with
  | head=>rfl
  | tail _ h=>cases h
theorem ZC (L:SlLaysF.n6 P ρr) {x y:Operand}
  (A:ρr.f 6=k) (u:s.ev x=some (.d (.raw (.slice none 0 0)))) (K:s.ev y=some m) (C:Nat.blt n s.n=true):
  AG P F ⟨some n,.call {callee:= .value (.func k),args:= #[x,y],argTypes:=c},j,i,d,a⟩ s ⟨s.n,(n,.d (.tup []))::s.env,s.hp⟩ (λ_ _=>true):=by
 subst A;intro r g w q
 obtain ⟨E,o,l,h⟩:∃p,P.funcs[ρr.f 6]? =some p/\(p.name== "runtime.NumGoroutine")=false/\p.body.isSome=true:=by
  obtain ⟨J,z,B⟩:=L.f6;exact ⟨_,B,z,Z⟩
 unfold Oper.wp;rw [show (#[x,y]:Array Operand)=[x,y].toArray from rfl,DJ o l h,Oper.upon_enter];have t:=q.raw u;show Calls P (ρr.f 6) #[g.eval x,g.eval y] w _;rw [t];refine (AnyF.slices_SortFunc_none {L with} none 0 _ w).mono λe I ⟨H,G⟩=>?_;subst H G;exact ⟨r,q.put (IS C) (.d (.tup Z λb f v D=>nomatch D)),λ_ _ _=>rfl⟩
end
end Go.Proofs.YteifpcnphnhaoaaGreat
namespace Go.Proofs.YteifpcnphnhaoaaGreat
open Go.RowKit Go.Shelf
variable {M:MF} {f a c:Nat ->Nat} {N:Net} {d:Nat} {e:Type} {g h i k:Nat} {t:TypeId} {j:Nat} {m:Ap}
set_option maxRecDepth 100000 in
theorem cmpPo_p (x y:Po):AM prog 142 [.d (.ptr (.agg (poC x))),.d (.ptr (.agg (poC y)))] (AF (Bm x.r y.r)):=by
 refine Ax func142 Z Z ntmps142 Z Z Z λF a=>(AD ?_);refine AE (AB Z Z (AC (AD (CD [[],[0],[0,1],[0,1,2],[],[4],[4,5],[4,5,6],rg 8,rg 9] mixed Z (Bt (Ak 0 Z Z (AP [5] Z (K6 Z Z) (AP [6] Z (V3 Z Nu Z Z Z) ?_))))))));refine AP [7] Z (Ca Z Z Cc Z) (Ak 1 Z Z (AP [9] Z (K6 Z Z) (AP [10] Z (V3 Z Nu Z Z Z) (AP [11] Z (Ca Z Z Cc Z) (Bk 8 Z Z Z (Ab 9 Z Z (J (Aw (Mh x.r y.r) Z Z) (AC ⟨Z,?_⟩))))))));refine Ab 10 Z Z (AB Z Z (AC ⟨Z,?_⟩));refine Bx (AZ ?_);exact ⟨_,[],[],AY Z,Z,Z,Z,Z⟩
theorem HE {a:Ap} (b:M g=none) (h:M j=some a):B6 M g m j=some a:=by grind [IB]
theorem Mw (d:M g=none) {h:Hd} {b:List D} (a:B2 M h t k b):B2 (B6 M g m) h t k b:=by
 match h,a with
 | none,a=>exact a
 | some (e,c),a=>exact ⟨a.1,HE d a.2⟩
theorem C3.fresh (d:C3 h i a c N M) {m:Ap} (e:M g=none):C3 h i a c N (B6 M g m):=
 ⟨λb x k=>HE e (d.n b x k),λj y f=>HE e (d.p j y f),⟨λr=>Mw e (d.rs.1 r),d.rs.2⟩,HE e d.w,d.ni,d.pi,d.e,d.q⟩
def Nx (f:Nat ->Nat) (k b:Nat):Nat ->Nat:=λj=>if j=k then b else f j
theorem D1 {j:Nat} (h:j<k):Nx f k d j=f j:=η (by omega)
theorem Ge:Nx f k d k=d:=ς rfl
theorem Qf:(List.range (k+1)).map (λj=>B3 (Nx f k d j))=(List.range k).map (λj=>B3 (f j))++ [B3 d]:=by grind [ωy,Ge,ωe,D1]
abbrev Zd (nh:Hd) (a:Nat) (mh:Hd) (c mv:Nat):Ap:= .cells 180 [hdr nh a,hdr mh c,MD (.map (some mv))]
theorem C3.keepM (e:C3 h i a c N M) (n:Bj M N.mh d=none) {v:Ap} {k:List D} (g:M j=some (.cells t k)):B6 (Bj M N.mh) d v j=some (.cells t k):=
 Go.Proofs.YteifpcnphnhaoaaGreat.keepM n g λf l=>by have:=e.rs.blk (r:= .m) l;rw [g] at this;cases this
theorem M0 (l:List e) (y d:e) (j:Nat):(l++ [y]).getD j d=if j=l.length then y else l.getD j d:=by grind
theorem getD_mem {l:List e} {d:e} (i:Nat):l.getD i d∈l\/l.getD i d=d:=by grind
theorem snoc_get {l:List e} {y z:e} {i:Nat} (h:(l++ [y])[i]? =some z):(i<l.length/\l[i]? =some z)\/(i=l.length/\z=y):=by grind
theorem C3.addM {A B:Nat} {o a:Nat ->Nat} {N:Net} {M:MF} (h:C3 A B o a N M) {y:Po} (Q:y.q=[]) (C:y.qh=none) {bn:Nat} (X:M bn=some (V7 y)) (w:∀j,j<N.po.length ->a j≠bn) {b cap:Nat} (I:Bj M N.mh b=none) (T:N.po.length+1<=cap):
  C3 A B o (Nx a N.po.length bn) {N with po:=N.po++ [y],mh:=some (b,cap)} (B6 (B6 (Bj M N.mh) b (.row X4 1 cap ((List.range N.po.length).map (λj=>B3 (a j))++ [B3 bn]))) A (Zd N.nh N.nd.length (some (b,cap)) (N.po.length+1) B)):=by
 have H:∀i,((N.nd.getD i CT).ef.map (et (Nx a N.po.length bn)))=(N.nd.getD i CT).ef.map (et a):=λi=>ωe λe f=>by
  rcases getD_mem (l:=N.nd) (d:=CT) i with c | c
  .show D.agg [pD (Nx a N.po.length bn e.1) 0,_]=_;rw [D1 ((h.e _ c).1 e f)]
  .rw [c] at f;cases f
 have F:∀i,((N.nd.getD i CT).pl.map (plD (Nx a N.po.length bn)))=(N.nd.getD i CT).pl.map (plD a):=λi=>ωe λe f=>by
  rcases getD_mem (l:=N.nd) (d:=CT) i with c | c
  .show D.agg [pD (Nx a N.po.length bn e.1) 0,_]=_;rw [D1 ((h.e _ c).2 e f)]
  .rw [c] at f;cases f
 have W:∀r,r≠RI.m ->Ch o (Nx a N.po.length bn) {N with po:=N.po++ [y],mh:=some (b,cap)} r=Ch o a N r:=λr S=>by
  cases r with
  | e i=>show (⟨_,_,_,(N.nd.getD i CT).ef.map _⟩:RowM)=_;rw [H];rfl
  | p i=>show (⟨_,_,_,(N.nd.getD i CT).pl.map _⟩:RowM)=_;rw [F];rfl
  | n=>rfl
  | m=>exact absurd Z S
  | q j=>
   show (⟨((N.po++ [y]).getD j Co).qh,_,_,((N.po++ [y]).getD j Co).q.map _⟩:RowM)=⟨(N.po.getD j Co).qh,_,_,(N.po.getD j Co).q.map _⟩
   rw [M0]
   split
   .rename_i e
    rw [Q,C,Φ,ψm (by omega)];rfl
   .rfl
 have s:=h.rs.upd (R':=Ch o (Nx a N.po.length bn) {N with po:=N.po++ [y],mh:=some (b,cap)}) .m W (b:=b) (cap:=cap) I Z (by
  show ((List.range (N.po++ [y]).length).map _).length<=cap
  simp;exact T)
 have u:(Ch o (Nx a N.po.length bn) {N with po:=N.po++ [y],mh:=some (b,cap)} .m).xs=(List.range N.po.length).map (λj=>B3 (a j))++ [B3 bn]:=by
  show (List.range (N.po++ [y]).length).map _=_;rw [Δ,υ,Qf]
 rw [u] at s
 have v:∀(O:Nat) (t:TypeId) (L:List D),t≠180 ->M O=some (.cells t L) ->B6 (B6 (Bj M N.mh) b (.row X4 1 cap ((List.range N.po.length).map (λj=>B3 (a j))++ [B3 bn]))) A (Zd N.nh N.nd.length (some (b,cap)) (N.po.length+1) B) O=some (.cells t L):=λO t L R c=>by
  rw [IB]
  .exact h.keepM I c
  .rintro rfl;rw [h.w] at c;injection c with c;injection c with c;exact R c.symm
 refine ⟨λi x E=>v _ _ _ (by decide) (h.n i x E),λi z g=>?_,s.cells (h.keepM I h.w),?_,h.ni,λi k G v e=>?_,λx E=>?_,λz g=>?_⟩
 .rcases snoc_get g with ⟨K,J⟩ | ⟨K,J⟩
  .rw [D1 K];exact v _ _ _ (by decide) (h.p i z J)
  .subst K J;rw [Ge];exact v _ _ _ (by decide) X
 .rw [GF];show _=some (Ap.cells _ [_,hdr _ (N.po++ [y]).length,_]);rw [Δ];rfl
 .have V:i<N.po.length+1:=by simpa using G
  have U:k<N.po.length+1:=by simpa using v
  by_cases e1:i=N.po.length<;>by_cases Y:k=N.po.length
  .omega
  .subst e1;rw [Ge,D1 (by omega)] at e;exact absurd e.symm (w k (by omega))
  .subst Y;rw [Ge,D1 (by omega)] at e;exact absurd e (w i (by omega))
  .rw [D1 (by omega),D1 (by omega)] at e;exact h.pi i k (by omega) (by omega) e
 .have:=h.e x E;refine ⟨λe f=>?_,λe f=>?_⟩
  .have:=this.1 e f;simp;omega
  .have:=this.2 e f;simp;omega
 .rcases ϖ.1 g with g | g
  .exact h.q z g
  .rw [κ.1 g,Q];intro i G;cases G
theorem C3.perm (g:C3 h i a c N M) (T:N.nd=[]) (hqn:∀y∈N.po,y.q=[]/\y.qh=none) {s:List Nat} (W:s.Perm (List.range N.po.length)) {u:Nat} (U:N.mh=some (d,u)):
  C3 h i a (λk=>c (s.getD k 0)) {N with po:=s.map λf=>N.po.getD f Co} (B6 M d (.row X4 1 u (s.map λj=>B3 (c j)))):=by
 have H:s.length=N.po.length:=by rw [W.length_eq,ωo]
 have C:∀k,k<s.length ->s.getD k 0<N.po.length:=λk O=>by
  rw [FF 0 O];exact Ψ.1 (W.mem_iff.1 (ϑ O))
 have hrow:=g.rs.blk (r:= .m) U
 have I:=(g.rs.1 .m)
 rw [show (Ch a c N .m).h=some (d,u) from U] at I
 have K:N.po.length<=u:=by
  have:=I.1;have e:((List.range N.po.length).map λj=>B3 (c j)).length=N.po.length:=by simp
  exact e▸this
 have O:∀(G:Nat) (t:TypeId) (cs:List D),M G=some (.cells t cs) ->B6 M d (.row X4 1 u (s.map λj=>B3 (c j))) G=some (.cells t cs):=λG t cs hm'=>by
  grind [IB]
 have J:∀(l:List Po),(∀y∈l,y.q=[]/\y.qh=none) ->∀j,(l.getD j Co).q=[]/\(l.getD j Co).qh=none:=λl hl j=>by
  grind [Co]
 have w:∀y∈s.map λf=>N.po.getD f Co,y.q=[]/\y.qh=none:=λy S=>by
  grind
 refine ⟨λf x hx=>?_,λj y S=>?_,⟨λr=>?_,λr r' F o V B h2=>?_⟩,?_,g.ni,λf k A Y e=>?_,λx hx=>?_,λy S=>?_⟩
 .grind
 .have v:(s.map λf=>N.po.getD f Co)[j]? =some y:=S;rw [ν] at v
  cases hj:s[j]? with
  | none=>rw [hj] at v;cases v
  | some f=>
   rw [hj] at v;have e:y=N.po.getD f Co:=(Option.some.inj v).symm;have Z:=(φ.1 hj).1;have A:=C j Z;rw [Hn hj] at A;show B6 M d _ (c (s.getD j 0))=_;rw [Hn hj,e,FF Co A];exact O _ _ _ (g.p f _ (ω A))
 .cases r with
  | e f=> 
   have:N.nd.getD f CT=CT:=by rw [T];rfl
   show B2 _ (N.nd.getD f CT).eh _ _ ((N.nd.getD f CT).ef.map _);rw [this];rfl
  | p f=> 
   have:N.nd.getD f CT=CT:=by rw [T];rfl
   show B2 _ (N.nd.getD f CT).ph _ _ ((N.nd.getD f CT).pl.map _);rw [this];rfl
  | q j=>
   show B2 _ ((s.map λf=>N.po.getD f Co).getD j Co).qh _ _ (((s.map λf=>N.po.getD f Co).getD j Co).q.map _);obtain ⟨e1,e2⟩:=J _ w j;rw [e1,e2];rfl
  | n=>
   have E:=g.rs.1 .n;show B2 _ N.nh _ _ ((List.range N.nd.length).map _)
   cases hh:N.nh with
   | none=>show _=[];rw [T];rfl
   | some p=>
    obtain ⟨G,V⟩:=p;rw [show (Ch a c N .n).h=some (G,V) from hh] at E;refine ⟨by have:=E.1;exact this,?_⟩;rw [IB]
    .exact E.2
    .rintro rfl;exact absurd (g.rs.2 .n .m G V u hh U) (by intro e;cases e)
  | m=>
   show B2 _ N.mh _ _ ((List.range (s.map λf=>N.po.getD f Co).length).map λk=>B3 (c (s.getD k 0)))
   have e:((List.range (s.map λf=>N.po.getD f Co).length).map λk=>B3 (c (s.getD k 0)))=s.map λj=>B3 (c j):=by
    apply ψk (by simp)
    intro k B h2;simp only [ωp,φc];rw [FF 0 (by simpa using h2)]
   rw [e,U];exact ⟨by rw [χ,H];exact K,GF _ _ _⟩
 .have z:∀r F o,(Ch a (λk=>c (s.getD k 0)) {N with po:=s.map λf=>N.po.getD f Co} r).h=some (F,o) ->(Ch a c N r).h=some (F,o):=λr F o B=>by
   cases r with
   | e f=>exact B
   | p f=>exact B
   | n=>exact B
   | m=>exact B
   | q j=>
    have R:((s.map λf=>N.po.getD f Co).getD j Co).qh=some (F,o):=B;rw [(J _ w j).2] at R;cases R
  exact g.rs.2 r r' F o V (z _ _ _ B) (z _ _ _ h2)
 .have:=O _ _ _ g.w;show _=some (Ap.cells _ [_,hdr N.mh (s.map λf=>N.po.getD f Co).length,_]);rw [χ,H];exact this
 .have Q:f<s.length:=by simpa using A
  have L:k<s.length:=by simpa using Y
  have:=g.pi _ _ (C f Q) (C k L) e;rw [FF 0 Q,FF 0 L] at this;have X:s.Nodup:=W.nodup_iff.2 List.nodup_range;exact (List.getElem_inj X).1 this
 .have:x∈N.nd:=hx;rw [T] at this;cases this
 .intro f A;rw [(w y S).1] at A;cases A
end Go.Proofs.YteifpcnphnhaoaaGreat
namespace Go.Proofs.YteifpcnphnhaoaaGreat
open Go.RowKit
variable {T:List (AW×Int)} {a c:Type} {m:List (a×c)} {d:List AW} {e:List AJ} {f:List Ae} {g:List (List (AW×Int))} {h:a} {i:AW×Int} {j:List a} {k:Nat ->Nat} {n:Nat} {z:Value} {o p:c} {q:a}
theorem dV [DecidableEq a] (d:h∉m.map Prod.fst):BZ m h o=m++ [(h,o)]:=by
 induction m with
 | nil=>rfl
 | cons p r e=>
  grind [BZ]
theorem HH [DecidableEq a] (d:h∉m.map Prod.fst):Ad m h p=p:=by
 induction m with
 | nil=>rfl
 | cons b r e=>
  grind [Ad]
theorem Db [DecidableEq a] {k:a} (e:h≠k):Ad (m++ [(k,o)]) h p=Ad m h p:=by
 induction m with
 | nil=>simp only [χj,Ad];rw [η e]
 | cons d r f=>
  grind [Ad]
theorem Dy [DecidableEq a] (e:h∉m.map Prod.fst):Ad (m++ [(h,o)]) h p=o:=by
 induction m with
 | nil=>simp [Ad]
 | cons d r f=>
  grind [Ad]
def Vo {α:Type} (d:α) (f:Nat ->Nat) (l:List α):List (α×Value):=(List.range l.length).map λi=>(l.getD i d,pV (f i) 0)
theorem OT (d:a) (f:Nat ->Nat) (l:List a):(Vo d f l).map Prod.fst=l:=by
 unfold Vo;rw [ωt];refine ψk (by simp) λj c b=>?_
 grind
theorem XO [DecidableEq a] {d:a} {f:Nat ->Nat} {b:Nat} (c:h∉j):BZ (Vo d f j) h (pV b 0)=Vo d (Nx f j.length b) (j++ [h]):=by
 rw [dV (by rw [OT];exact c)];unfold Vo;rw [Δ,υ,ωy,Ω,List.map_singleton,Ge]
 grind [ωe,D1]
theorem XP [DecidableEq a] [BEq a] [LawfulBEq a] (c:j.Nodup) {i:Nat} (b:i<j.length) (e:j[i]=h):Ad (Vo q k j) h z=pV (k i) 0:=by
 refine Dc (by rw [OT];exact c) ?_;exact Ξ.2 ⟨i,Ψ.2 b,by rw [FF q b,e]⟩
theorem tab_no [DecidableEq a] (b:h∉j):Ad (Vo q k j) h z=z:=HH (by rw [OT];exact b)
def OB (rs:List AW) (i j:Nat):Int:=Bm (rs.getD i GN) (rs.getD j GN)
theorem RZ (a:List AW):PC (OB a):=Pu.comap λi=>a.getD i GN
def IG (rs:List AW):List Nat:=(List.range rs.length).mergeSort λi j=>decide (OB rs i j<=0)
theorem fz (a:List AW):(IG a).Perm (List.range a.length):=List.mergeSort_perm _ _
theorem ZH (v:d.Nodup) {g:List Nat} (p:g.Perm (List.range d.length)) (l:g.Pairwise λa b=>¬OB d b a<0):g=IG d:=by
 have f:∀e:List Nat,e.Perm (List.range d.length) ->(e.Pairwise λa b=>¬OB d b a<0) ->e.Pairwise λa b=>OB d a b<0:=λe o l=>by
  have m:e.Pairwise λa b=>a≠b:=o.nodup_iff.2 List.nodup_range;have w:∀x∈e,x<d.length:=λx q=>Ψ.1 (o.mem_iff.1 q);refine χz (λ{a b} B A h=>?_) (l.and m);have k:=(RZ d).anti a b
  by_cases t:OB d a b=0
  .exfalso
   have C:=E4.1 t
   grind [List.getElem_inj]
  omega
 refine DV (R:=λa b=>OB d a b<0) (λx=>by rw [(RZ d).refl];omega) (λx y z=>(RZ d).trans x y z) (f g p l) (f _ (fz d) ?_) λx=>p.mem_iff.trans (fz d).mem_iff.symm;have:=List.pairwise_mergeSort (le:=λi j=>decide (OB d i j<=0)) (λa b c k r=>?_) (λa b=>?_) (List.range d.length)
 .refine List.Pairwise.imp (λ{a b} h=>?_) this;have k:=(RZ d).anti a b
  grind
 .have s:OB d a b<=0:=by simpa using k
  have n:OB d b c<=0:=by simpa using r
  have:OB d a c<=0:=by
   by_cases u:OB d a b=0
   .rw [(RZ d).eqv a b c u];exact n
   .by_cases E:OB d b c=0
    .have H:=(RZ d).anti b c;have D:=(RZ d).eqv c b a (by omega);have G:=(RZ d).anti a c;have F:=(RZ d).anti a b;omega
    .have:=(RZ d).trans a b c (by omega) (by omega);omega
  grind
 .have k:=(RZ d).anti a b
  grind
abbrev Gm (D:List (AW×Int)) (r:AW):Int:=Ad D r 0
def negQ (ds:List (List (AW×Int))) (r:AW):List Nat:=(List.range ds.length).filter λi=>decide (Gm (ds.getD i []) r<0)
def Jr (x:Ae):Po:=⟨x.r,x.n,0,none,[],0⟩
def Z0 (ds:List (List (AW×Int))) (x:Ae):Po:=⟨x.r,x.n,(ds.map λD=>Gm D x.r).sum,none,negQ ds x.r,0⟩
def Wg (rs:List AW) (D:List (AW×Int)):List (Nat×Int):=(D.filter λd=>decide (d.1∈rs)).map λd=>(rs.idxOf d.1,d.2)
def X8 (rs:List AW) (ds:List (List (AW×Int))) (D:List (AW×Int)):List (Nat×Nat):=(D.filter λd=>decide (d.1∈rs) && decide (d.2<0)).map λd=>(rs.idxOf d.1,(negQ ds d.1).length)
def ndK (rs:List AW) (ds:List (List (AW×Int))) (x:AJ) (D:List (AW×Int)):Nd:=⟨x,none,Wg rs D,none,X8 rs ds D,true⟩
def Kr (rs:List AW) (its:List AJ) (k:Nat):List Nd:=(List.range k).map λi=>ndK rs ((its.map A4).take i) (its.getD i Ag) (A4 (its.getD i Ag))
def FN (ro:List Ae) (its:List AJ) (k:Nat):Net:=⟨Kr (ro.map Ae.r) its k,ro.map (Z0 ((its.map A4).take k)),none,none⟩
def EE (ro:List Ae) (its:List AJ) (k t:Nat):Net:=⟨Kr (ro.map Ae.r) its k++ [ndK (ro.map Ae.r) ((its.map A4).take k) (its.getD k Ag) ((A4 (its.getD k Ag)).take t)],ro.map (Z0 ((its.map A4).take k++ [(A4 (its.getD k Ag)).take t])),none,none⟩
theorem Wf (h:i.1∈d):Wg d (T++ [i])=Wg d T++ [(d.idxOf i.1,i.2)]:=by grind [Wg]
theorem SW (h:i.1∉d):Wg d (T++ [i])=Wg d T:=by grind [Wg]
theorem cd (h:i.1∈d) (a:i.2<0):X8 d g (T++ [i])=X8 d g T++ [(d.idxOf i.1,(negQ g i.1).length)]:=by grind [X8]
theorem Rr (h:¬(i.1∈d/\i.2<0)):X8 d g (T++ [i])=X8 d g T:=by grind [X8]
theorem Zj (a:List (List (AW×Int))) (D:List (AW×Int)) (r:AW):negQ (a++ [D]) r=negQ a r++if Gm D r<0 then [a.length] else []:=by
 unfold negQ;rw [Δ,υ,ωy,ωv]
 grind [χr]
theorem Fk (a:List (List (AW×Int))) (D:List (AW×Int)) (x:Ae):Z0 (a++ [D]) x=⟨x.r,x.n,(Z0 a x).sum+Gm D x.r,none,(Z0 a x).q++(if Gm D x.r<0 then [a.length] else []),0⟩:=by
 unfold Z0;rw [Zj,Ω,χt]
 simp
theorem Zf:EE f e n 0=⟨(FN f e n).nd++ [⟨e.getD n Ag,none,[],none,[],true⟩],(FN f e n).po,none,none⟩:=by
 unfold EE FN
 congr 1
 grind [ωe,Fk,Z0,Ad]
theorem Zh (a:n<e.length):EE f e n (A4 (e.getD n Ag)).length=FN f e (n+1):=by grind [EE,FN,Kr,ωy,ψ]
theorem Zg {t:Nat} (a:t<(A4 (e.getD n Ag)).length) (b:((A4 (e.getD n Ag))[t]).1∉f.map Ae.r):EE f e n (t+1)=EE f e n t:=by grind [EE,ψ,ndK,SW,Rr,ωe,Fk,Db]
theorem D3 (x:AJ):((A4 x).map Prod.fst).Nodup:=by
 unfold A4
 split
 .have:=P3 (ctr x);show ((N8 (ctr x)).map Prod.fst).Pairwise _;rw [ψc];refine this.imp λ{a b} h e=>?_;rw [e,Pu.refl] at h;omega
 .exact List.nodup_nil
theorem Zi (A:(f.map Ae.r).Nodup) {t j:Nat} (K:n<=e.length) (F:t<(A4 (e.getD n Ag)).length) (v:j<f.length) (s:(f.map Ae.r).idxOf ((A4 (e.getD n Ag))[t]).1=j) (u:((A4 (e.getD n Ag))[t]).1∈f.map Ae.r) {x:Nd} {y:Po} (J:(EE f e n t).nd[n]? =some x) (E:(EE f e n t).po[j]? =some y):
  EE f e n (t+1)=⟨(EE f e n t).nd.set n (jnX x j y.q.length ((A4 (e.getD n Ag))[t]).2),(EE f e n t).po.set j (jnY y n ((A4 (e.getD n Ag))[t]).2),none,none⟩:=by
 obtain ⟨d,C⟩:∃d,(A4 (e.getD n Ag))[t]=d:=⟨_,Z⟩
 rw [C] at s u⊢
 have p:d.1∉((A4 (e.getD n Ag)).take t).map Prod.fst:=λh=>by
  grind [D3,χy]
 have G:(Kr (f.map Ae.r) e n).length=n:=by unfold Kr;simp
 have o:((e.map A4).take n).length=n:=by simp;omega
 have H:x=ndK (f.map Ae.r) ((e.map A4).take n) (e.getD n Ag) ((A4 (e.getD n Ag)).take t):=by
  grind [EE]
 have l:(f.map (Z0 ((e.map A4).take n++ [(A4 (e.getD n Ag)).take t])))[j]? =some y:=E;rw [ν,ω v] at l;have D:y=Z0 ((e.map A4).take n++ [(A4 (e.getD n Ag)).take t]) f[j]:=(Option.some.inj l).symm
 have b:f[j].r=d.1:=by
  have g:=List.getElem_idxOf (χi u);simp only [s,ωp] at g;exact g
 have q:Gm ((A4 (e.getD n Ag)).take t) d.1=0:=HH p
 have w:y.q.length=(negQ ((e.map A4).take n) d.1).length:=by
  rw [D,Fk,b,q];show (negQ _ _++_).length=_;rw [b];simp
 unfold EE;rw [ψ F,C]
 congr 1
 .rw [List.set_append_right _ _ (by omega),G,Nat.sub_self,List.set_cons_zero]
  congr 2
  rw [H];unfold ndK jnX;rw [Wf u,s,w]
  by_cases c:d.2<0
  .rw [cd u c,s,ς c]
  .rw [Rr (λh=>c h.2),η c]
 .refine χn λi=>?_;rw [χw]
  by_cases a:j=i
  .subst a;rw [ς Z,ς (by simpa using v),ν,ω v];show some _=some _
   congr 1
   rw [D];unfold jnY;rw [Fk,Fk,b];have g:Gm ((A4 (e.getD n Ag)).take t++ [d]) d.1=d.2:=Dy p;rw [g,q,o,b.symm];simp only [Int.add_zero,Po.mk.injEq,true_and,and_true]
   by_cases c:d.2<0
   .simp [c]
   .simp [c]
  .rw [η a,ν,ν]
   cases hi:f[i]? with
   | none=>rfl
   | some z=>
    show some _=some _
    congr 1
    have m:=(φ.1 hi)
    have B:z.r≠d.1:=λI=>a (by
     have g:(f.map Ae.r)[j]'(by simpa using v)=(f.map Ae.r)[i]'(by simpa using m.1):=by
      rw [ωp,ωp,m.2,b,I]
     exact (List.getElem_inj A).1 g)
    rw [Fk,Fk];have:Gm ((A4 (e.getD n Ag)).take t++ [d]) z.r=Gm ((A4 (e.getD n Ag)).take t) z.r:=Db B;rw [this]
end Go.Proofs.YteifpcnphnhaoaaGreat
namespace Go.Proofs.YteifpcnphnhaoaaGreat
open Go.RowKit Go.Shelf
variable {a:Nat ->Prop} {c:Value} {w:World} {x:D}
def nrm1:D ->D
 | .sl (some true) []=> .raw (.slice none 0 0)
 | x=>x
def nrm:D ->D
 | .agg cs=> .agg (cs.map nrm1)
 | x=>nrm1 x
theorem dH (x:D):(nrm1 x).one=x.one:=by
 unfold nrm1
 split<;>rfl
theorem A1.nrm1 (h:A1 w a x c):A1 w a (nrm1 x) c:=by
 unfold Go.Proofs.YteifpcnphnhaoaaGreat.nrm1
 split
 .cases h with
  | sl k f e d r p q s o=>
   rename_i b n m
   have l:=f true rfl
   have j:b=none:=by cases b with
    | none=>rfl
    | some _=>cases l
   subst j;have i:=e rfl;have g:n=0:=d.symm;subst i g;exact .raw rfl
 .exact h
theorem A1.nrm (h:A1 w a x c):A1 w a (nrm x) c:=by
 unfold Go.Proofs.YteifpcnphnhaoaaGreat.nrm
 split
 .rename_i k
  cases h with
  | agg j l g=>
   refine .agg (by rw [j,χ]) (λb e=>?_) λi b c e f=>?_
   .grind [dH]
   .rw [ν] at e
    cases hd:k[i]? with
    | none=>rw [hd] at e;cases e
    | some d=>
     rw [hd] at e;injection e with e;subst e
     exact (g i d c hd f).nrm1
 .exact h.nrm1
section
variable {P:Program} {F:Fr} {Q:Exit ->AS ->Prop} {ops:Array Oper} {l:List Oper} {n:Nat} {env:List (Nat×AV)} {hp:Hp}
theorem dD (t:Nat) {x:D} (j:get env t=some (.d x)) (h:Ao P F ops l Q ⟨n,(t,.d (nrm x))::env,hp⟩):Ao P F ops l Q ⟨n,env,hp⟩:=λg c w b=>h g c w ⟨b.size,b.defs,λi a e=>by
 rcases Mp e with ⟨rfl,rfl⟩ | ⟨_,e⟩
 .have f:=b.env t _ j
  generalize c.tmps.getD t undef=v at f⊢
  cases f with
  | d h=>exact .d h.nrm
 .exact b.env i a e,b.heap⟩
end
variable {N:Net} {M:MF} {a:List AJ} {c:List Ae} {y:Po} {x:Nd} {i d:Nat}
def bq (M:MF) (h:Hd) (E:TypeId) (ys:List D):MF:=match h with
 | none=>M
 | some (b,c)=>B6 M b (.row E 1 c ys)
theorem aG {f:Nat}:∀(H a:Hp),hfam H f=some [.multi M] ->Bp H f M=some a ->a=H:=by
 intro H
 induction H with
 | nil=>intro a h;cases h
 | cons p r b=>
  grind [hfam,Bp]
theorem bd {P:Program} {m:Ren} {i:Type} (L:SlLaysF.n6 P m) {E:TypeId} {g W:FuncId} {N:Func} (I:P.funcs[g]? =some N) (H:(N.name== "runtime.NumGoroutine")=false) {c:Code} (l:N.body=some c)
  {bl:i ->Nat} {px:i ->List D} {tx:i ->TypeId} (z:i ->i ->Int) (hO:Go.Sort.SWO (ltOf z)) (e j:List i) (C:e.length<4611686018427387904) (hc:∀x∈e,∀y∈e,AM P g [.d (.ptr (.agg (px x))),.d (.ptr (.agg (px y)))] (.raw (.int .i64 (z x y))))
  (hu:∀A:List i,A.Perm e ->A.Pairwise (λa b=>¬z b a<0) ->A=j)
  {F:Fr} {s:AS} {d:Nat} {x y:Operand} {Z:TypeId} {B:String} {R:Array Edge} {gd:Option (Nat×Bool)} {Q:Array TypeId} {f n:Nat} {h:Hd} {X:AV} {o:List D} {r:Hp}
  (T:m.f 6=W) (V:hfam s.hp f=some [.multi M]) (G:∀x∈e,M (bl x)=some (.cells (tx x) (px x))) (K:∀x∈e,∀c∈px x,c.one=true) (p:s.ev x=some (.d (hdr h n))) (S:s.ev y=some X) (J:∀w O Y v,A9 w O Y X v ->v= .func (.func g) #[] #[]) (u:B2 M h E 1 o) (q:o=e.map λx=>pD (bl x) 0) (hn:n=e.length) (k:h≠none ->e≠ []) (t:Bp s.hp f (bq M h E (j.map λx=>pD (bl x) 0))=some r) (U:Nat.blt d s.n=true):
  AG P F ⟨some d,.call {callee:= .value (.func W),args:= #[x,y],argTypes:=Q},Z,B,R,gd⟩ s ⟨s.n,(d,.d (.tup []))::s.env,r⟩ (λ_ _=>true):=by
 match h,p,u,t,k with
 | none,p,u,t,_=>
  rw [aG _ _ V t];exact ZC L T p S U
 | some (b,cap),p,u,t,k=>exact bc L I H l z hO e j C hc hu T V G K p S J u.2 q hn (k (by simp)) t U
theorem rep0 (f g:Nat) (k h:Nat ->Nat) (l:M f=some (Zd none 0 none 0 g)):C3 f g k h ⟨[],[],none,none⟩ M:=by
 refine ⟨λi x d=>by simp at d,λj y a=>by simp at a,⟨λr=>?_,λr n b c p m o=>?_⟩,l,λi j e _=>by simp at e,λi j e _=>by simp at e,λx d=>(by cases d),λy a=>(by cases a)⟩
 .cases r<;>rfl
 .cases r<;>cases m
structure GH (p:Prb):Prop where
 i:p.it.length<=30
 r:p.ro.length<=100
 x:∀x∈p.it,x.po.length<=12/\x.pa.length<=12/\x.af.length<=12
def gJ (x:AJ):Prop:=x.po.length<=12/\x.pa.length<=12/\x.af.length<=12
theorem GH.b {p:Prb} (h:GH p):E6 p:=⟨by have:=h.r;omega,by have:=h.i;omega,λi a=>by have:=h.x i a;omega⟩
theorem Rv {f d:Type} {l:List (f×d)} (h:(l.map Prod.fst).Nodup):l.Nodup:=by
 have c:(l.map Prod.fst).Pairwise (λa b=>a≠b):=h;rw [ψc] at c;exact c.imp λ{a b} h e=>h (by rw [e])
theorem Nz {x:AJ} (h:gJ x):(A4 x).length<=60:=by
 unfold A4
 split
 .have g:(fE x).length<=(ctr x).length:=by
   have f:(N8 (ctr x)).length<=(sumL (ctr x)).length:=by
    have c:(N8 (ctr x)).Perm ((sumL (ctr x)).filter λd=>decide (d.2≠0)):=by
     refine (List.perm_ext_iff_of_nodup ?_ ?_).2 λd=>?_
     .have:=P3 (ctr x);refine this.imp λ{a b} h e=>?_;rw [e,Pu.refl] at h;omega
     all_goals (grind [Rv,Fb,L5])
    rw [c.length_eq]
    grind
   exact ωa f (IX _)
  have:=Hx x;have:=h.1;have:=h.2.1;omega
 simp
theorem L4 (x:AJ):Px (A4 x):=by
 unfold A4
 split
 .rename_i b
  intro d a;exact bnd_E b d ((L5 _ _).1 a).1
 .intro d a;cases a
theorem Y5 {D:List (AW×Int)} (h:Px D) (r:AW): -1000000000000000<=Gm D r/\Gm D r<=1000000000000000:=by
 unfold Gm
 induction D with
 | nil=>simp [Ad]
 | cons d D a=>
  grind [Ad,Px]
theorem XT:∀{ds:List (List (AW×Int))} (_:∀D∈ds,Px D) (r:AW),-(ds.length*1000000000000000)<=(ds.map λD=>Gm D r).sum/\(ds.map λD=>Gm D r).sum<=ds.length*1000000000000000
 | [],_,r=>by simp
 | D::ds,h,r=>by
  have c:=Y5 (h D (ωu ..)) r;have b:=XT (ds:=ds) (λD a=>h D (ωw _ a)) r;simp only [ψq,List.sum_cons,χq];omega
theorem Kq (a:List (List (AW×Int))) (r:AW):(negQ a r).length<=a.length:=by
 unfold negQ
 grind
theorem YT (a:List AW) (D:List (AW×Int)):(Wg a D).length<=D.length:=by
 unfold Wg;rw [χ];exact ωj _ _
theorem X7 (a:List AW) (b:List (List (AW×Int))) (D:List (AW×Int)):(X8 a b D).length<=D.length:=by
 unfold X8;rw [χ];exact ωj _ _
theorem ej (h:N.nd[i]? =some x):(BN N).nd[i]? =some (FB x):=by
 show (N.nd.map FB)[i]? =_
 grind
theorem ei (h:N.po[i]? =some y):(BN N).po[i]? =some (Ck y):=by
 show (N.po.map Ck)[i]? =_
 grind
theorem gD (I:a.length<=30) (l:∀x∈a,gJ x) {k t j:Nat} (f:k<a.length) (h:BN N=EE c a k t) (w:N.nd[k]? =some x) (v:N.po[j]? =some y):
  (-1000000000000000000<=y.sum/\y.sum<=1000000000000000000)/\x.ef.length<=100000/\x.pl.length<=100000/\y.q.length<=100000:=by
 have i:=ej w;have g:=ei v;rw [h] at i g;have o:(Kr (c.map Ae.r) a k).length=k:=by unfold Kr;simp
 have s:(A4 (a.getD k Ag)).length<=60:=Nz (l _ (by rw [FF Ag f];exact ϑ f));have e:(Kr (c.map Ae.r) a k++ [ndK (c.map Ae.r) ((a.map A4).take k) (a.getD k Ag) ((A4 (a.getD k Ag)).take t)])[k]? =some (FB x):=i;rw [List.getElem?_append_right (by omega),o,Nat.sub_self] at e;have B:FB x=_:=(Option.some.inj e).symm;have G:x.ef=(FB x).ef:=rfl;have F:x.pl=(FB x).pl:=rfl;have b:(c.map (Z0 ((a.map A4).take k++ [(A4 (a.getD k Ag)).take t])))[j]? =some (Ck y):=g;rw [ν] at b
 cases hj:c[j]? with
 | none=>rw [hj] at b;cases b
 | some z=>
  rw [hj] at b;have A:Ck y=Z0 ((a.map A4).take k++ [(A4 (a.getD k Ag)).take t]) z:=(Option.some.inj b).symm;have E:y.sum=(Ck y).sum:=rfl;have C:y.q=(Ck y).q:=rfl;have r:((a.map A4).take k++ [(A4 (a.getD k Ag)).take t]).length<=31:=by simp;omega
  have u:=XT (ds:=(a.map A4).take k++ [(A4 (a.getD k Ag)).take t]) (λD d=>by
   rcases ϖ.1 d with d | d
   .obtain ⟨x,_,rfl⟩:=Ξ.1 (ωs d);exact L4 x
   .rw [κ.1 d];exact (L4 _).take t) z.r
  have H:=Kq ((a.map A4).take k++ [(A4 (a.getD k Ag)).take t]) z.r;have p:=YT (c.map Ae.r) ((A4 (a.getD k Ag)).take t);have n:=X7 (c.map Ae.r) ((a.map A4).take k) ((A4 (a.getD k Ag)).take t);rw [ϱ] at p n;rw [G,F,E,C,B,A];unfold Z0 ndK;dsimp only
  generalize (List.map (λD=>Gm D z.r) (List.take k (List.map A4 a)++ [List.take t (A4 (a.getD k Ag))])).sum=S at u⊢
  generalize (List.take k (List.map A4 a)++ [List.take t (A4 (a.getD k Ag))]).length=m at*
  omega
theorem T_step (b:(c.map Ae.r).Nodup) {k t j:Nat} (o:k<a.length) (m:t<(A4 (a.getD k Ag)).length) {d:Net} (h:BN N=EE c a k t) (n:(c.map Ae.r).idxOf ((A4 (a.getD k Ag))[t]).1=j) (g:((A4 (a.getD k Ag))[t]).1∈c.map Ae.r) {f:Nd} {e:Po} (r:N.nd[k]? =some x) (q:N.po[j]? =some y)
  (w:d.nd=N.nd.set k f) (u:FB f=FB (jnX x j y.q.length ((A4 (a.getD k Ag))[t]).2)) (v:d.po=N.po.set j e) (s:Ck e=Ck (jnY y k ((A4 (a.getD k Ag))[t]).2)):BN d=EE c a k (t+1):=by
 have l:=ej r;have i:=ei q
 have p:j<c.length:=by
  have:=χi g
  grind
 rw [h] at l i;rw [Zi b (Nat.le_of_lt o) m p n g l i,<-h];unfold BN;dsimp only;rw [w,v,List.map_set,List.map_set,u,s]
 rfl
theorem FH.del {R:RI ->RowM} (h:FH M R) {t:TypeId} {e:List D} (f:M d=some (.cells t e)):FH (FE M d) R:=by
 refine ⟨λr=>?_,h.2⟩;have a:=h.1 r
 cases hh:(R r).h with
 | none=>rw [hh] at a;exact a
 | some p=>
  obtain ⟨g,c⟩:=p;rw [hh] at a;refine ⟨a.1,?_⟩;rw [He]
  .exact a.2
  .rintro rfl;have:=a.2
   grind
theorem C3.addN2 {u H:Nat} {a v:Nat ->Nat} {N:Net} {M:MF} (h:C3 u H a v N M) {x:Nd} (B:x.ef=[]) (O:x.eh=none) (A:x.pl=[]) (L:x.ph=none) {bn:Nat} (hM:M bn=some (V8 x)) (G:∀j,j<N.nd.length ->a j≠bn) {b cap:Nat} (T:Bj (FE M u) N.nh b=none) (X:N.nd.length+1<=cap) {wb':Nat} (C:B6 (Bj (FE M u) N.nh) b (.row c9 1 cap ((List.range N.nd.length).map (λj=>B3 (a j))++ [B3 bn])) wb'=none):
  C3 wb' H (Nx a N.nd.length bn) v {N with nd:=N.nd++ [x],nh:=some (b,cap)} (B6 (B6 (Bj (FE M u) N.nh) b (.row c9 1 cap ((List.range N.nd.length).map (λj=>B3 (a j))++ [B3 bn]))) wb' (Zd (some (b,cap)) (N.nd.length+1) N.mh N.po.length H)):=by
 have W:∀j,((N.po.getD j Co).q.map λi=>B3 (Nx a N.nd.length bn i))=(N.po.getD j Co).q.map λi=>B3 (a i):=λj=>ωe λe g=>by
  rcases getD_mem (l:=N.po) (d:=Co) j with f | f
  .rw [D1 (h.q _ f e g)]
  .rw [f] at g;cases g
 have hR:∀r,r≠RI.n ->Ch (Nx a N.nd.length bn) v {N with nd:=N.nd++ [x],nh:=some (b,cap)} r=Ch a v N r:=λr V=>by
  cases r with
  | q j=>show (⟨_,_,_,(N.po.getD j Co).q.map _⟩:RowM)=_;rw [W];rfl
  | m=>rfl
  | n=>exact absurd Z V
  | e i=>
   show (⟨((N.nd++ [x]).getD i CT).eh,_,_,((N.nd++ [x]).getD i CT).ef.map _⟩:RowM)=⟨(N.nd.getD i CT).eh,_,_,(N.nd.getD i CT).ef.map _⟩
   rw [M0]
   split
   .rename_i e
    rw [B,O,Φ,ψm (by omega)];rfl
   .rfl
  | p i=>
   show (⟨((N.nd++ [x]).getD i CT).ph,_,_,((N.nd++ [x]).getD i CT).pl.map _⟩:RowM)=⟨(N.nd.getD i CT).ph,_,_,(N.nd.getD i CT).pl.map _⟩
   rw [M0]
   split
   .rename_i e
    rw [A,L,Φ,ψm (by omega)];rfl
   .rfl
 have S:=h.rs.del h.w
 have s:=S.upd (R':=Ch (Nx a N.nd.length bn) v {N with nd:=N.nd++ [x],nh:=some (b,cap)}) .n hR (b:=b) (cap:=cap) T Z (by
  show ((List.range (N.nd++ [x]).length).map _).length<=cap
  simp;exact X)
 have E:(Ch (Nx a N.nd.length bn) v {N with nd:=N.nd++ [x],nh:=some (b,cap)} .n).xs=(List.range N.nd.length).map (λj=>B3 (a j))++ [B3 bn]:=by
  show (List.range (N.nd++ [x]).length).map _=_;rw [Δ,υ,Qf]
 rw [E] at s
 have F:∀(J:Nat) (t:TypeId) (I:List D),t≠180 ->M J=some (.cells t I) ->B6 (B6 (Bj (FE M u) N.nh) b (.row c9 1 cap ((List.range N.nd.length).map (λj=>B3 (a j))++ [B3 bn]))) wb' (Zd (some (b,cap)) (N.nd.length+1) N.mh N.po.length H) J=some (.cells t I):=λJ t I U f=>by
  refine HE C ?_
  have w:FE M u J=some (.cells t I):=by
   rw [He]
   .exact f
   .rintro rfl;rw [h.w] at f;injection f with f;injection f with f;exact U f.symm
  exact Go.Proofs.YteifpcnphnhaoaaGreat.keepM T w λc hc=>by have:=S.blk (r:= .n) hc;rw [w] at this;cases this
 refine ⟨λi z o=>?_,λj y K=>F _ _ _ (by decide) (h.p j y K),⟨λr=>Mw C (s.1 r),s.2⟩,?_,λi k Q F e=>?_,h.pi,λz o=>?_,λy K=>?_⟩
 .rcases snoc_get o with ⟨w,R⟩ | ⟨w,R⟩
  .rw [D1 w];exact F _ _ _ (by decide) (h.n i z R)
  .subst w R;rw [Ge];exact F _ _ _ (by decide) hM
 .rw [GF];show _=some (Ap.cells _ [hdr _ (N.nd++ [x]).length,_,_]);rw [Δ];rfl
 .have hi':i<N.nd.length+1:=by simpa using Q
  have Y:k<N.nd.length+1:=by simpa using F
  by_cases e1:i=N.nd.length<;>by_cases e2:k=N.nd.length
  .omega
  .subst e1;rw [Ge,D1 (by omega)] at e;exact absurd e.symm (G k (by omega))
  .subst e2;rw [Ge,D1 (by omega)] at e;exact absurd e (G i (by omega))
  .rw [D1 (by omega),D1 (by omega)] at e;exact h.ni i k (by omega) (by omega) e
 .rcases ϖ.1 o with o | o
  .exact h.e z o
  .have e:=κ.1 o;subst e;refine ⟨λe g=>?_,λe g=>?_⟩
   .rw [B] at g;cases g
   .rw [A] at g;cases g
 .intro i Q;have:=h.q y K i Q
  simp;omega
section
variable {P:Program} {F:Fr} {s:AS} {d:Nat} {ty T T' E:TypeId} {pos:String} {aft:Array Edge} {g:Option (Nat×Bool)} {x:Operand}
theorem TO {p:Option Addr} (b:P.underlying T=some (.pointer E)) (c:s.ev x=some (.d (.raw (.pointer p)))) (i:Nat.blt d s.n=true):AA P F ⟨some d,.binOp .neq T x (.const (.pointer none)) T',ty,pos,aft,g⟩ s d (.d (.raw (.bool (!p.isNone)))):=
 Cz _ i λk a w f=>by
  have e:=f.raw c;have h:P.pointee T=E:=by unfold Program.pointee;rw [b]
  have j:a.eval (.const (.pointer none))= .pointer none:=rfl;exact ⟨.bool (!p.isNone),by simp [execOp,e,j,Uh,binOp,run_equal_pointer_nil w T p (by rw [h];exact b)],.d (.raw Z)⟩
end
section
variable {P:Program} {F:Fr} {s:AS} {d:Nat} {ty T:TypeId} {pos:String} {aft:Array Edge} {g:Option (Nat×Bool)} {x:Operand}
theorem ZD (n i:Nat) {f j b f2 k m:Nat} {t:TypeId} {o:List AV} (q:s.ev x=some (.ptr f j b)) (u:hget s.hp f j=some (.blk t o)) (A:o[b]? =some (.d (.raw (.map (some m))))) (y:hget s.hp n i=some (.addr f2 k (.map (some m)))) (B:BW P T=true) (z:Nat.blt d s.n=true):
  AA P F ⟨some d,.load T x,ty,pos,aft,g⟩ s d (.map f2 k):=by
 have h:=AQ (F:=F) (ty:=ty) (pos:=pos) (aft:=aft) (g:=g) q u A B z;refine ⟨h.1,h.2.1,λp e w l=>?_⟩;refine ZcJ (λa E ⟨v,D,c,C⟩=>⟨v,D,?_,C⟩) (h.2.2 p e w l)
 cases c with
 | d c=>cases c with
  | raw _=>
   obtain ⟨_,r⟩:=l.heap.sim n i _ y;exact .map r
end
variable {a:List AJ} {c:List Ae} {k:Nat} {N:Net} {p:Prb} {d:Nat ->Nat} {e:List Nat} {f:List AW} {g:Hd} {h:List Ae} {X:AJ} {t:Nat} {M:MF} {j:Nat} {y:Po} {i m:Nat}
def DY (p:Prb):List Ae:=(IG (p.ro.map Ae.r)).map λi=>p.ro.getD i I2
def PR (y:Po):Po:={y with mi:=y.q.length}
def dP (p:Prb):Net:=⟨(FN (DY p) (ordP p) (ordP p).length).nd,(FN (DY p) (ordP p) (ordP p).length).po.map PR,none,none⟩
theorem dJ {b:Type} {f:Ae ->b} (a:(h.map f).Nodup) (k:Nat):((h.take k).map f).Nodup:=by grind
theorem dM {f:Ae ->AW} (a:(h.map f).Nodup) (d:k<h.length):f h[k]∉(h.take k).map f:=λc=>by
 have b:=dJ a (k+1);rw [EK d,χv] at b;exact b.2.2 _ c _ (List.mem_singleton_self _) rfl
theorem H8 (c:BE p=0):(p.ro.map Ae.r).Nodup:=by
 have d:=V1.1 (Pk c).1;rw [List.Nodup,ψc,ωk];intro i j f a b e;have:=d j (Ψ.2 a)
 grind [Ja,Gb]
theorem pm_in {a:List AW} (h:a.Nodup) {b:List Nat} (g:b.Perm (List.range a.length)) {f:Nat ->Nat} {r:AW} {z:Value} (k:r∈b.map λi=>a.getD i GN):Ad (Vo GN f a) r z=pV (f (b.getD ((b.map λi=>a.getD i GN).idxOf r) 0)) 0:=by
 have c:=χi k;have d:=List.getElem_idxOf c
 generalize (b.map λi=>a.getD i GN).idxOf r=j at c d⊢
 rw [χ] at c;rw [ωp] at d;have e:b[j]<a.length:=Ψ.1 (g.mem_iff.1 (ϑ c));rw [FF GN e] at d;rw [FF 0 c];exact XP h e d
theorem pm_out {a:List AW} {b:List Nat} (d:b.Perm (List.range a.length)) {f:Nat ->Nat} {r:AW} {z:Value} (g:r∉b.map λi=>a.getD i GN):Ad (Vo GN f a) r z=z:=by
 refine tab_no λh=>g ?_;obtain ⟨i,c,e⟩:=ωq h;exact Ξ.2 ⟨i,d.mem_iff.2 (Ψ.2 c),by rw [FF GN c,e]⟩
theorem WE (p:Prb):(DY p).map Ae.r=(IG (p.ro.map Ae.r)).map λi=>(p.ro.map Ae.r).getD i GN:=by grind [DY,ωe,I2,GN]
theorem poC_one (y:Po):∀c∈poC y,c.one=true:=by
 intro c a;simp only [Υ,List.not_mem_nil,or_false] at a;rcases a with rfl | rfl | rfl | rfl | rfl | rfl | rfl | rfl | rfl | rfl<;>rfl
theorem bp (p:Prb):∀i∈List.range p.ro.length,∀j∈List.range p.ro.length,AM prog 142 [.d (.ptr (.agg (poC (Jr (p.ro.getD i I2))))),.d (.ptr (.agg (poC (Jr (p.ro.getD j I2)))))] (.raw (.int .i64 (OB (p.ro.map Ae.r) i j))):=by grind [cmpPo_p,Jr,OB]
theorem sort_px (e:C3 i m (λ_=>0) d ⟨[],p.ro.map Jr,none,g⟩ M):∀a∈List.range p.ro.length,M (d a)=some (.cells 190 (poC (Jr (p.ro.getD a I2)))):=λa c=>by
 have b:=Ψ.1 c;refine e.p a (Jr (p.ro.getD a I2)) ?_;show (p.ro.map Jr)[a]? =_;rw [ν,ω b,FF I2 b];rfl
theorem bo (e:C3 i m (λ_=>0) d ⟨[],p.ro.map Jr,none,g⟩ M):
  C3 i m (λ_=>0) (λk=>d ((IG (p.ro.map Ae.r)).getD k 0)) ⟨[],(DY p).map Jr,none,g⟩ (bq M g X4 ((IG (p.ro.map Ae.r)).map λx=>pD (d x) 0)):=by
 have o:(IG (p.ro.map Ae.r)).Perm (List.range (p.ro.map Jr).length):=by
  grind [fz]
 have l:(IG (p.ro.map Ae.r)).map (λa=>(p.ro.map Jr).getD a Co)=(DY p).map Jr:=by
  grind [DY,ωe]
 cases hmh:g with
 | some q=>
  obtain ⟨b,c⟩:=q;subst hmh;have h:=e.perm Z (λy f=>by obtain ⟨x,_,rfl⟩:=Ξ.1 f;exact ⟨Z,Z⟩) o rfl;dsimp only at h;rw [l] at h;exact h
 | none=>
  subst hmh;have v:B2 M none X4 1 ((List.range (p.ro.map Jr).length).map λj=>B3 (d j)):=e.rs.1 .m;have n:=V2 v rfl;rw [ωo,χ] at n;have u:p.ro=[]:=ωz n
  have t:(DY p).map Jr=p.ro.map Jr:=by
   simp_all
  rw [t];rw [u] at e⊢;exact ⟨e.n,λj y f=>by simp at f,⟨λr=>by cases r<;>rfl,λr z b c B w A=>by cases r<;>cases w⟩,e.w,e.ni,λa j s _ _=>by simp at s,e.e,e.q⟩
theorem Ze (a:List Ae) (b:List AJ):BN ⟨[],a.map Jr,none,g⟩=FN a b 0:=by
 unfold BN FN Kr;dsimp only;rw [ωt]
 rfl
theorem GX (a:BE p=0):((ordP p).map AJ.id).Nodup:=by
 have b:ordP p=BP p.it:=ς a;rw [b];exact ((ah p.it).map AJ.id).nodup_iff.2 (Df (Pk a).2.1)
theorem O4 (a:BE p=0):((DY p).map Ae.r).Nodup:=by grind [DY,fz,χ,ψk,FF,H8]
theorem Qp {l:List AJ} (h:(l.map AJ.id).Nodup) (c:k<l.length):l[k].id∉(l.take k).map AJ.id:=λb=>by
 have a:((l.take (k+1)).map AJ.id).Nodup:=h.sublist ((List.take_sublist (k+1) l).map AJ.id);rw [EK c,χv] at a;exact a.2.2 _ b _ (List.mem_singleton_self _) rfl
theorem nd_len (h:BN N=FN c a k):N.nd.length=k:=by grind [Kr,χ,BN,FN]
theorem po_len (h:BN N=FN c a k):N.po.length=c.length:=by grind [χ,BN,FN]
theorem T_zeroX {x:AJ} {nh:Hd} (b:a.getD k Ag=x) (h:BN N=FN c a k):BN {N with nd:=N.nd++ [⟨x,none,[],none,[],true⟩],nh:=nh}=EE c a k 0:=by
 subst b;rw [Zf,<-h];unfold BN;dsimp only;rw [Ω];rfl
theorem T_skipX (e:a.getD k Ag=X) (b:t<(A4 X).length) (d:((A4 X)[t]).1∉c.map Ae.r):EE c a k (t+1)=EE c a k t:=by
 subst e;exact Zg b d
theorem T_stepX {b:List Ae} (n:a.getD k Ag=X) (f:(b.map Ae.r).Nodup) (m:k<a.length) (g:t<(A4 X).length) {c:Net} (h:BN N=EE b a k t) (i:(b.map Ae.r).idxOf ((A4 X)[t]).1=j) (l:((A4 X)[t]).1∈b.map Ae.r) {x e:Nd} {d:Po} (p:N.nd[k]? =some x) (o:N.po[j]? =some y)
  (u:c.nd=N.nd.set k e) (r:FB e=FB (jnX x j y.q.length ((A4 X)[t]).2)) (s:c.po=N.po.set j d) (q:Ck d=Ck (jnY y k ((A4 X)[t]).2)):BN c=EE b a k (t+1):=by grind [T_step]
theorem T_nd (h:BN N=EE c a k t):N.nd.length=k+1:=by grind [Kr,Δ,BN,EE]
theorem T_po (h:BN N=EE c a k t):N.po.length=c.length:=by
 have b:=ωm (λN=>N.po.length) h;have d:(N.po.map Ck).length=(c.map _).length:=b
 grind
theorem T_lastX (d:a.getD k Ag=X) (b:k<a.length):EE c a k (A4 X).length=FN c a (k+1):=by
 subst d;exact Zh b
theorem ids_of (h:BN N=FN c a a.length):B9 N=a.map AJ.id:=by
 have f:N.nd.map FB=Kr (c.map Ae.r) a a.length:=ωm (λN=>N.nd) h;have e:B9 N=(N.nd.map FB).map λx=>x.it.id:=by unfold B9;rw [ωt];rfl
 rw [e,f];unfold Kr;rw [ωt]
 apply ψk (by simp)
 intro i d b;simp only [ωp,φc,Function.comp];show (a.getD i Ag).id=_
 grind
theorem eT {b a:List Po} (d:j<b.length) (h:a=(b.take j).map PR++b.drop j) (c:a[j]? =some y):a.set j (PR y)=(b.take (j+1)).map PR++b.drop (j+1):=by grind [χ,χo]
theorem net_fin (d:ordP p=a) (b:DY p=c):dP p=⟨(FN c a a.length).nd,(FN c a a.length).po.map PR,none,none⟩:=by
 unfold dP;rw [d,b]
theorem dN {b:Net} (d:BN N=FN c a a.length) (f:b.nd=N.nd) (e:b.po=N.po.map PR):BN b=⟨(FN c a a.length).nd,(FN c a a.length).po.map PR,none,none⟩:=by
 rw [<-d];unfold BN;dsimp only;rw [f,e,ωt,ωt]
 rfl
set_option maxRecDepth 100000 in
set_option maxHeartbeats 2000000 in
theorem VJ (p:Prb) (hf:GH p) (hE:BE p=0):AT prog 96 [.d (Bg p)] [] λr H'=>∃B u l o N M bs,r= .d (.tup [pD B 0,AF 0])/\H'=HW u bs (G3 l (B9 N)) M/\C3 B u l o N M/\BN N=dP p:=by
 have hck:=HB p hf.b;rw [hE] at hck;have hrn:=H8 hE;have hrl:=hf.r;refine Ax func96 Z Z ntmps96 Z Z Z λF H=>(AD (AE ?_));refine V (Bi 1 Z Z Z Z Z Z Z) (AB Z Z (AB Z Z (AC (AD (AD (AE (J (BA Z Z Br Z Z Z) (J (Aw (hck) Z Z) ?_))))))));refine AB Z Z (AC (AD (AE (goMv Z Z (J (C7 Z Z Z) (AC (Cu Z (Z) (AX ?_))))))));refine AD (AE (V (Ps 50 Z Z Z Z) (dE 51 50 0 Z Z Z Z Z λu=>(o_toRaw 26 51 0 (.inl Z) Z (J (EI zl180 pl180 Z Z Z) (dD 27 Z (V (Bi 2 Z Z Z Z Z Z Z) (AB Z Z ?_))))))));refine AC (AD (IA 40 Z Z Z (gA 5 2 40 (ds:=[hdr none 0,hdr none 0,MD (.map (some u))]) H Z Z Z Z Z Z Z Z Z Z Z (λ_=>rfl) λB hwb=>(AE (V (Ps 3 Z Z Z Z) (AB Z Z (AC (AD ?_))))))));refine AD (AE (J (AL Z DF Z Z Z) (J (AQ Z Z Z ML Z) (J (BU Z underlying36 Z) (goMv Z Z (AC (A2 (BO (α:=Nat×(Nat ->Nat)×Hd×MF) (λq=>⟨142,[(1,(.ptr 1 0 0)),(5,(.d (pD B 0))),(6,(.map 3 0)),(31,(.d (.sl none (p.ro.map Bl)))),(32,(.d (AF (p.ro.length:Int)))),(33,(.d (AF (q.1:Int))))],[(1,[.blk 39 [.d (.sl none (p.ro.map Bl)),.d (.sl none (p.it.map Af))]]),(3,[B1 Bd MD (Vo GN q.2.1 ((p.ro.take q.1).map Ae.r))]),(40,[.multi q.2.2.2]),(50,[B1 AF MD (G3 (λ_=>0) [])]),(51,[.addr 50 0 (.map (some u))])]⟩) (λq=>q.1<=p.ro.length/\C3 B u (λ_=>0) q.2.1 ⟨[],(p.ro.take q.1).map Jr,none,q.2.2.1⟩ q.2.2.2/\(q.2.2.1≠none ->0<q.1)) (λq=>p.ro.length - q.1) ((0,(λ_=>0),none,B6 (λ_=>none) B (Zd none 0 none 0 u))) (⟨ζ _,rep0 _ _ _ _ (show B6 (λ_=>none) B (Zd none 0 none 0 u) B=_ from GF _ _ _),λh=>absurd Z h⟩) (AU H [1,3,40,50,51] Z Z ⟨Z,Z,Z,Z,Z,Z,trivial⟩) ?_))))))));rintro ⟨k,o,mh,M⟩ ⟨hk0,G,hmh⟩;dsimp only at hk0 G hmh⊢;refine AD (AE (J (Az Z Z Z) (AC (AD (A7 Z (λh34=>?_) (λh34=>?_))))))
 .have g:k<p.ro.length:=BR h34;refine AX (AD (A2 (AD ?_)));have hpl:((p.ro.take k).map Jr).length=k:=by rw [χ,ϱ];omega
  have hpr:((p.ro.take k).map Ae.r).length=k:=by rw [χ,ϱ];omega
  refine AE (J (BC (k) Z Z (Z) (A3 g) underlying36 Z KY Z) (J (Ca Z Z Vz Z) ?_));refine V (CA 4 R3 Z Z Z Z) (V (B4 Z Z Z Z Z Z Z KY) (AC (AD (AE (goMv Z Z (J (AL Z EY Z Z Z) (J (BA Z Z Cc Z Z Z) (J (AL Z EY Z Z Z) ?_))))))));refine J (BA Z Z Cc Z Z Z) (J (AL Z PU Z Z Z) (J (AQ Z Z Z Fn Z) (J (EI zl190 pl190 Z Z Z) (dD 44 Z (V (Bi 5 Z Z Z Z Z Z Z) (dG 45 5 40 (ds:=poC (Jr p.ro[k])) H Z Z Z Z Z Z Z Z Z Z Z (λ_=>rfl) λbn U=>(V (VZ (Vo GN o ((p.ro.take k).map Ae.r)) (p.ro[k].r) (pV bn 0) Z Z Z Xu C4 Z Z) (AC ?_))))))));have hrnk:p.ro[k].r∉(p.ro.take k).map Ae.r:=dM hrn g;rw [XO hrnk,hpr,<-EK g];have hget:Ad (Vo GN (Nx o k bn) ((p.ro.take (k+1)).map Ae.r)) p.ro[k].r (.pointer none)=pV bn 0:=by rw [XP (i:=k) (dJ hrn (k+1)) (by rw [χ,ϱ];omega) (by rw [ωp,List.getElem_take]),Ge]
  have A:=G.fresh (m:=V7 (Jr p.ro[k])) U;have hpb:((List.range k).map o).length=k:=by simp
  have I:B6 M bn (V7 (Jr p.ro[k])) B=some (Zd none 0 mh ((List.range k).map o).length u):=by rw [hpb];have h:_=some (Zd none 0 mh ((p.ro.take k).map Jr).length u):=A.w;rw [hpl] at h;exact h
  have hmr:B2 (B6 M bn (V7 (Jr p.ro[k]))) mh X4 1 (((List.range k).map o).map B3):=by have h:B2 _ mh X4 1 ((List.range ((p.ro.take k).map Jr).length).map λj=>B3 (o j)):=A.rs.1 .m;rw [hpl] at h;rw [ωt];exact h
  refine CD [[],[],[1],[1,2],[1,2,3],[],[],[6],[5,6,7],[5,6,7,8],[1,2,3,4,5,6,7,8,9],rg 11,rg 12,rg 13] mixed Z (Bt (Ak 5 Z Z (Ak 5 Z Z (AP [47] Z (Dk Z Z) (AP [48] Z (Cg Z LU Z Z Z) (As [49] [40] Z Z (λ_=>A8 (EG (f:=40) Z Z (I) Z Xi Z)) (Ak 6 Z Z (AP [8] Z (AL Z EY Z Z Z) ?_))))))));refine As [52] [4] Z Z (λ_=>A8 (BA Z Z Cc Z Z Z)) (As [51,53] [3] Z Z (λ_=>A8 (IR (Vo GN (Nx o k bn) ((p.ro.take (k+1)).map Ae.r)) p.ro[k].r (.pointer none) (pV bn 0) Z Z Z Xu C4 bD hget Z)) (F5 [54] [6] [(55,_)] Z Z (λ_=>F6 (C1 6 sl177 Z Z Z Z Z Z Z Z)) (.inr ⟨55,_,Z,Z,Z,Z,Z⟩) Z Z Z Z Z (F5 [50,55] [61,40,6] [(56,_)] Z Z (λ_=>F6 (H4 50 61 40 hmr Z Z (by simp) Z Z Z Z Z (Eu (emb:=B3) ((List.range k).map o) [bn] Z Z Z Z Z Z Z Z sl177 (by simp;omega) Z Z Z Z))) (.inr ⟨56,_,Z,Z,Z,Z,Z⟩) Z Z Z Z Z (Bk 11 Z Z Z (Ab 12 Z Z (FZ 56 61 40 H Z Z Z (by simp) (by simp) Z Z Z Z Z Z Z (λ_ _=>rfl) λb1 c1 hb1 hc1=>(J (Dk Z Z) (AC ⟨Z,?_⟩))))))));refine Ab 13 Z Z (J (Cg Z LU Z Z Z) (AC ⟨Z,?_⟩));refine Ab 14 Z Z (V (QT (f:=40) Z Z Z Z (A.keepM hb1 I) ((by show _<3;omega)) Z sz177) (AC ⟨Z,?_⟩));refine Bx ?_;have e1:((List.range ((p.ro.take k).map Jr).length).map (λj=>B3 (o j))++ [B3 bn])=((List.range k).map o++ [bn]).map B3:=by rw [hpl,Ω,ωt];rfl
  have e2:((List.range k).map o++ [bn]).length=((p.ro.take k).map Jr).length+1:=by simp;omega
  have O:=A.addM (y:=Jr p.ro[k]) (bn:=bn) Z Z (GF _ _ _) (λj hj e=>by have h1:=G.p j _ (ω hj);rw [e,U] at h1;cases h1) hb1 (cap:=c1) (by have h:=hc1;simp at h⊢;omega);dsimp only at O;rw [e1,<-e2,<-EK g,hpl] at O;refine AE (J (Ah Z Z (Θ _ (by omega)) Z) (goMv Z Z (AC ?_)));exact ⟨(k+1,Nx o k bn,some (b1,c1),_),⟨by show k+1<=_;omega,O,λ_=>Nat.succ_pos _⟩,by show p.ro.length - (k+1)<p.ro.length - k;omega,AU H [1,3,40,50,51] Z (Z) ⟨Z,Z,Z,Z,Z,Z,trivial⟩⟩
 .refine Ar (AD ?_);have hkk:k=p.ro.length:=by have h:=h34;omega
  subst hkk;rw [ωl] at G⊢;have Q:M B=some (Zd none 0 mh p.ro.length u):=by have h:_=some (Zd none 0 mh (p.ro.map Jr).length u):=G.w;rw [χ] at h;exact h
  have hR3:=bo G;have hmr:B2 M mh X4 1 ((List.range p.ro.length).map λj=>B3 (o j)):=by have h:B2 _ mh X4 1 ((List.range (p.ro.map Jr).length).map λj=>B3 (o j)):=G.rs.1 .m;rw [χ] at h;exact h
  refine AE (goMv Z Z (J (Dk Z Z) (J (Cg Z LU Z Z Z) (J (EG (f:=40) Z Z (Q) Z Xi Z) (V (bd laysPo func142 Z Z (f:=40) (bl:=o) (px:=λj=>poC (Jr (p.ro.getD j I2))) (tx:=λ_=>190) (OB (p.ro.map Ae.r)) (RZ _).swo (List.range p.ro.length) (IG (p.ro.map Ae.r)) (by simp;omega) (bp p) (λys h1 h2=>ZH hrn (by rw [χ];exact h1) h2) Z Z (sort_px G) (λ_ _=>poC_one _) Z Z Ma hmr Z (by simp) (λh=>by have h1:=hmh h;intro h2;have h3:=ωm List.length h2;rw [ωo,χc] at h3;omega) Z Z) (AC (AD (AD ?_))))))))
  obtain ⟨a,v⟩:∃a,ordP p=a:=⟨_,Z⟩
  have hoi:=I6 p hf.b;rw [v] at hoi
  obtain ⟨c,s⟩:∃c,DY p=c:=⟨_,Z⟩
  have hitl:a.length<=30:=by rw [<-v];exact ωa (Dr p) hf.i
  have hrol:c.length<=100:=by rw [<-s];unfold DY;rw [χ,(fz _).length_eq,ωo,χ];exact hrl
  have hitx:∀x∈a,gJ x:=λx hx=>hf.x x (I7 (p:=p) (by rw [v];exact hx));have hin:(a.map AJ.id).Nodup:=by rw [<-v];exact GX hE
  have hroN:(c.map Ae.r).Nodup:=by rw [<-s];exact O4 hE
  have hpin:=λ(r:AW) (h:r∈c.map Ae.r)=>pm_in (z:= .pointer none) hrn (fz (p.ro.map Ae.r)) (f:=o) (r:=r) (by rw [<-WE,s];exact h);have R:=λ(r:AW) (h:r∉c.map Ae.r)=>pm_out (z:= .pointer none) (fz (p.ro.map Ae.r)) (f:=o) (r:=r) (by rw [<-WE,s];exact h);rw [<-WE,s] at hpin;rw [s] at hR3
  generalize bq M mh X4 ((IG (p.ro.map Ae.r)).map λx=>pD (o x) 0)=M2 at hR3⊢
  obtain ⟨w,hpb2⟩:∃f:Nat ->Nat,(λk=>o ((IG (p.ro.map Ae.r)).getD k 0))=f:=⟨_,Z⟩
  rw [hpb2] at hR3;have S:∀r,r∈c.map Ae.r ->Ad (Vo GN o (p.ro.map Ae.r)) r (.pointer none)=pV (w ((c.map Ae.r).idxOf r)) 0:=λr h=>by rw [hpin r h,<-hpb2]
  obtain ⟨pm,hpm⟩:∃m,Vo GN o (p.ro.map Ae.r)=m:=⟨_,Z⟩
  rw [hpm] at S R⊢;refine AE (J (BA Z Z Br Z Z Z) (J (Aw (hoi) Z Z) (J (BU Z underlying28 Z) (goMv Z Z (AC (A2 (BO (α:=Nat×Nat×(Nat ->Nat)×Net×MF) (λq=>⟨142,[(1,(.ptr 1 0 0)),(5,(.d (pD q.2.1 0))),(6,(.map 3 0)),(66,(.d (.sl none ((a.map AJ.id).map AF)))),(67,(.d (AF ((a.map AJ.id).length:Int)))),(68,(.d (AF (q.1:Int))))],[(1,[.blk 39 [.d (.sl none (p.ro.map Bl)),.d (.sl none (p.it.map Af))]]),(3,[B1 Bd MD pm]),(40,[.multi q.2.2.2.2]),(50,[B1 AF MD (G3 q.2.2.1 ((a.take q.1).map AJ.id))]),(51,[.addr 50 0 (.map (some u))])]⟩) (λq=>q.1<=a.length/\C3 q.2.1 u q.2.2.1 w q.2.2.2.1 q.2.2.2.2/\BN q.2.2.2.1=FN c a q.1) (λq=>a.length - q.1) ((0,B,(λ_=>0),⟨[],c.map Jr,none,mh⟩,M2)) (⟨ζ _,hR3,Ze c a⟩) (AU H [1,3,40,50,51] Z Z ⟨Z,Z,Z,Z,Z,Z,trivial⟩) ?_)))))));rintro ⟨k,B,l,N,M⟩ ⟨hk0,G,hT⟩;dsimp only at hk0 G hT⊢;refine AD (AE (J (Az Z Z Z) (AC (AD (A7 Z (λh69=>?_) (λh69=>?_))))))
  .have g:k<a.length:=by have h:=h69;rw [χ] at h;exact BR h
   refine AX (AD (A2 (AD ?_)))
   obtain ⟨X,hX⟩:∃X,a.getD k Ag=X:=⟨_,Z⟩
   have L:a[k]=X:=by rw [<-hX,FF Ag g]
   have hidk:X.id∉(a.take k).map AJ.id:=by rw [<-L];exact Qp hin g
   have hitk:PE a X.id=(X,true):=by have h:=UY g (Qp hin g) rfl;rw [L] at h;exact h
   have hip:=item_p p X.id hf.b;rw [v,hitk] at hip;have hk70:((a.map AJ.id).map AF)[k]? =some (AF X.id):=by rw [ν,ν,ω g,L];rfl
   refine AE (J (BC (k) Z Z (Z) (hk70) underlying28 Z BD Z) (J (CF Z Z Ai Z) (AB Z Z (AC (AD (AE (J (BA Z Z Br Z Z Z) (goMv Z Z ?_))))))));refine J (Aw (hip) Z Z) (goMv Z Z (J (Di Z Z Z) (J (Di Z Z Z) (V (CA 7 FJ Z Z Z Z) (V (B4 Z Z Z Z Z Z Z Cm) (AB Z Z (AC (AD ?_))))))));refine AE (J (BA Z Z CO Z Z Z) (J (EI zl184 pl184 Z Z Z) (dD 79 Z (V (Bi 8 Z Z Z Z Z Z Z) (AB Z Z (AC (AD (gA 13 8 40 (ds:=ndC ⟨X,none,[],none,[],true⟩) H Z Z Z Z Z Z Z Z Z Z Z (λ_=>rfl) λbn U=>?_))))))));have hNk:N.nd.length=k:=nd_len hT;have A:=G.fresh (m:=V8 ⟨X,none,[],none,[],true⟩) U;have hnb:((List.range k).map l).length=k:=by simp
   have I:B6 M bn (V8 ⟨X,none,[],none,[],true⟩) B=some (Zd N.nh ((List.range k).map l).length N.mh N.po.length u):=by rw [hnb];have h:_=some (Zd N.nh N.nd.length N.mh N.po.length u):=A.w;rw [hNk] at h;exact h
   have hnr:B2 (FE (B6 M bn (V8 ⟨X,none,[],none,[],true⟩)) B) N.nh c9 1 (((List.range k).map l).map B3):=by have h:B2 _ N.nh c9 1 ((List.range N.nd.length).map λj=>B3 (l j)):=(A.rs.del A.w).1 .n;rw [hNk] at h;rw [ωt];exact h
   refine a_split 5 20 40 Z Z Z I Z Z Z Z (CD [[],[],[1],[1,2],[1,2,3],[],[],[6],[6,7],[6,7,8],[],[10],[6,7,8,9,10,11],[],[0,1,2,3,4,6,7,8,9,10,11,12],[0,1,2,3,4,6,7,8,9,10,11,12,14],[0,1,2,3,4,6,7,8,9,10,11,12,14,15],[0,1,2,3,4,5,6,7,8,9,10,11,12,14,15,16],[0,1,2,3,4,5,6,7,8,9,10,11,12,14,15,16,17],rg 19] mixed Z (Bt (Ak 5 Z Z (Ak 5 Z Z (AP [82] Z (Ld Z Z) (AP [83] Z (AL Z Nv Z Z Z) (As [84] [20,51] Z Z (λ_=>A8 (ZD 51 0 Z Z Z Z Xh Z)) ?_)))))));refine Ak 10 Z Z (Ak 5 Z Z (AP [87] Z (Ld Z Z) (AP [88] Z (AL Z JX Z Z Z) (As [89] [20] Z Z (λ_=>A8 (AQ Z Z Z HC Z)) (Ak 13 Z Z (F5 [91] [9] [(92,_)] Z Z (λ_=>F6 (C1 9 X0 Z Z Z Z Z Z Z Z)) (.inr ⟨92,_,Z,Z,Z,Z,Z⟩) Z Z Z Z Z (F5 [90,92] [60,40,9] [(93,_)] Z Z (λ_=>F6 (H4 90 60 40 hnr Z Z (by simp) Z Z Z Z Z (Eu (emb:=B3) ((List.range k).map l) [bn] Z Z Z Z Z Z Z Z X0 (by simp;omega) Z Z Z Z))) (.inr ⟨93,_,Z,Z,Z,Z,Z⟩) Z Z Z Z Z (Ak 13 Z Z ?_))))))));refine AP [81] Z (Ld Z Z) (AP [95] Z (AL Z JX Z Z Z) (F5 [96,93] [20,60] [] Z Z (λ_=>F6 (B4 Z Z Z Z Z Z Z sz175)) (.inl ⟨Z,Z⟩) Z Z Z Z Z (F5 [85,86] [50] [(97,_)] Z Z (λ_=>F6 (HZ (G3 l ((a.take k).map AJ.id)) (X.id) ((.pointer none)) Z Z Z Xv IN XF Z Z)) (.inr ⟨97,_,Z,Z,Z,Z,Z⟩) Z Z Z Z Z (AP [97] Z (DG Z Z Z) (Bk 19 Z Z Z (Ab 20 Z Z (V (H3 (G3 l ((a.take k).map AJ.id)) (X.id) ((.pointer none)) (pV bn 0) Z Z Z IN Z Z) (AC ⟨Z,?_⟩))))))));refine Bx (AD (Wx 93 60 40 20 0 H Z Z Z (by simp) (by simp) Z Z (λ_ _=>rfl) (λ_ _=>rfl) Z (λ_ _=>rfl) (λ_ _=>rfl) Z Z (λ_ _=>rfl) (λ_ _=>rfl) (λ_ _=>rfl) (λ_ _=>rfl) λb1 c1 hb1 hc1=>(gA 5 20 40 (ds:=[hdr (some (b1,c1)) ((List.range k).map l++ [bn]).length,hdr N.mh N.po.length,MD (.map (some u))]) H Z Z Z Z Z Z Z Z Z Z Z (λ_=>rfl) λwb2 Q=>?_)));have hby:BZ (G3 l ((a.take k).map AJ.id)) X.id (pV bn 0)=G3 (Nx l k bn) ((a.take (k+1)).map AJ.id):=by have h:=XO (d:=(0:Int)) (f:=l) (b:=bn) hidk;rw [show ((a.take k).map AJ.id).length=k by rw [χ,ϱ];omega,<-L,<-EK g] at h;rw [<-L];exact h
   rw [hby];have e1:((List.range N.nd.length).map (λj=>B3 (l j))++ [B3 bn])=((List.range k).map l++ [bn]).map B3:=by rw [hNk,Ω,ωt];rfl
   have e2:((List.range k).map l++ [bn]).length=N.nd.length+1:=by simp;omega
   have O:=A.addN2 (x:=⟨X,none,[],none,[],true⟩) (bn:=bn) Z Z Z Z (GF _ _ _) (λj hj e=>by have h1:=G.n j _ (ω hj);rw [e,U] at h1;cases h1) hb1 (cap:=c1) (by have h:=hc1;simp at h;omega) (wb':=wb2) (by rw [e1];exact Q);rw [e1,<-e2,hNk] at O;have hT0:=T_zeroX (x:=X) (nh:=some (b1,c1)) hX hT;have hfk:gJ X:=hitx X (by rw [<-L];exact ϑ g);have hdl:=Nz hfk;refine AE (J (BA Z Z CO Z Z Z) (J (Aw (Up X (by have h:=hfk.1;omega) (by have h:=hfk.2.1;omega) (by have h:=hfk.2.2;omega)) Z Z) (goMv Z Z (J (Di Z Z Z) (J (Di Z Z Z) (AB Z Z (AB Z Z ?_)))))));refine AC (AD (AE (goMv Z Z (J (BU Z underlying215 Z) (goMv Z Z (AC (A2 (BO (α:=Nat×Net×MF) (λr=>⟨142,[(1,(.ptr 1 0 0)),(5,(.d (pD wb2 0))),(6,(.map 3 0)),(66,(.d (.sl none ((a.map AJ.id).map AF)))),(67,(.d (AF ((a.map AJ.id).length:Int)))),(68,(.d (AF (k:Int)))),(13,(.d (pD bn 0))),(104,(.d (.sl none ((A4 X).map QL)))),(105,(.d (AF ((A4 X).length:Int)))),(106,(.d (AF (r.1:Int))))],[(1,[.blk 39 [.d (.sl none (p.ro.map Bl)),.d (.sl none (p.it.map Af))]]),(3,[B1 Bd MD pm]),(40,[.multi r.2.2]),(50,[B1 AF MD (G3 (Nx l k bn) ((a.take (k+1)).map AJ.id))]),(51,[.addr 50 0 (.map (some u))])]⟩) (λr=>r.1<=(A4 X).length/\C3 wb2 u (Nx l k bn) w r.2.1 r.2.2/\BN r.2.1=EE c a k r.1) (λr=>(A4 X).length - r.1) ((0,_,_)) (⟨ζ _,O,hT0⟩) (AU H [1,3,40,50,51] Z Z ⟨Z,Z,Z,Z,Z,Z,Z,Z,Z,Z,trivial⟩) ?_))))))));rintro ⟨t,N3,M3⟩ ⟨ht0,hR4,D⟩;dsimp only at ht0 hR4 D⊢;refine AD (AE (J (Az Z Z Z) (AC (AD (A7 Z (λY=>?_) (λY=>?_))))))
   .have ht1:t<(A4 X).length:=BR Y;refine AX (AD (A2 (AD (AE (J (BC (t) Z Z (Z) (A3 ht1) underlying215 Z XR Z) ?_)))));refine J (Ca Z Z rw218 Z) (V (CA 10 ax Z Z Z Z) (V (B4 Z Z Z Z Z Z Z XR) (AC (AD (AE (goMv Z Z (J (AL Z LO Z Z Z) (J (BA Z Z Cc Z Z Z) ?_))))))))
    by_cases hm:((A4 X)[t]).1∈c.map Ae.r
    .refine J (IR pm ((A4 X)[t]).1 (.pointer none) (pV (w ((c.map Ae.r).idxOf ((A4 X)[t]).1)) 0) Z Z Z Xu C4 bD (S _ hm) Z) (AB Z Z (AC (AD (AE (goMv Z Z (J (TO underlying186 Z Z) (AC (Bz Z (Z) ?_))))))));have hnl3:N3.nd.length=k+1:=T_nd D;have hpl3:N3.po.length=c.length:=T_po D
     obtain ⟨x,hx⟩:∃x,N3.nd[k]? =some x:=⟨_,ω (by omega)⟩
     have hjl:(c.map Ae.r).idxOf ((A4 X)[t]).1<N3.po.length:=by rw [hpl3];have h:=χi hm;rw [χ] at h;exact h
     obtain ⟨y,hy⟩:∃y,N3.po[(c.map Ae.r).idxOf ((A4 X)[t]).1]? =some y:=⟨_,ω hjl⟩
     have hbd:=gD hitl hitx g D hx hy;have hda:=L4 X _ (ϑ ht1);have hj:=join_c hR4 hx hy ((A4 X)[t]).2 ⟨by omega,by omega⟩ hbd.1 hbd.2.1 hbd.2.2.1 hbd.2.2.2;rw [Ge] at hj;refine AE (goMv Z Z (goMv Z Z (J (AL Z YQ Z Z Z) (J (AQ Z Z Z Fn Z) ?_))));refine Cd (Ve hj Z [40] ⟨Z,trivial⟩ Z Z Z Z (λr H' ⟨e1,N',M',e2,_⟩=>by subst e1 e2;exact ⟨Z,Z,Z⟩) Z) Z ?_;rintro _ ⟨r,H',⟨rfl,N4,M4,rfl,E,hnh4,hmh4,⟨x',hx4,ex4⟩,y',hy4,ey4⟩,rfl⟩;refine AC (AE (J (Ah Z Z (Θ _ (by omega)) Z) (goMv Z Z (AC ?_))));exact ⟨(t+1,N4,M4),⟨by show t+1<=_;omega,E,T_stepX hX hroN g ht1 D Z hm hx hy hx4 ex4 hy4 ey4⟩,by show (A4 X).length - (t+1)<(A4 X).length - t;omega,AU H [1,3,40,50,51] Z (Z) ⟨Z,Z,Z,Z,Z,Z,Z,Z,Z,Z,trivial⟩⟩
    .refine J (IR pm ((A4 X)[t]).1 (.pointer none) (.pointer none) Z Z Z Xu C4 bD (R _ hm) Z) (AB Z Z (AC (AD (AE ?_))));refine goMv Z Z (J (TO underlying186 Z Z) (AC (Cu Z (Z) (AX (AE (J (Ah Z Z (Θ _ (by omega)) Z) (goMv Z Z (AC ?_))))))));exact ⟨(t+1,N3,M3),⟨by show t+1<=_;omega,hR4,by show BN N3=EE c a k (t+1);rw [T_skipX hX ht1 hm];exact D⟩,by show (A4 X).length - (t+1)<(A4 X).length - t;omega,AU H [1,3,40,50,51] Z (Z) ⟨Z,Z,Z,Z,Z,Z,Z,Z,Z,Z,trivial⟩⟩
   .refine Ar ?_;have hte:t=(A4 X).length:=by have h:=Y;omega
    have hT5:BN N3=FN c a (k+1):=by rw [<-T_lastX hX g,<-hte];exact D
    refine AE (J (Ah Z Z (Θ _ (by omega)) Z) (goMv Z Z (AC ?_)));exact ⟨(k+1,wb2,Nx l k bn,N3,M3),⟨by show k+1<=_;omega,hR4,hT5⟩,by show a.length - (k+1)<a.length - k;omega,AU H [1,3,40,50,51] Z (Z) ⟨Z,Z,Z,Z,Z,Z,trivial⟩⟩
  .refine Ar (AD (AD ?_));have hke:k=a.length:=by have h:=h69;rw [χ] at h;omega
   subst hke;rw [ωl];have hwbf:=G.w;have hpzf:N.mh=none ->N.po.length=0:=λh=>by have h1:B2 M N.mh X4 1 ((List.range N.po.length).map λj=>B3 (w j)):=G.rs.1 .m;have h2:=V2 h1 h;rw [ωo] at h2;exact h2
   have hids:=ids_of hT;have hNl:N.po.length=c.length:=po_len hT;refine AE ?_;refine goMv Z Z (J (Dk Z Z) (J (Cg Z LU Z Z Z) (J (EG (f:=40) Z Z (hwbf) Z Xi Z) (J (Wz hpzf Z underlying177 Z) (goMv Z Z (AC (A2 (BO (α:=Nat×Net×MF) (λr=>⟨142,[(5,(.d (pD B 0))),(126,(.d (hdr N.mh N.po.length))),(127,(.d (AF (N.po.length:Int)))),(128,(.d (AF (r.1:Int))))],[(40,[.multi r.2.2]),(50,[B1 AF MD (G3 l (a.map AJ.id))]),(51,[.addr 50 0 (.map (some u))])]⟩) (λr=>r.1<=N.po.length/\C3 B u l w r.2.1 r.2.2/\r.2.1.nd=N.nd/\r.2.1.mh=N.mh/\r.2.1.po=(N.po.take r.1).map PR++N.po.drop r.1) (λr=>N.po.length - r.1) ((0,N,M)) (⟨ζ _,G,Z,Z,Z⟩) (AU H [40,50,51] Z Z ⟨Z,Z,Z,Z,trivial⟩) ?_))))))));rintro ⟨j,N5,M5⟩ ⟨hj0,E,K,T,C⟩;dsimp only at hj0 E K T C⊢;refine AD (AE (J (Az Z Z Z) (AC (AD (A7 Z (λW=>?_) (λW=>?_))))))
   .have hj1:j<N.po.length:=BR W;refine AX (AD (A2 (AD ?_)));have hl5:N5.po.length=N.po.length:=by rw [C];simp;omega
    have hpr5:B2 M5 N.mh X4 1 ((List.range N.po.length).map λj=>B3 (w j)):=by have h:B2 M5 N5.mh X4 1 ((List.range N5.po.length).map λj=>B3 (w j)):=E.rs.1 .m;rw [hl5,T] at h;exact h
    obtain ⟨rb,rc,hre⟩:=Vd hpr5 (j:=j) (by rw [ωo];exact hj1);have hrow:=Sp hpr5 hre
    obtain ⟨y,hy⟩:∃y,N5.po[j]? =some y:=⟨_,ω (by omega)⟩
    obtain ⟨hyb,hyq⟩:=E.pp j y hy;have hqz:=V2 hyq;refine AE (J (XC hre (j) Z Z Z hj1 underlying177 bW Z) (J (ZcL (f:=40) (e:=j) (off:=0) Z (by omega) Z (hrow) ((by rw [ν,ψt hj1];rfl)) Z FD Z) ?_));refine AB Z Z (AC (AE (goMv Z Z ?_)));refine goMv Z Z (J (Dk Z Z) (J (Cg Z Hu Z Z Z) (J (EG (f:=40) Z Z (hyb) Z HC Z) (J (Wz hqz Z underlying175 Z) (J (Dk Z Z) (J (Cg Z LQ Z Z Z) (V (QT (f:=40) Z Z Z Z (hyb) ((by show _<10;omega)) Z BD) (AC ?_))))))));have hR6:=E.setPo (y':=PR y) hy Z Z;refine AE (J (Ah Z Z (Θ _ (by omega)) Z) (goMv Z Z (AC ?_)));exact ⟨(j+1,{N5 with po:=N5.po.set j (PR y)},_),⟨by show j+1<=_;omega,hR6,K,T,eT hj1 C hy⟩,by show N.po.length - (j+1)<N.po.length - j;omega,AU H [40,50,51] Z (Z) ⟨Z,Z,Z,Z,trivial⟩⟩
   .refine Ar (AD ?_);have hje:j=N.po.length:=by have h:=W;omega
    subst hje;rw [ωl,List.drop_length,ωi] at C;have hids5:B9 N5=a.map AJ.id:=by unfold B9 at hids⊢;rw [K];exact hids
    refine AE (goMv Z Z (AB Z Z (AB Z Z (AC (AZ ?_)))));exact ⟨_,[40,50,51],_,AY Z,Z,Z,B,u,l,w,N5,M5,some (List.range (G3 l (a.map AJ.id)).length,(G3 l (a.map AJ.id)).length),Z,by rw [hids5];rfl,E,by rw [net_fin v s];exact dN hT K C⟩
end Go.Proofs.YteifpcnphnhaoaaGreat
namespace Go.Proofs.YteifpcnphnhaoaaGreat
open Go.RowKit
variable {a:List Ae} {c:Nat ->Bool} {d:List AJ} {e:List (List (AW×Int))} {i:Nat} {N:Net} {f:Type} {x:Nd} {j:Nat} {g:List AW} {h:List Ae} {p:Prb} {k:Nat} {m:List f} {n:Pw} {o:Nat} {M:MF} {q:Ap}
set_option maxRecDepth 100000
def HY (ds:List (List (AW×Int))) (on:Nat ->Bool) (r:AW):Int:=((List.range ds.length).map λi=>if on i=true then Gm (ds.getD i []) r else 0).sum
def miS (on:Nat ->Bool) (q:List Nat):Nat:=q.findIdx λi=>!on i
def poS (ds:List (List (AW×Int))) (on:Nat ->Bool) (x:Ae):Po:=⟨x.r,x.n,HY ds on x.r,none,negQ ds x.r,miS on (negQ ds x.r)⟩
def Sn (rs:List AW) (its:List AJ) (on:Nat ->Bool) (i:Nat):Nd:={ndK rs ((its.map A4).take i) (its.getD i Ag) (A4 (its.getD i Ag)) with on:=on i}
def netS (ros:List Ae) (its:List AJ) (on:Nat ->Bool):Net:=⟨(List.range its.length).map (Sn (ros.map Ae.r) its on),ros.map (poS (its.map A4) on),none,none⟩
def BM (on:Nat ->Bool) (i:Nat):Nat ->Bool:=λj=>if j=i then false else on j
theorem Xy (q:List Nat):miS (λ_=>true) q=q.length:=by
 unfold miS
 simp
theorem b9 (a:List (List (AW×Int))) (r:AW):HY a (λ_=>true) r=(a.map λD=>Gm D r).sum:=by
 unfold HY
 congr 1
 apply ψk (by simp)
 grind
theorem dO (p:Prb):dP p=netS (DY p) (ordP p) λ_=>true:=by
 unfold dP netS FN Kr;dsimp only;rw [ωt]
 congr 1
 grind [ωe,θ,PR,Z0,poS,b9,Xy]
theorem SU {f g:Ae ->Po} (d:j<a.length) {y:Po} (c:(a.map Ae.r).Nodup) (l:y=g a[j]) (k:∀x∈a,x.r≠a[j].r ->f x=g x):(a.map f).set j y=a.map g:=by
 refine χn λi=>?_;rw [χw]
 by_cases e:j=i
 .grind
 .rw [η e,ν,ν]
  cases hi:a[i]? with
  | none=>rfl
  | some z=>
   have b:=φ.1 hi;show some _=some _
   rw [k z (ξ hi) λm=>e (by
    have h:(a.map Ae.r)[j]'(by simpa using d)=(a.map Ae.r)[i]'(by simpa using b.1):=by
     grind
    exact (List.getElem_inj c).1 h)]
theorem Nt {r:AW} (b:r∈a.map Ae.r):∃c:(a.map Ae.r).idxOf r<a.length,a[(a.map Ae.r).idxOf r].r=r:=by
 have h:=χi b;have d:=List.getElem_idxOf h
 grind
theorem bb (l:(a.map Ae.r).Nodup) (f:Ae ->Po):∀(D:List (AW×Int)),(D.map Prod.fst).Nodup ->(Wg (a.map Ae.r) D).foldl NW (a.map f)=a.map λx=>{f x with sum:=(f x).sum - Gm D x.r}:=by
 intro D
 induction D using ac with
 | h0=>
  intro _;show a.map f=_;refine ωe λx _=>?_;show f x={f x with sum:=(f x).sum - 0}
  rw [Int.sub_zero]
 | h1 D d b=>
  intro g;rw [Ω,χv] at g;have j:d.1∉D.map Prod.fst:=λh=>g.2.2 _ h _ (List.mem_singleton_self _) rfl;have b:=b g.1
  by_cases c:d.1∈a.map Ae.r
  .rw [Wf c,List.foldl_append,b];obtain ⟨m,k⟩:=Nt c
   grind [NW,SU,Dy,HH,Db]
  .rw [SW c,b];refine ωe λx i=>?_;have:Gm (D++ [d]) x.r=Gm D x.r:=Db λe=>c (e▸Ξ.2 ⟨x,i,Z⟩);rw [this]
theorem dZ (s:(a.map Ae.r).Nodup) (f:Ae ->Po) (k:List (List (AW×Int))):∀(D:List (AW×Int)),(D.map Prod.fst).Nodup ->(X8 (a.map Ae.r) k D).foldl QH (a.map f)=a.map λx=>{f x with mi:=if Gm D x.r<0 then min (f x).mi (negQ k x.r).length else (f x).mi}:=by
 intro D
 induction D using ac with
 | h0=>
  intro _;show a.map f=_;refine ωe λx _=>?_;have t:Gm [] x.r=0:=rfl
  simp_all
 | h1 D d i=>
  intro m;rw [Ω,χv] at m;have b:d.1∉D.map Prod.fst:=λh=>m.2.2 _ h _ (List.mem_singleton_self _) rfl;have i:=i m.1
  by_cases c:d.1∈a.map Ae.r/\d.2<0
  .rw [cd c.1 c.2,List.foldl_append,i];obtain ⟨q,j⟩:=Nt c.1;show QH _ ((a.map Ae.r).idxOf d.1,(negQ k d.1).length)=_;rw [Xx (y:=(λx=>{f x with mi:=if Gm D x.r<0 then min (f x).mi (negQ k x.r).length else (f x).mi}) a[(a.map Ae.r).idxOf d.1]) (by rw [ν,ω q];rfl)];refine SU q s ?_ λx p g=>?_
   .dsimp only;have o:Gm (D++ [d]) a[(a.map Ae.r).idxOf d.1].r=d.2:=by rw [j];exact Dy b
    have n:Gm D a[(a.map Ae.r).idxOf d.1].r=0:=by rw [j];exact HH b
    rw [o,n,η (by omega),ς c.2,j]
   .rw [j] at g;have:Gm (D++ [d]) x.r=Gm D x.r:=Db g;rw [this]
  .rw [Rr c,i];refine ωe λx p=>?_
   by_cases e:x.r=d.1
   .have l:d.1∈a.map Ae.r:=e▸Ξ.2 ⟨x,p,Z⟩;have o:Gm (D++ [d]) x.r=d.2:=by rw [e];exact Dy b
    have n:Gm D x.r=0:=by rw [e];exact HH b
    rw [o,n,η (by omega),η (λh=>c ⟨l,h⟩)]
   .have:Gm (D++ [d]) x.r=Gm D x.r:=Db e;rw [this]
theorem JL (h:j≠i):BM c i j=c j:=η h
theorem Lt:BM c i i=false:=ς rfl
theorem eU (p:f ->Bool) (l m:List f):(l++m).findIdx p=if l.findIdx p<l.length then l.findIdx p else m.findIdx p+l.length:=List.findIdx_append
theorem PT {b:Type} {p q:b ->Bool}:∀{l:List b},(∀x∈l,p x=q x) ->l.findIdx p=l.findIdx q
 | [],_=>rfl
 | a::l,h=>by
  rw [List.findIdx_cons,List.findIdx_cons,h a (ωu ..),PT λx c=>h x (ωw _ c)]
theorem JP {n:Nat} (h:i<n):∃B:List Nat,List.range n=List.range i++i::B/\∀j∈B,i<j:=by
 refine ⟨List.range' (i+1) (n - i - 1),?_,λj b=>?_⟩
 .rw [List.range_eq_range',List.range_eq_range'];have a:n=i+(1+(n - i - 1)):=by omega
  conv=>lhs;rw [a]
  rw [<-List.range'_append_1,ψu,Nat.add_comm 1 (n - i - 1),List.range'_succ]
 grind
theorem UD (h:i<e.length) (r:AW):∃B:List Nat,negQ e r=negQ (e.take i) r++((if Gm (e.getD i []) r<0 then [i] else [])++B)/\(∀j∈negQ (e.take i) r,j<i)/\∀j∈B,i<j:=by
 obtain ⟨B,c,b⟩:=JP h;refine ⟨B.filter λi=>decide (Gm (e.getD i []) r<0),?_,λj a=>?_,λj a=>b j (ωc.1 a).1⟩
 all_goals (grind [negQ,χr])
theorem miS_off (h:i<e.length) (a:Nat ->Bool) (r:AW):miS (BM a i) (negQ e r)=if Gm (e.getD i []) r<0 then min (miS a (negQ e r)) (negQ (e.take i) r).length else miS a (negQ e r):=by
 obtain ⟨B,c,b,d⟩:=UD h r;rw [c]
 generalize negQ (e.take i) r=A at b⊢
 grind [PT,JL,miS,eU,Lt]
theorem b6 (h:i<e.length) (b:c i=true) (r:AW):HY e (BM c i) r=HY e c r - Gm (e.getD i []) r:=by
 obtain ⟨B,a,d⟩:=JP h;unfold HY;rw [a,Ω,Ω,ψq,ψq,χt,χt,List.sum_cons,List.sum_cons]
 grind [ωe,JL,Lt]
theorem XU:∀(l:List (Nat×Int)) (a:List Po),(l.foldl NW a).map Ck=l.foldl NW (a.map Ck)
 | [],_=>rfl
 | e::l,a=>by
  rw [List.foldl_cons,List.foldl_cons,XU l]
  congr 1
  unfold NW;rw [ν]
  cases a[e.1]? with
  | none=>rfl
  | some y=>show (a.set e.1 _).map Ck=_;rw [List.map_set];rfl
theorem Xw:∀(l:List (Nat×Nat)) (a:List Po),(l.foldl QH a).map Ck=l.foldl QH (a.map Ck)
 | [],_=>rfl
 | e::l,a=>by
  rw [List.foldl_cons,List.foldl_cons,Xw l]
  congr 1
  unfold QH;rw [ν]
  cases a[e.1]? with
  | none=>rfl
  | some y=>show (a.set e.1 _).map Ck=_;rw [List.map_set];rfl
theorem rm_S (o:(a.map Ae.r).Nodup) (h:BN N=netS a d c) (f:i<d.length) (s:c i=true) (r:N.nd[i]? =some x):BN (rmN N i x)=netS a d (BM c i):=by
 have l:N.nd.map FB=(List.range d.length).map (Sn (a.map Ae.r) d c):=ωm Net.nd h;have g:N.po.map Ck=a.map (poS (d.map A4) c):=ωm Net.po h
 have b:FB x=Sn (a.map Ae.r) d c i:=by
  have p:(N.nd.map FB)[i]? =some (FB x):=by rw [ν,r];rfl
  grind
 have n:x.ef=Wg (a.map Ae.r) (A4 (d.getD i Ag)):=ωm Nd.ef b;have k:x.pl=X8 (a.map Ae.r) ((d.map A4).take i) (A4 (d.getD i Ag)):=ωm Nd.pl b;have hdi:i<(d.map A4).length:=by simpa using f
 have m:(d.map A4).getD i []=A4 (d.getD i Ag):=by rw [FF [] hdi,FF Ag f,ωp]
 unfold BN rmN netS;dsimp only
 congr 1
 .rw [List.map_set,l]
  have:FB (El x)=Sn (a.map Ae.r) d (BM c i) i:=by
   have p:FB (El x)=El (FB x):=rfl;rw [p,b];unfold Sn El BM;rw [ς rfl]
  rw [this];refine χn λj=>?_;rw [χw]
  by_cases e:i=j
  .subst e;rw [ς Z,ς (by simpa using f),ν,ψt f];rfl
  .rw [η e,ν,ν]
   cases hj:(List.range d.length)[j]? with
   | none=>rfl
   | some z=>
    have q:=φ.1 hj;have:z=j:=by have:=q.2;simp at this;exact this.symm
    subst this;show some _=some _;unfold Sn BM;rw [η (λh=>e h.symm)]
 .rw [Xw,XU,g,n,k,bb o _ _ (D3 _),dZ o _ _ _ (D3 _)];refine ωe λz _=>?_;unfold poS;dsimp only;rw [b6 hdi s,miS_off hdi,m]
theorem Fx (N:Net) (i:Nat):(BN N).nd.getD i CT=FB (N.nd.getD i CT):=by
 show (N.nd.map FB).getD i CT=_;rw [Φ,Φ,ν]
 cases N.nd[i]?<;>rfl
theorem Ip (N:Net) (j:Nat):(BN N).po.getD j Co=Ck (N.po.getD j Co):=by
 show (N.po.map Ck).getD j Co=_;rw [Φ,Φ,ν]
 cases N.po[j]?<;>rfl
theorem Hw (N:Net):B9 (BN N)=B9 N:=by
 unfold B9 BN;rw [ωt];rfl
theorem aB (N:Net) (x:Nd):IJ (BN N) (FB x)=IJ N x:=by
 have c:VP (BN N)=VP N:=funext λe=>by unfold VP;rw [Ip];rfl
 have b:∀e,ed (BN N) (FB x) e=ed N x e:=λe=>by unfold ed;rw [Ip,Fx];rfl
 have a:Dt (BN N)=Dt N:=funext λe=>by unfold Dt;rw [Fx,Hw];rfl
 grind [IJ,FB]
theorem UC (N:Net):Fq (BN N)=Fq N:=by
 have c:(BN N).nd.findSome? (Xt (BN N))=N.nd.findSome? (Xt N):=by
  show (N.nd.map FB).findSome? _=_;rw [List.findSome?_map]
  congr 1
  grind [Xt,FB,aB]
 have b:(BN N).po.findSome? (ZZ (BN N))=N.po.findSome? (ZZ N):=by
  show (N.po.map Ck).findSome? _=_;rw [List.findSome?_map]
  congr 1
  funext y
  show ZZ (BN N) (Ck y)=ZZ N y;have a:onN (BN N)=onN N:=funext λi=>by unfold onN;rw [Fx];rfl
  have d:∀i,((BN N).nd.getD i CT).it.id=(N.nd.getD i CT).it.id:=λi=>by rw [Fx];rfl
  unfold ZZ;rw [a];show (if Sm y y.sum=true then (y.q.reverse.find? (onN N)).map λi=>(⟨((BN N).nd.getD i CT).it.id,0,y.r,-1⟩:Pw) else none)=_
  grind
 unfold Fq;rw [c,b]
theorem eF (h:IJ N x=some n):n.id=x.it.id:=by
 unfold IJ at h
 split at h
 .injection h with h;subst h;rfl
 grind
theorem Xs (h:Fq N=some n):∃(i:Nat) (x:Nd),N.nd[i]? =some x/\x.on=true/\n.id=x.it.id:=by
 unfold Fq at h
 split at h
 .rename_i k f
  injection h with h;subst h
  obtain ⟨x,b,a⟩:=List.exists_of_findSome?_eq_some f;obtain ⟨i,d,g⟩:=ωq b;unfold Xt at a
  split at a
  .rename_i c
   exact ⟨i,x,by rw [ω d,g],c,eF a⟩
  .cases a
 .obtain ⟨y,j,a⟩:=List.exists_of_findSome?_eq_some h;unfold ZZ at a
  split at a
  .cases hf:y.q.reverse.find? (onN N) with
   | none=>rw [hf] at a;cases a
   | some i=>
    grind [onN,CT]
  .cases a
structure SmO (ros:List Ae) (its:List AJ):Prop where
 l:its.length<=30
 x:∀x∈its,gJ x
 i:(its.map AJ.id).Nodup
 a:∀x∈its,∀id∈x.af,id∈its.map AJ.id
 r:(ros.map Ae.r).Nodup
 n:∀x∈ros,-4000000000000000<=x.n/\x.n<=4000000000000000
 o:ros.length<=100
theorem S_nd (h:x∈(netS a d c).nd):∃i,i<d.length/\x=Sn (a.map Ae.r) d c i:=by
 obtain ⟨i,b,e⟩:=Ξ.1 h
 grind
theorem V4 (d:List Ae) (c:List AJ) (e:Nat ->Bool):B9 (netS d c e)=c.map AJ.id:=by
 unfold B9 netS;rw [ωt]
 apply ψk (by simp)
 intro i a b;simp only [ωp,φc,Function.comp];show (c.getD i Ag).id=_
 grind
theorem efK_mem {D:List (AW×Int)} {e:Nat×Int} (h:e∈Wg g D):∃d∈D,e.2=d.2:=by
 obtain ⟨d,a,rfl⟩:=Ξ.1 h
 grind
theorem plK_mem {D:List (AW×Int)} {a:Nat×Nat} (h:a∈X8 g e D):∃d∈D,d.1∈g/\d.2<0/\a=(g.idxOf d.1,(negQ e d.1).length):=by grind [X8]
theorem S_sum {c:List Ae} {a:List AJ} (h:SmO c a) (b:Nat ->Bool) (r:AW): -30000000000000000<=HY (a.map A4) b r/\HY (a.map A4) b r<=30000000000000000:=by
 have e:∀l:List Nat,-(l.length*1000000000000000)<=(l.map λi=>if b i=true then Gm ((a.map A4).getD i []) r else 0).sum/\(l.map λi=>if b i=true then Gm ((a.map A4).getD i []) r else 0).sum<=l.length*1000000000000000:=by
  intro l
  induction l with
  | nil=>simp
  | cons i l m=>
   simp only [ψq,List.sum_cons,χq]
   have j:Px ((a.map A4).getD i []):=by
    rcases getD_mem (l:=a.map A4) (d:=[]) i with f | f
    .grind [L4]
    .rw [f];intro x g;cases g
   have k:=Y5 j r;omega
 have k:=e (List.range (a.map A4).length);have n:=h.l
 grind [HY]
theorem S_w (h:SmO a d) (g:Nat ->Bool):NetW (netS a d g):=by
 have F:=h.l
 have k:∀y∈(netS a d g).po,y.q.length<=30/\y.mi<=30/\∃x∈a,y=poS (d.map A4) g x:=λy j=>by
  obtain ⟨x,c,e⟩:=Ξ.1 j;subst e;have o:=Kq (d.map A4) x.r;rw [χ] at o;have w:miS g (negQ (d.map A4) x.r)<=(negQ (d.map A4) x.r).length:=List.findIdx_le_length;exact ⟨by show (negQ _ _).length<=_;omega,by show miS _ _<=_;omega,x,c,Z⟩
 refine ⟨by rw [V4];exact h.i,λx c id s=>?_,λx c=>?_,λx c e u=>?_,λx c e u=>?_,λy j=>?_,λy j=>?_,?_,λy j=>?_⟩
 .obtain ⟨i,f,rfl⟩:=S_nd c;rw [V4];refine h.a (d.getD i Ag) (by rw [FF Ag f];exact ϑ f) id s
 .obtain ⟨i,f,rfl⟩:=S_nd c;have p:d.getD i Ag∈d:=by rw [FF Ag f];exact ϑ f
  have o:=Nz (h.x _ p);have w:=YT (a.map Ae.r) (A4 (d.getD i Ag));have H:=X7 (a.map Ae.r) ((d.map A4).take i) (A4 (d.getD i Ag));have G:=(h.x _ p).2.2;exact ⟨by show (Wg _ _).length<=_;omega,by show (X8 _ _ _).length<=_;omega,by show (d.getD i Ag).af.length<=_;omega⟩
 .obtain ⟨i,f,rfl⟩:=S_nd c;obtain ⟨b,v,D⟩:=efK_mem u;have:=L4 _ b v;rw [D];omega
 .obtain ⟨i,f,rfl⟩:=S_nd c;obtain ⟨b,v,p,l,rfl⟩:=plK_mem u;obtain ⟨C,z⟩:=Nt p;have hdi:i<(d.map A4).length:=by simpa using f
  have t:(d.map A4).getD i []=A4 (d.getD i Ag):=by rw [FF [] hdi,FF Ag f,ωp]
  have n:Gm ((d.map A4).getD i []) b.1=b.2:=by rw [t];exact Dc (D3 _) v
  obtain ⟨B,E,J,I⟩:=UD hdi b.1
  have A:((netS a d g).po.getD ((a.map Ae.r).idxOf b.1) Co).q=negQ (d.map A4) b.1:=by
   show ((a.map _).getD _ Co).q=_;rw [FF Co (by simpa using C),ωp];show negQ _ (a[(a.map Ae.r).idxOf b.1]).r=_;rw [z]
  rw [A];dsimp only;have m:=ωm List.length E;rw [ς (by rw [n];exact l),Δ,Δ,υ] at m;have o:=Kq ((d.map A4).take i) b.1;rw [ϱ,χ] at o;omega
 .have:=k y j;omega
 .obtain ⟨_,_,x,c,rfl⟩:=k y j;have:=h.n x c;show -1000000000000000000<=x.n/\x.n<=1000000000000000000;omega
 .have o:(netS a d g).nd.length=d.length:=by unfold netS;simp
  have w:(netS a d g).po.length=a.length:=by unfold netS;simp
  have:=h.o;omega
 .have:=k y j;omega
theorem W_ers {N:Net} (h:NetW (BN N)):NetW N:=by
 have c:∀x∈N.nd,FB x∈(BN N).nd:=λx a=>Ξ.2 ⟨x,a,Z⟩;have d:∀y∈N.po,Ck y∈(BN N).po:=λy b=>Ξ.2 ⟨y,b,Z⟩;refine ⟨by rw [<-Hw];exact h.i,λx a id f=>by rw [<-Hw];exact h.a _ (c x a) id f,λx a=>h.l (FB x) (c x a),λx a=>h.e (FB x) (c x a),λx a e g=>?_,λy b=>h.m (Ck y) (d y b),λy b=>h.rm (Ck y) (d y b),?_,λy b=>h.ql (Ck y) (d y b)⟩
 .have:=h.p _ (c x a) e g;rw [Ip] at this;exact this
 .have:=h.n
  grind [BN]
theorem S_sumB (h:SmO a d) (g:BN N=netS a d c):TJ N.po 1000000000000000000:=λy f=>by
 have b:Ck y∈(BN N).po:=Ξ.2 ⟨y,f,Z⟩;rw [g] at b;obtain ⟨x,j,e⟩:=Ξ.1 b;have k:=S_sum h c x.r;have i:y.sum=HY (d.map A4) c x.r:=ωm Po.sum e.symm;rw [i];omega
def GM (ros:List Ae) (its:List AJ):Nat ->(Nat ->Bool) ->List Pw×(Nat ->Bool)
 | 0,on=>([],on)
 | f+1,on=>match Fq (netS ros its on) with
  | none=>([],on)
  | some e=>(e::(GM ros its f (BM on ((its.map AJ.id).idxOf e.id))).1,(GM ros its f (BM on ((its.map AJ.id).idxOf e.id))).2)
def Es (n:Nat) (on:Nat ->Bool):Nat:=((List.range n).filter on).length
def NJ (p:Prb):List Pw×(Nat ->Bool):=GM (DY p) (ordP p) (ordP p).length λ_=>true
def Ek (its:List AJ) (on:Nat ->Bool) (k:Nat):List Int:=((List.range k).filter on).map λi=>(its.getD i Ag).id
theorem Mi {n:Nat} (a:i<n) (b:c i=true):Es n (BM c i)+1=Es n c:=by
 obtain ⟨B,e,d⟩:=JP a
 grind [Es,BM,χr,JL]
theorem Qy [BEq f] [LawfulBEq f] (a:m.Nodup) (b:i<m.length):m.idxOf m[i]=i:=by grind
theorem TX (h:Fq (netS a d c)=none):GM a d o c=([],c):=by
 cases o with
 | zero=>rfl
 | succ o=>unfold GM;rw [h]
theorem TW (h:Fq (netS a d c)=some n):GM a d (o+1) c=(n::(GM a d o (BM c ((d.map AJ.id).idxOf n.id))).1,(GM a d o (BM c ((d.map AJ.id).idxOf n.id))).2):=by
 show (match Fq (netS a d c) with | none=>_ | some n=>_)=_;rw [h]
theorem Si (h:BN N=netS a d c) (g:N.nd[i]? =some x):i<d.length/\x.on=c i/\x.it=d.getD i Ag:=by
 have b:(N.nd.map FB)[i]? =some (FB x):=by rw [ν,g];rfl
 rw [show N.nd.map FB=(List.range d.length).map (Sn (a.map Ae.r) d c) from ωm Net.nd h] at b;have e:i<d.length:=by have:=(φ.1 b).1;simpa using this
 rw [ν,ψt e] at b;have f:FB x=Sn (a.map Ae.r) d c i:=(Option.some.inj b).symm;exact ⟨e,ωm Nd.on f,ωm Nd.it f⟩
theorem Oi (a:List AJ) (b:Nat ->Bool) (k:Nat):Ek a b (k+1)=Ek a b k++if b k=true then [(a.getD k Ag).id] else []:=by grind [Ek,ωy]
theorem Z9 (a:List AJ) (b:Nat ->Bool) (k:Nat):(Ek a b k).length<=k:=by grind [Ek]
theorem S_len (h:BN N=netS a d c):N.nd.length=d.length:=by grind [χ,BN,netS]
theorem sml_P (c:GH p) (a:BE p=0):SmO (DY p) (ordP p):=by
 refine ⟨ωa (Dr p) c.i,λx b=>c.x x (I7 b),GX a,λx b id e=>?_,O4 a,λx b=>?_,?_⟩
 .have d:ordP p=BP p.it:=ς a;have f:QK (p.it.map AJ.id) x=0:=HI (Pk a).2.2 _ (Ξ.2 ⟨x,I7 b,Z⟩)
  grind [QK,I8,ah]
 .have d:x∈p.ro:=by
   grind [fz,DY]
  exact Lw (Pk a).1 x d
 .unfold DY;rw [χ,(fz _).length_eq,ωo,χ];exact c.r
set_option maxHeartbeats 1000000 in
theorem Wd (p:Prb) (hf:GH p) (hE:BE p=0):AM prog 95 [.d (Bg p)] (.tup [.sl none ((Ek (ordP p) (NJ p).2 (ordP p).length).map AF),.sl none ((NJ p).1.map ee),AF 0]):=by
 have E:=VJ p hf hE;have g:=sml_P hf hE;unfold NJ;rw [dO] at E
 obtain ⟨a,W⟩:∃a,ordP p=a:=⟨_,Z⟩
 obtain ⟨b,R⟩:∃b,DY p=b:=⟨_,Z⟩
 rw [W,R] at E g⊢;have hl:=g.l;refine Ax func95 Z Z ntmps95 Z Z Z λF hF=>(AD (AE ?_));refine V (Bi 1 Z Z Z Z Z Z Z) (AB Z Z (AB Z Z (AB Z Z (AC (a_scope (AD (AE (J (BA Z Z Br Z Z Z) ?_))))))));refine Cd (Ve E Z [40,50,51] ⟨Z,Z,Z,trivial⟩ Z Z Z Z (λr H' ⟨_,_,_,_,_,_,_,e1,e2,_⟩=>by subst e1 e2;exact ⟨Z,Z,Z⟩) Z) Z ?_;rintro _ ⟨r,H',⟨wb,mv,nb,pb,N,M,bs,rfl,rfl,z,o⟩,rfl⟩;refine goMv Z Z (J (Di Z Z Z) (J (Di Z Z Z) (AB Z Z (AB Z Z (AC ?_)))));refine AD (AD (AE (goMv Z Z (J (C7 Z Z Z) (AC (Cu Z (Z) (AX (AD ?_))))))));have u:B9 N=a.map AJ.id:=by rw [<-Hw,o,V4]
 rw [u];refine AE (AB Z Z (AC (AD (a_label (AD (A2 (NR 7 900 bw Z Z Z Z (BO (α:=(Nat ->Bool)×Net×MF×List Pw×Nat) (λq=>⟨64,[(5,(.d (pD wb 0))),(7,(.own 900 0 q.2.2.2.1.length))],(900,[.rowD 245 9 (q.2.2.2.1.map ee)])::HW mv bs (G3 nb (a.map AJ.id)) q.2.2.1⟩) (λq=>C3 wb mv nb pb q.2.1 q.2.2.1/\BN q.2.1=netS b a q.1/\Es a.length q.1<=q.2.2.2.2/\q.2.2.2.1.length+q.2.2.2.2<=a.length/\q.2.2.2.1++(GM b a q.2.2.2.2 q.1).1=(GM b a a.length λ_=>true).1/\(GM b a q.2.2.2.2 q.1).2=(GM b a a.length λ_=>true).2) (λq=>q.2.2.2.2) ((λ_=>true,N,M,[],a.length)) (⟨z,o,by show ((List.range a.length).filter _).length<=_;exact ωa (ωj _ _) (by simp),by simp,Z,Z⟩) (AU hF [900,40,50,51] Z Z ⟨Z,Z,trivial⟩) ?_))))))));rintro ⟨m,N,M,l,f⟩ ⟨z,o,hc,hal,t,s⟩;dsimp only at z o hc hal t s⊢;refine A2 (AD ?_);have I:=W_ers (N:=N) (by rw [o];exact S_w g m);have L:=S_sumB g o;have u:B9 N=a.map AJ.id:=by rw [<-Hw,o,V4]
 have U:=next_c bs z I L;rw [u] at U;refine AE (goMv Z Z (V (FG U Z [40,50,51] ⟨Z,Z,Z,trivial⟩ Z Z Z Z Z Z Z Z Z) (goMv Z Z ?_)))
 cases hne:Fq N
 .refine J (Di Z Z Z) (J (Di Z Z Z) (V (CA 2 Jg Z Z Z Z) (V (B4 Z Z Z Z Z Z Z KZ) (AB Z Z (AC ?_)))));refine AD (AD (AE (goMv Z Z (J (NQ Z Z) (AC (Bz Z (Z) (Ar (AD ?_))))))));have hro:GM b a f m=([],m):=TX (by rw [<-o,UC,hne]);rw [hro] at t s;rw [ωi] at t;dsimp only at s;have hwb:=z.w;have C:B2 M N.nh c9 1 ((List.range N.nd.length).map λi=>B3 (nb i)):=z.rs.1 .n;have T:=V2 C;rw [ωo] at T;have hNl:=S_len o;refine AE (AB Z Z (AC (AD (AD (AE (goMv Z Z ?_))))));refine J (Dk Z Z) (J (Cg Z JX Z Z Z) (J (EG (f:=40) Z Z (hwb) Z HC Z) (J (Wz T Z underlying175 Z) (goMv Z Z (AC (A2 (NR 10 901 BT Z Z Z Z (BO (α:=Nat×List Int) (λq=>⟨64,[(7,(.own 900 0 l.length)),(10,(.own 901 0 q.2.length)),(43,(.d (hdr N.nh N.nd.length))),(44,(.d (AF (N.nd.length:Int)))),(45,(.d (AF (q.1:Int))))],(901,[.rowD 3 1 (q.2.map AF)])::(900,[.rowD 245 9 (l.map ee)])::HW mv bs (G3 nb (a.map AJ.id)) M⟩) (λq=>q.1<=N.nd.length/\q.2=Ek a m q.1) (λq=>N.nd.length - q.1) ((0,[])) (⟨ζ _,Z⟩) (AU hF [901,900,40,50,51] Z Z ⟨Z,Z,Z,Z,Z,trivial⟩) ?_))))))));rintro ⟨k,A⟩ ⟨hk0,hI⟩;dsimp only at hk0 hI⊢;refine AD (AE (J (Az Z Z Z) (AC (AD (A7 Z (λH=>?_) (λH=>?_))))))
  .have y:k<N.nd.length:=BR H;refine AX (AD (A2 (AD ?_)))
   obtain ⟨x,B⟩:∃x,N.nd[k]? =some x:=⟨_,ω y⟩
   obtain ⟨v,c,D⟩:=Si o B;have K:=z.n k x B;obtain ⟨rb,rc,S⟩:=Vd C (j:=k) (by rw [ωo];exact y);have Q:=Sp C S;have hidl:A.length<=k:=by rw [hI];exact Z9 a m k
   refine AE (J (XC S (k) Z Z Z y underlying175 Mu Z) (J (ZcL (f:=40) (e:=k) (off:=0) Z (by omega) Z (Q) ((by rw [ν,ψt y];rfl)) Z Oj Z) ?_));refine AB Z Z ?_;refine AC (AD (AE (goMv Z Z (J (Dk Z Z) (J (Cg Z FR Z Z Z) (J (EG (f:=40) Z Z (K) Z on4 Z) (AC (JC Z (λG=>?_) (λG=>?_)))))))))
   .refine AE (goMv Z Z (goMv Z Z (J (Dk Z Z) (J (Cg Z G1 Z Z Z) (J (Cg Z OG Z Z Z) ?_)))));refine J (EG (f:=40) Z Z (K) Z Ai Z) (V (C1 3 BT Z Z Z Z Z Z Z Z) (V (Eu (A) ([x.it.id]) Z Z Z Z Z Z Z Z BT (by simp only [υ];omega) Z Z Z Z) (AB Z Z (AC (AE (J (Ah Z Z (AK (k+1) (by omega)) Z) (goMv Z Z (AC ?_))))))));exact ⟨(k+1,_),⟨by show k+1<=_;omega,by show _=Ek a m (k+1);rw [Oi,ς (by rw [<-c];simpa using G),<-hI,<-D]⟩,by show N.nd.length - (k+1)<N.nd.length - k;omega,AU hF [901,900,40,50,51] Z (Z) ⟨Z,Z,Z,Z,Z,trivial⟩⟩
   .refine AX (AE (J (Ah Z Z (AK (k+1) (by omega)) Z) (goMv Z Z (AC ?_))));exact ⟨(k+1,_),⟨by show k+1<=_;omega,by show _=Ek a m (k+1);rw [Oi,η (by rw [<-c];simpa using G),ωi,<-hI]⟩,by show N.nd.length - (k+1)<N.nd.length - k;omega,AU hF [901,900,40,50,51] Z (Z) ⟨Z,Z,Z,Z,Z,trivial⟩⟩
  .refine Ar (AD ?_);have hke:k=a.length:=by have h:=H;omega
   refine KP (emb:=ee) 7 900 l Z Z Z Z Z Z Z ?_;refine KP (emb:=AF) 10 901 A Z Z Z Z Z Z Z (AE (goMv Z Z (goMv Z Z (AB Z Z (AB Z Z (AB Z Z (AC (AZ ?_))))))));exact ⟨_,[],[],AY Z,Z,Z,by rw [<-s,<-t,hI,hke],Z⟩
 .refine J (Di Z Z Z) (J (Di Z Z Z) (V (CA 4 Jg Z Z Z Z) (V (B4 Z Z Z Z Z Z Z KZ) (AB Z Z (AC ?_)))));refine AD (AD (AE (goMv Z Z (J (NQ Z Z) (AC (Cu Z (Z) (AX (AD ?_))))))))
  rename_i e
  obtain ⟨i,x,B,hon,hid⟩:=Xs hne;obtain ⟨v,c,D⟩:=Si o B;rw [hon] at c;have c:=c.symm;have X:i<(a.map AJ.id).length:=by rw [χ];exact v
  have Y:(a.map AJ.id)[i]=e.id:=by rw [hid,D,ωp,FF Ag v]
  have hby:=Sb (nb:=nb) g.i X;rw [Y] at hby;have hcn:=Mi v c
  obtain ⟨f2,rfl⟩:∃f2,f=f2+1:=⟨f - 1,by omega⟩
  have O:GM b a (f2+1) m=(e::(GM b a f2 (BM m i)).1,(GM b a f2 (BM m i)).2):=by rw [TW (by rw [<-o,UC,hne]),<-Y,Qy g.i X]
  have w:=ξ B;have hrm:=cX z B L (I.e x w) (I.l x w).1 (I.l x w).2.1 (λe he=>(I.p x w e he).2) I.m;refine CD [[],[0],[0,1],[0,1,2],[],[4],rg 6,rg 7] mixed Z (Bt (Ak 5 Z Z (AP [28] Z (Dk Z Z) ?_)));refine AP [29] Z (Cg Z Nv Z Z Z) (As [30] [40] Z Z (λ_=>A8 (EG (f:=40) Z Z (z.w) Z Xh Z)) (AP [8] Z (AL Z fi245_0 Z Z Z) (As [32] [4] Z Z (λ_=>A8 (AQ Z Z Z Ai Z)) (Bk 6 Z Z Z (Ab 7 Z Z (Dv 31 51 0 Z Z (J (IR (G3 nb (a.map AJ.id)) e.id (.pointer none) (pV (nb i) 0) Z Z Z Xv IN XF hby Z) (AC ⟨Z,?_⟩))))))));refine Ab 8 Z Z ?_;refine Cd (Ve hrm Z [40] ⟨Z,trivial⟩ Z Z Z Z (λr H' ⟨e1,M',e2,_⟩=>by subst e1 e2;exact ⟨Z,Z,Z⟩) Z) Z ?_;rintro _ ⟨r,H',⟨rfl,M2,rfl,hR2⟩,rfl⟩;refine AC ⟨Z,?_⟩;refine Bx (AE (goMv Z Z (J (BA Z Z rw245 Z Z Z) (V (C1 5 bw Z Z Z Z Z Z Z Z) (V (Eu (l) ([e]) Z Z Z Z Z Z Z Z bw (by simp only [υ];omega) Z Z Z Z) (AB Z Z (AC ?_)))))));exact ⟨(BM m i,rmN N i x,M2,l++ [e],f2),⟨hR2,rm_S g.r o v c B,by show Es a.length (BM m i)<=f2;omega,by show (l++ [e]).length+f2<=_;rw [Δ];simp;omega,by show (l++ [e])++(GM b a f2 (BM m i)).1=_;rw [ψi,<-t,O];rfl,by show (GM b a f2 (BM m i)).2=_;rw [<-s,O]⟩,by show f2<f2+1;omega,AU hF [900,40,50,51] Z (Z) ⟨Z,Z,trivial⟩⟩
theorem cJ {d:Type} (f:d ->AW) {l m g:List d} (c:(l.map f).Nodup) (o:m.Perm l) (i:m.Pairwise λa b=>¬Bm (f b) (f a)<0) (j:g.Perm l) (p:g.Pairwise λa b=>¬Bm (f b) (f a)<0):g=m:=by
 have n:∀{k:List d},(k.map f).Nodup ->(k.Pairwise λa b=>¬Bm (f b) (f a)<0) ->k.Pairwise λa b=>Bm (f a) (f b)<0:=λ{k} c h=>by
  rw [List.Nodup,ψc] at c;refine (h.and c).imp λ{a b} ⟨r,q⟩=>?_;have j:=Pu.anti (f a) (f b);have p:Bm (f a) (f b)≠0:=λe=>q (E4.1 e);omega
 exact DV (R:=λa b=>Bm (f a) (f b)<0) (λx=>by rw [Pu.refl];omega) (λx y z=>Pu.trans _ _ _) (n ((j.map f).nodup_iff.2 c) p) (n ((o.map f).nodup_iff.2 c) i) λx=>by rw [j.mem_iff,o.mem_iff]
theorem Ra (d:List AW):(IG d).Pairwise λa b=>¬OB d b a<0:=by
 have:=List.pairwise_mergeSort (le:=λi j=>decide (OB d i j<=0)) (λa b c f g=>?_) (λa b=>?_) (List.range d.length)
 .refine List.Pairwise.imp (λ{a b} h=>?_) this;have f:=(RZ d).anti a b
  grind
 .have k:OB d a b<=0:=by simpa using f
  have e:OB d b c<=0:=by simpa using g
  have:OB d a c<=0:=by
   by_cases l:OB d a b=0
   .rw [(RZ d).eqv a b c l];exact e
   .by_cases n:OB d b c=0
    .have q:=(RZ d).anti b c;have m:=(RZ d).eqv c b a (by omega);have p:=(RZ d).anti a c;have o:=(RZ d).anti a b;omega
    .have:=(RZ d).trans a b c (by omega) (by omega);omega
  grind
 .have f:=(RZ d).anti a b
  grind
theorem ZR (p:Prb):(DY p).Perm p.ro:=by grind [DY,fz,χ,ψk,FF]
theorem T6 (p:Prb):(DY p).Pairwise λa b=>¬Bm b.r a.r<0:=by grind [DY,χz,Ra,fz,OB]
theorem ZS (c:(p.ro.map Ae.r).Nodup) (e:h.Perm p.ro) (d:h.Pairwise λa b=>¬Bm b.r a.r<0):h=DY p:=by grind [cJ,ZR,T6]
theorem cN (c:BE p=0) (e:h.Perm p.ro) (d:h.Pairwise λa b=>¬Bm b.r a.r<0):h=DY p:=ZS (H8 c) e d
def largeS (p:Prb):List Int:=Ek (ordP p) (NJ p).2 (ordP p).length
theorem Jz (p:Prb) (b:GH p) (c:BE p=0):AM prog 39 [.d (Bg p)] (.tup [.sl none ((largeS p).map AF),AF 0]):=by
 have a:=Wd p b c;refine Ax func39 Z Z ntmps39 Z Z Z λF e=>(AD (AE (V (Bi 1 Z Z Z Z Z Z Z) (AB Z Z (AB Z Z (AC (AD (AE ?_))))))));refine J (BA Z Z Br Z Z Z) (J (Aw (a) Z Z) (goMv Z Z (J (Di Z Z Z) (J (Di Z Z Z) (J (Di Z Z Z) (AB Z Z (AB Z Z (AB Z Z ?_))))))));refine AC (AD (AE (goMv Z Z (goMv Z Z (AB Z Z (AB Z Z (AC (AZ ?_))))))));exact ⟨_,[],[],AY Z,Z,Z,Z,Z⟩
def XG (l:List Int) (x:Int):List Int:=l.filter λy=>decide (y≠x)
def overL (its:List AJ) (x:Ae) (l:List Int):Int:=max x.n 0+((its.filter λi=>decide (i.id∈l)).map λi=>CC i x.r).sum
theorem fF (i:AJ) (r:AW): -1000000000000000<=CC i r/\CC i r<=1000000000000000:=by
 unfold CC
 split
 .simp [*,OC]
 .omega
def blkR (its:List AJ) (l:List Int) (id:Int) (x:Ae):Option Pw:=if id∈Ke its x.r then (((Ke its x.r).takeWhile λa=>decide (a≠id)).find? λa=>decide (a∉l)).map λa=>⟨id,1,x.r,a⟩ else none
def blockR (p:Prb) (l:List Int) (id:Int):Option Pw:=match (DY p).findSome? (blkR (BP p.it) l id) with
 | some e=>some e
 | none=>((B8 p id).af.find? λa=>decide (a∉l)).map λa=>⟨id,2,GN,a⟩
theorem QC {l:List Ae} (h:Dp l=0):∀x∈l,Al x.r=0:=λx b=>by
 have d:=V1.1 h;obtain ⟨j,a,rfl⟩:=ωq b;have:=d j (Ψ.2 a);unfold Ja at this;rw [FF I2 a] at this
 split at this
 .contradiction
 .rename_i c
  exact Classical.byContradiction λh=>c h
theorem Ed {l:List AJ} (h:Ey l=0):∀x∈l,Ay x=0:=λx b=>by
 have d:=V1.1 h;obtain ⟨j,a,rfl⟩:=ωq b;have:=d j (Ψ.2 a);unfold KB at this;rw [FF Ag a] at this
 split at this
 .contradiction
 .rename_i c
  exact Classical.byContradiction λh=>c h
theorem on_mem (f:(d.map AJ.id).Nodup) (b:Nat ->Bool) (c:i<d.length):(d.getD i Ag).id∈Ek d b d.length↔b i=true:=by
 unfold Ek;rw [Ξ]
 constructor
 .rintro ⟨j,g,e⟩;obtain ⟨k,l⟩:=ωc.1 g;have a:=Ψ.1 k;rw [FF Ag c,FF Ag a] at e
  have:j=i:=by
   have h:(d.map AJ.id)[j]'(by simpa using a)=(d.map AJ.id)[i]'(by simpa using c):=by
    grind
   exact (List.getElem_inj f).1 h
  grind
 grind
theorem Zx (a:List AJ):a=(List.range a.length).map λi=>a.getD i Ag:=by
 apply ψk (by simp)
 grind
structure PVO (p:Prb) (ros:List Ae) (its:List AJ):Prop where
 e:BE p=0
 f:GH p
 s:SmO ros its
 hr:DY p=ros
 hi:BP p.it=its
 v:∀x∈its,Ay x=0
 w:∀x∈ros,Al x.r=0
 up:ros.Pairwise λa b=>Bm a.r b.r<0
theorem id_inj (c:(d.map AJ.id).Nodup) (b:i<d.length) (a:j<d.length) (h:(d.getD i Ag).id=(d.getD j Ag).id):i=j:=by
 rw [FF Ag b,FF Ag a] at h
 have e:(d.map AJ.id)[i]'(by simpa using b)=(d.map AJ.id)[j]'(by simpa using a):=by
  grind
 exact (List.getElem_inj c).1 e
def FewQ (p:Prb) (n:Nat):Prop:=p.it.length<=n/\p.ro.length<=30/\∀i∈p.it,i.po.length<=8/\i.pa.length<=8/\i.af.length<=8
instance (p:Prb) (n:Nat):Decidable (FewQ p n):=inferInstanceAs (Decidable (_/\_/\∀i∈p.it,_))
def eY (p:Prb) (l:List Int):Prop:=(∀id∈l,blockR p l id=none)/\∀x∈p.ro,¬overL p.it x l<0
noncomputable instance (p:Prb) (l:List Int):Decidable (eY p l):=Classical.propDecidable _
theorem fP (n:Nat) (a:Nat ->Bool):Es n a<=n:=by grind [Es]
def rsP (p:Prb):List AW:=p.ro.map Ae.r
def dR (rs:List AW) (i:AJ):List (AW×Int):=(A4 i).filter λd=>decide (d.1∈rs)
theorem fI (a:List AW) (i:AJ):((dR a i).map Prod.fst).Nodup:=List.Nodup.sublist (List.Sublist.map _ ψj) (D3 i)
theorem EV {b:Type} [DecidableEq f] {O:List (f×b)} {x:f} {v:b} (h:x∉O.map Prod.fst):BZ O x v=O++ [(x,v)]:=by
 induction O with
 | nil=>rfl
 | cons a l c=>
  grind [BZ]
theorem Fs {y:Ap}:B6 (B6 M k q) k y=B6 M k y:=by grind [GF,IB]
theorem MR (h:M k=some q):B6 M k q=M:=by grind [GF,IB]
theorem Ks (a:m.Nodup) (b:j<m.length):m[j]∉m.take j:=by grind [χy]
abbrev WF:FuncId:=119
structure HT (N:MF) (b:Nat) (l:List Int):Prop where
 ex:∃m,N b=some (.cells 137 [mD m])/\N m=some (.map none (B5 AF Am (BS l)))
abbrev Pq (b:Nat):D:= .fn WF [] [pD b 0]
theorem Gp (l:List Int) (j:l.Nodup) (t:l.length<=1000000):AT prog 66 [.d (.sl none (l.map AF))] [] λr p=>∃b N,r= .d (Pq b)/\p=[(41,[.multi N])]/\HT N b l:=by
 refine Ax func66 Z Z ntmps66 Z Z Z λF h=>(AD (AE (AB Z Z (AC ?_))));refine AD (IA 41 Z Z Z (AE (V (Ps 1 Z Z Z Z) (MN 6 1 41 h Z Z Z Z Z Z Z Z Z Z (λ_=>rfl) λm s=>(JQ 41 m Z (GF _ _ _) Z (V (CA 2 bB Z Z Z Z) (V (B4 Z Z Z Z Z Z Z bX) (AC ?_))))))));refine AD (AD (AE (goMv Z Z (J (BU Z underlying28 Z) (goMv Z Z (AC (A2 (BO (α:=Nat×MF) (λq=>⟨17,[(3,(.ptr 2 0 0)),(7,(.d (.sl none (l.map AF)))),(8,(.d (AF (l.length:Int)))),(9,(.d (AF (q.1:Int))))],[(2,[.blk 137 [.d (mD m)]]),(41,[.multi q.2])]⟩) (λq=>q.1<=l.length/\q.2 m=some (.map none (B5 AF Am (BS (l.take q.1))))) (λq=>l.length - q.1) ((0,_)) (⟨ζ _,GF _ _ _⟩) (AU h [2,41] Z Z ⟨Z,Z,Z,Z,trivial⟩) ?_))))))));rintro ⟨k,N⟩ ⟨n,g⟩;dsimp only at n g⊢;refine AD (AE (J (Az Z Z Z) (AC (AD (A7 Z (λc=>?_) (λc=>?_))))))
 .refine AX (AD (A2 (AD ?_)));have a:k<l.length:=BR c;refine AE (J (BC (k) Z Z (Z) (A3 a) underlying28 Z BD Z) (J (CF Z Z Ai Z) (AB Z Z (AC ?_))));refine AE (J (AQ Z Z Z Ql Z) (goMv Z Z (V (OV (f:=41) (BS (l.take k)) l[k] true Z Z g Z En IN Z Z) (AC (AE (J (Ah Z Z (AK (k+1) (by omega)) Z) (goMv Z Z (AC ?_))))))));exact ⟨(k+1,_),⟨a,by show B6 _ _ _ _=_;rw [GF,ψ a,ao (Ks j a)]⟩,by show l.length - (k+1)<l.length - k;omega,AU h [2,41] Z (Z) ⟨Z,Z,Z,Z,trivial⟩⟩
 .refine Ar (AD ?_);have i:k=l.length:=by have:=c;omega
  rw [i,ωl] at g;refine gA (ds:=[mD m]) 3 2 41 h Z Z Z Z Z Z Z Z Z Z Z (λ_=>rfl) λb o=>(AE (J (Yd (ds:=[]) (es:=[pD b 0]) Z Z Z Z Z) (AB Z Z (AC (AZ ?_)))));exact ⟨_,[41],_,AY Z,Z,Z,b,_,Z,Z,⟨m,GF _ _ _,by rw [IB (λe=>by rw [e,o] at g;cases g)];exact g⟩⟩
theorem EJ {N:MF} {l:List Int} (h:HT N k l) (id:Int):AT prog WF [.d (AF id),.d (pD k 0)] [(41,[.multi N])] λr e=>r= .d (Am (decide (id∈l)))/\e=[(41,[.multi N])]:=by
 obtain ⟨m,c,a⟩:=h;refine Ax func119 Z Z ntmps119 Z Z Z λF g=>(AD (AE (AB Z Z ?_)));refine AC (AD (AE (J (EG (f:=41) Z Z c Z Ql Z) (goMv Z Z (J (TQ (f:=41) (BS l) id false _ Z Z a Z En IN Sv (Yc l id) Z) (AB Z Z (AC (AZ ?_))))))));exact ⟨_,[41],_,AY Z,Z,Z,Z,Z⟩
theorem J4 (p:Prb) (l:List Int) (c:E6 p) (b:l.length<=100000) (a:p.it.length<=1000):AM prog 64 [.d (Bg p),.d (.sl none (l.map AF))] (AF (C5 p l)):=by
 refine Ax func64 Z Z ntmps64 Z Z Z λF e=>(AD (AE (V (Bi 1 Z Z Z Z Z Z Z) (AB Z Z ?_))));refine AC (AD (AE (J (BA Z Z Br Z Z Z) (goMv Z Z (J (Aw (bM p l c b a) Z Z) (goMv Z Z (J (Di Z Z Z) (J (Di Z Z Z) ?_))))))));refine AB Z Z (AB Z Z (AC (AD (AE (goMv Z Z (AB Z Z (AC (AZ ?_))))))));exact ⟨_,[],[],AY Z,Z,Z,Z,Z⟩
end Go.Proofs.YteifpcnphnhaoaaGreat
