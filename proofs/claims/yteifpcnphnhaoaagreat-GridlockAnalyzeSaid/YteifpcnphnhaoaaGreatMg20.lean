import Derived.Test.YteifpcnphnhaoaaGreatMg19
import Derived.Shelf.SortG.Plain
import Derived.Shelf.SortG.SortNone
open Go.Proofs.Tryz
set_option maxHeartbeats 4000000
namespace Go.Proofs.YteifpcnphnhaoaaGreat
open Go.RowKit Go.Shelf
open Go.Sort (putRow Holds putCells)
def Cg(l:List Int):List Int:=l.mergeSort λx y=>decide (x<=y)
theorem jR(l:List Int):(Cg l).Perm l:=List.mergeSort_perm l _
theorem E5(l:List Int):(Cg l).length=l.length:=(jR l).length_eq
theorem Kv(l:List Int):(Cg l).Pairwise (· <= ·):=by grind[List.pairwise_mergeSort,Cg]
abbrev zD(z:Int):D:= .raw (.int .i64 z)
variable{P:Program}{ρr:Ren}
theorem UK(L:SlLaysN.n53 P ρr){E:TypeId}{g53:FuncId}(k:List Int)(hsz:k.length<4611686018427387904){F:Fr}{s:AS}{d:Nat}{x:Operand}{ty:TypeId}{pos:String}{aft:Array Edge}{gd:Option (Nat×Bool)}{at_:Array TypeId}{f n:Nat}{S:List D}{O:Hp}(hg:ρr.f 53=g53)(C:s.ev x=some (.own f 0 n))(ho:dd s.hp f 0=some (.rowD E 1 S))(V:S=k.map zD)(hn:n=k.length)(hh:Be s.hp f 0 (.rowD E 1 ((Cg k).map zD))=some O)(hd:Nat.blt d s.n=true):
  AH P F ⟨some d,.call {callee:= .value (.func g53),args:= #[x],argTypes:=at_},ty,pos,aft,gd⟩ s ⟨s.n,(d,.d (.tup []))::s.env,O⟩ (λ_ _=>true):=by
 subst hg V hn;intro ρ H w hs
 obtain ⟨fn6,hf1,hf2,hf3⟩:∃fn,P.funcs[ρr.f 53]? =some fn/\(fn.name== "runtime.NumGoroutine")=false/\fn.body.isSome=true:=by
  obtain ⟨nm,hn,hf⟩:=L.f53;exact ⟨_,hf,hn,Z⟩
 unfold Oper.wp;rw[show (#[x]:Array Operand)=[x].toArray from rfl,DW hf1 hf2 hf3,Oper.upon_enter]
 suffices J:Calls P (ρr.f 53) ([x].map H.eval).toArray w λe w'=>e= .returned (.tuple #[])/\SR F ⟨s.n,s.env,O⟩ ρ H w' by
  refine J.mono λe w' ⟨R,hsr⟩=>?_;subst R;exact ⟨ρ,hsr.put (I0 hd) (.d (.tup Z λi c v hc=>by cases hc)),λ_ _ _=>rfl⟩
 have r0:=hs.ev C;have hg0:=ho;have h3:=hs.heap;have B:=BB hh;obtain ⟨us,q1,q2,q3⟩:=h3.sim f 0 _ hg0;show Calls P (ρr.f 53) #[H.eval x] w _
 generalize H.eval x=V0 at r0
 cases r0 with
 | own T hle=>
  rename_i N r a
  by_cases C:k=[]
  .subst C;refine (AnyG.slices_Sort_int_none L a r w).mono λe w' ⟨R,e2⟩=>?_;subst R e2;refine ⟨Z,hs.writeG f 0 _ _ ho B Z Z Z (Θ _) (Θ _) (λ_ _ _=>rfl) (λ_ _ e=>by cases e) λW=>?_⟩;have h0:Cg []=[]:=by simp[Cg]
   rw[h0];exact ⟨us,q1,⟨by simpa using q2.1,λx C=>(by cases C),λi x C=>by simp at C⟩,λx C=>(by cases C)⟩
  .have hn:0<k.length:=mf.2 C;have hul:us.length=k.length:=by have:=q2.1;rw[χ] at this;omega
   have G:∃b o,a=some ⟨b,0,none⟩/\w.heap[b]? =some (.cells o E (0,0))/\o.size=r/\k.length<=r/\r<=maxLen/\o.toList.take k.length=us/\N=k.length:=by
    rcases q1.2 with ⟨_,h⟩ | ⟨b,cap',o,R,_,e2,e3,e4,e5,e6⟩
    .grind
    grind
   obtain ⟨b,o,rfl,p1,p2,p3,p3',p4,rfl⟩:=G;have hb:CA (ρ f 0)=some b:=by rw[T];rfl
   have Y:b<w.heap.size:=(ll.1 p1).1
   have hus:∀i (hi:i<k.length),us[i]? =some (.int .i64 k[i]):=λi hi=>by
    have hm:(k.map zD)[i]? =some (zD k[i]):=by rw[ς,ω hi];rfl
    obtain ⟨u,hu,_,hr⟩:=q2.2.2 i _ hm 0 (zD k[i]) rfl;rw[lz,li] at hu
    cases hr with
    | raw _=>exact hu
   have hH:Holds (Value.int .i64) w b 0 k.toArray:=by
    intro j hj
    grind[World.cell?,World.frozen?]
   have J:=AnyG.slices_Sort_int L b 0 r k w hH Y hsz;refine J.mono λe w' ⟨R,nd,os,hw⟩=>?_;subst R hw
   obtain ⟨z,K⟩:∃z,Cg k=z:=⟨_,Z⟩
   have U:(k.mergeSort λx y=>decide (x<=y))=z:=K;have M:z.length=k.length:=by rw[<-K,E5]
   rw[K] at B hh;rw[U];refine ⟨Z,?_⟩;have A:((putRow (Value.int .i64) (Go.Sort.ahead w nd) b 0 z.toArray)).heap.size=w.heap.size:=by rw[Go.Sort.size_putRow];rfl
   have X:∀I,I<w.heap.size->I≠b->(Go.Sort.grow (putRow (Value.int .i64) (Go.Sort.ahead w nd) b 0 z.toArray) os).heap[I]? =w.heap[I]?:=λI hl hne=>by
    rw[Go.Sort.heap_grow_old _ _ (by rw[A];exact hl)];show (w.heap.modify b _)[I]? =_;rw[mp,υ (Ne.symm hne)]
   refine hs.writeG f 0 _ _ ho B Z Z Z (by rw[Go.Sort.size_grow,A];exact Nat.le_add_right _ _) (Nat.le_add_right _ _) (λI hl hno=>X I hl (λe=>hno (by rw[e];exact hb))) (λ_ _ e=>by cases e) λW=>?_
   have Q:(Go.Sort.grow (putRow (Value.int .i64) (Go.Sort.ahead w nd) b 0 z.toArray) os).heap[b]? =some (.cells (putCells (Value.int .i64) 0 z.toArray o) E (0,0)):=by
    rw[Go.Sort.heap_grow_old _ _ (by rw[A];exact Y)];show (w.heap.modify b _)[b]? =_;rw[mp,ϱ Z,p1];rfl
   have hcs:(putCells (Value.int .i64) 0 z.toArray o).size=r:=by simp only[putCells,Array.size_mapIdx];exact p2
   have l:(z.map zD).length=k.length:=by rw[χ,M]
   refine ⟨z.map (Value.int .i64),⟨by rw[χ,l,M,lz],.inr ⟨b,r,_,by rw[T,l],κ _,Q,by rw[l];exact p3,p3',by omega,?_⟩⟩,⟨by rw[χ,l,M,lz],λx g=>?_,λi x g j c t=>?_⟩,λx g c t=>?_⟩
   .rw[l,lz]
    apply ma
    intro i
    by_cases hi:i<k.length
    .rw[ml hi,mF,ς,ω (by omega),lM (by omega)];simp only[putCells,Array.getElem_mapIdx];rw[ϱ ⟨κ _,by simp;omega⟩];simp only[Nat.sub_zero,l0];rw[getElem!_pos _ i (by simp;omega)]
     simp
    .rw[mQ (by rw[θ];omega),mQ (by rw[χ];omega)]
   .obtain ⟨y,_,rfl⟩:=Γ.1 g;rfl
   .rw[ς] at g
    cases hyi:z[i]? with
    | none=>rw[hyi] at g;cases g
    | some y=>
     rw[hyi] at g;injection g with g;subst g
     have hj0:j=0:=by have:=(φ.1 t).1;simp[D.cells] at this;exact this
     subst hj0;simp only[D.cells,List.getElem?_cons_zero,Option.some.injEq] at t;subst t;exact ⟨.int .i64 y,by rw[lz,li,ς,hyi];rfl,Z,.raw Z⟩
   .obtain ⟨y,_,rfl⟩:=Γ.1 g;simp only[D.cells,ξ] at t;subst t;rfl
end Go.Proofs.YteifpcnphnhaoaaGreat
namespace Go.Proofs.YteifpcnphnhaoaaGreat
open Go.RowKit
set_option maxRecDepth 100000
section
variable{P:Program}{F:Fr}{s:AS}{α β:Type}[DecidableEq α]{eK:α->D}{eV:β->D}{K:TypeId}{kv:α->Value}{d:Nat}{ty T E:TypeId}{pos:String}{aft:Array Edge}{g:Option (Nat×Bool)}{x y z:Operand}{bs:Option (List Nat×Nat)}
variable{a:D}
theorem UP(m:List (α×β))(b:α)(o v:β){f i:Nat}(S:s.ev x=some (.map f i))(W:dd s.hp f i=some (.map bs (Bi eK eV m)))(R:s.ev y=some (.d (eK b)))(L:Bu P T K E=true)(k:CC P K eK kv)(Q:DJ P E=some (.d a))(U:∀w O v,A0 w O a v->A0 w O (eV o) v)(V:Af m b o=v)(X:Nat.blt d s.n=true):
  AA P F ⟨some d,.lookup T x y false,ty,pos,aft,g⟩ s d (.d (eV v)):=
 DD _ X λl G w I=>by
  obtain ⟨mb,arr,c,N,_,M,C,B,_⟩:=I.mapAt S W;have J:G.eval y=kv b:=(I.repD R).val (k.val b);obtain ⟨H,A,u⟩:=Et Q w
  have t:∀r O l,A8 r O l (.d (eV o)) H:=λr O l=>by
   have:=u r O l
   cases this with
   | d h=>exact .d (U _ _ _ h)
  subst V;rcases kS k C B b o with ⟨D,_,Z,_⟩ | ⟨j,e,D,g2,_,_,_,_,Y⟩
  .refine ⟨H,?_,by rw[Z];exact t _ _ _⟩
   simp[execOp,Instr.lookup,run_underlying (Xw L),N,J,MapKept.run_getObj_map M,k.check,k.find w b _ _ (Zj k C B),D,A,Result.andThen]
  .refine ⟨e.val,?_,.d Y⟩
   simp[execOp,Instr.lookup,run_underlying (Xw L),N,J,MapKept.run_getObj_map M,k.check,k.find w b _ _ (Zj k C B),D,Result.andThen]
theorem Oj(m:List (α×β))(b:α)(D:β){f i:Nat}(hx:s.ev x=some (.map f i))(ho:dd s.hp f i=some (.map bs (Bi eK eV m)))(hy:s.ev y=some (.d (eK b)))(W:Bu P T K E=true)(o:CC P K eK kv)(hz:DJ P E=some (.d a))(hw:∀w O v,A0 w O a v->A0 w O (eV D) v)(hd:Nat.blt d s.n=true):
  AA P F ⟨some d,.lookup T x y true,ty,pos,aft,g⟩ s d (.tup [.d (eV (Af m b D)),.d (.raw (.bool (PU m b)))]):=
 DD _ hd λk N w U=>by
  obtain ⟨mb,arr,c,Y,_,C,t,L,_⟩:=U.mapAt hx ho;have V:N.eval y=kv b:=(U.repD hy).val (o.val b);obtain ⟨S,J,I⟩:=Et hz w
  have H:∀G O k,A8 G O k (.d (eV D)) S:=λG O k=>by
   have:=I G O k
   cases this with
   | d h=>exact .d (hw _ _ _ h)
  have l:∀{A u:Value} {R Q:AV},A8 w (F.O k s.hp) k R A->A8 w (F.O k s.hp) k Q u->A8 w (F.O k s.hp) k (.tup [R,Q]) (.tuple #[A,u]):=λ{A u R Q} C t=>by
   refine .tup (vs:=[A,u]) Z λi b v r B=>?_;rcases i with _ | _ | i
   .simp at r B;subst r B;exact C
   .simp at r B;subst r B;exact t
   .simp at r
  rcases kS o t L b D with ⟨M,X,g3,_⟩ | ⟨j,e,M,X,_,g4,_,_,g7⟩
  .refine ⟨.tuple #[S,.bool false],?_,l (by rw[g3];exact H _ _ _) (by rw[X];exact .d (.raw Z))⟩
   simp[execOp,Instr.lookup,run_underlying (Xw W),Y,V,MapKept.run_getObj_map C,o.check,o.find w b _ _ (Zj o t L),M,J,Result.andThen]
  .refine ⟨.tuple #[e.val,.bool true],?_,l (.d g7) (by rw[g4];exact .d (.raw Z))⟩
   simp[execOp,Instr.lookup,run_underlying (Xw W),Y,V,MapKept.run_getObj_map C,o.check,o.find w b _ _ (Zj o t L),M,Result.andThen]
end
theorem Hr:∀w O v,A0 w O (.agg [AE 0,AE 0,AE 0,.sl (some true) [],.sl (some true) [],.sl (some true) []]) v->A0 w O (Ah ey) v:=λw O v h=>h.aggMono Z (by simp[D.one]) λi c g b a v f=>by
 match i,b,a with
 | 0,b,a=>injection b with b;injection a with a;subst b a;exact f
 | 1,b,a=>injection b with b;injection a with a;subst b a;exact f
 | 2,b,a=>injection b with b;injection a with a;subst b a;exact f
 | 3,b,a=>injection b with b;injection a with a;subst b a;exact f.anyNil
 | 4,b,a=>injection b with b;injection a with a;subst b a;exact f.anyNil
 | 5,b,a=>injection b with b;injection a with a;subst b a;exact f.anyNil
def lE(l:List gf):List gf:=l.mergeSort λa b=>decide (BV a.r b.r<=0)
theorem qm(l:List gf):(lE l).Perm l:=List.mergeSort_perm l _
theorem PX(l:List gf):(lE l).length=l.length:=(qm l).length_eq
theorem qH{a b c:AW}(g:BV a b<=0)(f:BV b c<=0):BV a c<=0:=by
 by_cases i:BV a b=0
 .rw[Ds.1 i];exact f
 .by_cases h:BV b c=0
  .rw[<-Ds.1 h];exact g
  .have:=NM.trans a b c (by omega) (by omega);omega
theorem N0(l:List gf):(lE l).Pairwise λa b=>¬BV b.r a.r<0:=by
 have:=List.pairwise_mergeSort (le:=λa b:gf=>decide (BV a.r b.r<=0)) (λa b c g f=>by simp only[lh] at*;exact qH g f) (λa b=>by simp only[Bool.or_eq_true,lh];have:=NM.anti a.r b.r;omega) l
 exact this.imp λ{a b} h=>by
  have i:BV a.r b.r<=0:=by simpa using h
  have:=NM.anti a.r b.r;omega
theorem Y6{g:Type}(f:g->AW){l m i:List g}(c:(l.map f).Nodup)(s:m.Perm l)(j:m.Pairwise λa b=>¬BV (f b) (f a)<0)(o:i.Perm l)(t:i.Pairwise λa b=>¬BV (f b) (f a)<0):i=m:=by
 have r:∀{k:List g},(k.map f).Nodup->(k.Pairwise λa b=>¬BV (f b) (f a)<0)->k.Pairwise λa b=>BV (f a) (f b)<0:=λ{k} c h=>by
  rw[List.Nodup,lA] at c;refine (h.and c).imp λ{a b} ⟨v,u⟩=>?_;have o:=NM.anti (f a) (f b);have t:BV (f a) (f b)≠0:=λe=>u (Ds.1 e);omega
 exact sR (R:=λa b=>BV (f a) (f b)<0) (λx=>by rw[NM.refl];omega) (λx y z=>NM.trans _ _ _) (r ((o.map f).nodup_iff.2 c) t) (r ((s.map f).nodup_iff.2 c) j) λx=>by rw[o.mem_iff,s.mem_iff]
structure mM where
 r:AW
 n:Int
 q:List Int
abbrev PY(x:mM):D:= .agg [AE x.r.k,Am x.r.acc.o,AE x.r.acc.k,Am x.r.acc.a,Am x.r.f,Am x.r.t,AE x.n,.sl none (x.q.map AE)]
theorem gC(x:mM):∃a,PY x= .agg a:=⟨_,Z⟩
def B8(p:iB)(x:gf):mM:=⟨x.r,max x.n 0,iC (hY p) x.r⟩
def hJ(p:iB):List mM:=(lE p.ro).map (B8 p)
theorem Is(p:iB):(hJ p).length=p.ro.length:=by unfold hJ;rw[χ,PX]
theorem NV{l:List gf}(h:Db l=0):(l.map gf.r).Nodup:=by
 have c:=Tr.1 h;rw[List.Nodup,lA,lc];intro i j f a b e;have:=c j (Ω.2 a)
 grind[If,Gh]
theorem ZD{p:iB}(f:Ad p=0){c:List mM}(h:c.Perm (p.ro.map (B8 p)))(g:c.Pairwise λa b=>¬BV b.r a.r<0):c=hJ p:=by
 refine Y6 mM.r (l:=p.ro.map (B8 p)) ?_ ((qm p.ro).map _) ?_ h g
 .rw[jy];exact NV (HZ f).1
 .unfold hJ;rw[lA];exact N0 p.ro
theorem ul(a b:mM):AI prog 175 [.d (PY a),.d (PY b)] (AE (BV a.r b.r)):=by
 refine Av func175 Z Z ntmps175 Z Z Z λF c=>(AD (AF (V (Ba 1 Z Z Z Z Z Z Z) (V (Ba 2 Z Z Z Z Z Z Z) (AB Z Z (AC (AD ?_)))))));refine AF (J (AL Z L6 Z Z Z) (J (Ar Z Z Cw Z Z Z) (J (AL Z L6 Z Z Z) (J (Ar Z Z Cw Z Z Z) (J (Ak (NE a.r b.r) Z Z) (AB Z Z (AC (A5 ?_))))))));exact ⟨_,[],[],A2 Z,Z,Z,Z,Z⟩
def DA(l:List dr):List (Int×dr):=l.map λi=>(i.id,i)
theorem X5{l:List dr}{i:dr}(h:i.id∉l.map dr.id):B2 (DA l) i.id i=DA (l++ [i]):=by
 induction l with
 | nil=>rfl
 | cons a l b=>
  grind[B2,DA]
section
variable{β:Type}
end
variable{a:iB}{f:Int->Bool}{c:Type}{g:c->c->Int}{k:Nat}{i:Int}{h:List c}{j:List Int}{o:Type}{s:Nat}{t:Type}{x:c}
def IZ(p:iB):List Int:=(hY p).map dr.id
abbrev HA(p:iB):Hp:=[(10,[.blk 229 [.map 11 0,.d (.sl none ((IZ p).map AE)),.d (.sl none ((hJ p).map PY))]]),(11,[B6 AE Ah (DA p.it)])]
theorem w5(a:Int):(if 0>a then 0 else a)=max a 0:=by omega
theorem QG(p:iB)(t:FE p)(C:Ad p=0):AO prog 126 [.d (BM p)] [] λr N=>r= .tup [.ptr 3 0 0,.d (AE 0)]/\N=[(3,[.blk 229 [.map 2 0,.d (.sl none ((IZ p).map AE)),.d (.sl none ((hJ p).map PY))]]),(2,[B6 AE Ah (DA p.it)])]:=by
 have s:=GA p t;rw[C] at s;have B:=Xy (HZ C).2.1;have w:=Ii p t;have I:=t.1;have H:=t.2.1;refine Av func126 Z Z ntmps126 Z Z Z λF u=>(AD (AF (V (Ba 1 Z Z Z Z Z Z Z) ?_)));refine AB Z Z (AB Z Z (AC (AD (AD (AF (J (Ar Z Z CG Z Z Z) (J (Ak (s) Z Z) (AB Z Z ?_))))))));refine AC (AD (AF (cl Z Z (J (DP Z Z Z) (AC (Cr Z ((by decide)) (AU (AD ?_))))))));refine AF (V (SV 2 Z Z Z Z) (J (Ar Z Z CG Z Z Z) (J (Ak (w) Z Z) (J (Dx vS wH Z Z Z) (V (Ba 3 Z Z Z Z Z Z Z) (AB Z Z (AC (AD ?_))))))));refine AD (AF (J (AL Z FO Z Z Z) (J (AQ Z Z Z Md Z) (J (BW Z Qs Z) (cl Z Z (AC (AX (BC (α:=Nat) (λk=>⟨68,[(1,(.ptr 1 0 0)),(5,(.ptr 3 0 0)),(21,(.d (.sl none (p.it.map Ah)))),(22,(.d (AE (p.it.length:Int)))),(23,(.d (AE (k:Int))))],[(1,[B3 39 p]),(3,[.blk 229 [.map 2 0,.d (.sl none ((IZ p).map AE)),Gg]]),(2,[B6 AE Ah (DA (p.it.take k))])]⟩) (λk=>k<=p.it.length) (λk=>p.it.length-k) (0) (κ _) (AR u [1,3,2] Z Z ⟨Z,Z,Z,Z,Z,trivial⟩) ?_))))))));rintro k G;refine AD (AF (J (At Z Z Z) (AC (AD (A4 Z (λl=>?_) (λl=>?_))))))
 .have g:k<p.it.length:=BG l;refine AU (AD (AX (AD (AF ?_))));have z:p.it[k].id∉(p.it.take k).map dr.id:=λh=>by have D:=B;rw[List.Nodup,lA,lc] at D;obtain ⟨x,E,e⟩:=Γ.1 h;obtain ⟨j,O,rfl⟩:=nD.1 E;exact D j k (by omega) g (by omega) e
  refine J (Al (k) Z Z (Z) (AP g) Qs Z DT Z) (J (CT Z Z Cc Z) (V (CF 4 Fk Z Z Z Z) (V (Bc Z Z Z Z Z Z Z DT) (AC (Bm [[],[0],[0,1],[0,1,2],[],[4],[],rg 7] mixed Z (BY (A7 5 Z Z (AK [27] Z (MB Z Z) ?_))))))));refine AK [28] Z (AL Z L8 Z Z Z) (Ay [29] Z Z (λ_=>A9 (AQ Z Z Z Up Z)) (AK [7] Z (AL Z QU Z Z Z) (Ay [31] Z Z (λ_=>A9 (AQ Z Z Z Ag Z)) (Ay [7] Z Z (λ_=>A9 (Ar Z Z Cc Z Z Z)) (BR 7 Z Z Z (AZ 8 Z Z (V (Wa (DA (p.it.take k)) (p.it[k].id) (p.it[k]) Z Z Z VC I2 Z Z) (AC ⟨Z,?_⟩))))))));refine Bb (AF (J (Ac Z Z (AJ (k+1) (by omega)) Z) (cl Z Z (AC ?_))));exact ⟨k+1,by show k+1<=_;omega,by show p.it.length-(k+1)<p.it.length-k;omega,AR u [1,3,2] Z (by rw[ψ g,<-X5 z];rfl) ⟨Z,Z,Z,Z,Z,trivial⟩⟩
 .refine Aq (AD (AD ?_));rw[ζ (show p.it.length<=k by have h:=l;omega)];refine D3 3 0 2 900 db Z Z Z Z Z Z Z (AF (J (AL Z Gm Z Z Z) (J (AQ Z Z Z Uo Z) (J (BW Z b0 Z) (cl Z Z (AC (AX (BC (α:=Nat×List mM) (λq=>⟨68,[(1,(.ptr 1 0 0)),(5,(.ptr 3 0 0)),(36,(.d (.sl none (p.ro.map BT)))),(37,(.d (AE (p.ro.length:Int)))),(38,(.d (AE (q.1:Int))))],[(900,[.rowD 233 8 (q.2.map PY)]),(1,[B3 39 p]),(3,[.blk 229 [.map 2 0,.d (.sl none ((IZ p).map AE)),.own 900 0 q.2.length]]),(2,[B6 AE Ah (DA p.it)])]⟩) (λq=>q.1<=p.ro.length/\q.2=(p.ro.take q.1).map (B8 p)) (λq=>p.ro.length-q.1) ((0,[])) (⟨κ _,Z⟩) (AR u [900,1,3,2] Z Z ⟨Z,Z,Z,Z,Z,trivial⟩) ?_))))))));rintro ⟨m,c⟩ ⟨A,v⟩;dsimp only at A v⊢;refine AD (AF (J (At Z Z Z) (AC (AD (A4 Z (λi=>?_) (λi=>?_))))))
  .have o:m<p.ro.length:=BG i;refine AU (AD (AX (AD (AF ?_))));have K:c.length<=100000:=by rw[v,χ,θ];omega
   refine J (Al (m) Z Z (Z) (AP o) b0 Z QY Z) ?_;refine J (CT Z Z dm Z) (V (CF 5 Tu Z Z Z Z) (V (Bc Z Z Z Z Z Z Z QY) (AC (Bm [[],[],[1],[1,2],[1,2,3],[],[5],[],[7],[7,8],[],[],[11],[10,11,12],[5,6,7,8,9,10,11,12,13],[5,6,7,8,9,10,11,12,13,14],[1,2,3,4,5,6,7,8,9,10,11,12,13,14,15],rg 17,rg 18,rg 19] mixed Z (BY (A7 5 Z Z (A7 5 Z Z (AK [43] Z (MB Z Z) ?_))))))));refine AK [44] Z (AL Z L7 Z Z Z) (A1 [45] [3] Z Z (λ_=>A9 (AQ Z Z Z Yg Z)) (AK [9] Z (AL Z GK Z Z Z) (A1 [47] [5] Z Z (λ_=>A9 (Ar Z Z Cw Z Z Z)) (AK [9] Z (AL Z TG Z Z Z) (A1 [49] [5] Z Z (λ_=>A9 (AQ Z Z Z FK Z)) (AK [50] Z (MP Z Z (w5 _) Z) (A1 [1] [1] Z Z (λ_=>A9 (Ar Z Z CG Z Z Z)) (AK [9] Z (AL Z GK Z Z Z) ?_))))))));refine A1 [53] [5] Z Z (λ_=>A9 (Ar Z Z Cw Z Z Z)) (AK [52,54] Z (Ak (oP p p.ro[m].r t) Z Z) (AK [48,51,55] Z (Dx cZ wG Z Z Z) (Cq [56] [50] [(57,_)] Z Z (λ_=>Cd (CB 50 db Z Z Z Z Z Z Z Z)) (.inr ⟨57,_,Z,Z,Z,Z,Z⟩) Z Z Z Z Z (Cq [46,57] [900,50,3,2] [(58,_)] Z Z (λ_=>Cd (DQ (c) ([B8 p p.ro[m]]) Z Z Z Z Z Z Z Z db (by simp only[η];omega) Z Z Z Z)) (.inr ⟨58,_,Z,Z,Z,Z,Z⟩) Z Z Z Z Z (BR 17 Z Z Z (AZ 18 Z Z (J (MB Z Z) (AC ⟨Z,?_⟩))))))));refine AZ 19 Z Z (J (AL Z L7 Z Z Z) (AC ⟨Z,?_⟩));refine AZ 20 Z Z (V (Bc Z Z Z Z Z Z Z vg) (AC ⟨Z,?_⟩));refine Bb (AF (J (Ac Z Z (AJ (m+1) (by omega)) Z) (cl Z Z (AC ?_))));exact ⟨(m+1,c++ [B8 p p.ro[m]]),⟨by show m+1<=_;omega,by show c++ [B8 p p.ro[m]]=(p.ro.take (m+1)).map (B8 p);rw[EE o,v]⟩,by show p.ro.length-(m+1)<p.ro.length-m;omega,AR u [900,1,3,2] Z (Z) ⟨Z,Z,Z,Z,Z,trivial⟩⟩
  .refine Aq (AD ?_);have f:c=p.ro.map (B8 p):=by rw[v,ζ (by have h:=i;omega)]
   refine AF (cl Z Z (J (MB Z Z) (J (AL Z L7 Z Z Z) (J (AQ Z Z Z Yg Z) (V (OB th (k:=8) (by decide) isAgg233 sizeOf233 func175 Z Z gC (λa b=>BV a.r b.r) ((NM.comap mM.r).swo) c (hJ p) (by rw[f,χ];omega) (λx _ y _=>ul x y) (λys M L=>ZD C (by rw[<-f];exact M) L) Z Z Z My Z Z Z Z Z) ?_)))));refine AC (AD (qk (ys:=(hJ p).map PY) 3 0 2 900 Z Z Z (by rw[χ,Is,f,χ];exact Θ _) (ζ (by rw[χ,Is,f,χ];exact Θ _)) Z Z Z Z Z Z (AF (cl Z Z (AB Z Z (AB Z Z (AC (A5 ?_))))))));exact ⟨_,[3,2],_,A2 Z,Z,Z,Z,Z⟩
theorem WR(p:iB)(b:FE p)(c:Ad p≠0):AI prog 126 [.d (BM p)] (.tup [.raw (.pointer none),AE (Ad p)]):=by
 have a:=GA p b;refine Av func126 Z Z ntmps126 Z Z Z λF f=>(AD (AF (V (Ba 1 Z Z Z Z Z Z Z) (AB Z Z (AB Z Z (AC (AD (AD ?_))))))));refine AF (J (Ar Z Z CG Z Z Z) (J (Ak (a) Z Z) (AB Z Z (AC (AD (AF (cl Z Z (J (DP Z Z Z) ?_))))))));refine AC (CM Z ((Υ c)) (AD (AF (cl Z Z (AB Z Z (AB Z Z (AC (A5 ?_))))))));exact ⟨_,[],[],A2 Z,Z,Z,Z,Z⟩
theorem X6(l:List dr)(i:Int):Af (DA l) i ey=l.getD ((l.map dr.id).idxOf i) ey:=by
 induction l with
 | nil=>rfl
 | cons a l b=>
  grind[Af,DA]
theorem K6(l:List dr)(i:Int):PU (DA l) i=decide (i∈l.map dr.id):=by
 rw[nH,GF,lh];unfold DA;rw[jy];rfl
theorem Rm(p:iB)(i:Int):Af (DA p.it) i ey=hG p i:=X6 p.it i
theorem Su(b:FE a)(i:Int):(hG a i).po.length<=100000/\(hG a i).pa.length<=100000/\(hG a i).af.length<=100000:=by grind[hG,ey,FE]
theorem Oz(p:iB)(l:List Int)(v:FE p)(y:l.length<=100000)(c:EZ p l=0):AO prog 71 [.d (BM p),.d (.sl none (l.map AE))] [] λr x=>r= .tup [.ptr 10 0 0,.map 2 0,.d (AE 0)]/\x=HA p++ [(2,[B6 AE Aj (Aw l)])]:=by
 have t:Ad p=0:=by
  unfold EZ at c;split at c
  .exact c
  .rename_i h;simpa using h
 have o:=(QG p v t).by [(3,10),(2,11)] rfl;have w:EZ p l=Sc (p.it.map dr.id) l:=υ (λh=>h t);rw[w] at c;refine Av func71 Z Z ntmps71 Z Z Z λF s=>(AD (AF (V (Ba 1 Z Z Z Z Z Z Z) ?_)));refine AB Z Z (AB Z Z (AB Z Z (AC (AD (AF (J (Ar Z Z CG Z Z Z) (V (F8 o Z [10,11] ⟨Z,Z,trivial⟩ Z Z Z Z Z Z Z Z Z) (cl Z Z ?_))))))));refine J (D6 Z Z Z) (J (D6 Z Z Z) (AB Z Z (AB Z Z (AC (AD (AD (AF (cl Z Z ?_))))))));refine J (DP Z Z Z) (AC (Cr Z ((by decide)) (AU (AD (AF (V (SV 2 Z Z Z Z) (AB Z Z (AC ?_))))))));refine AD (AD (AF (cl Z Z (J (BW Z E0 Z) (cl Z Z (AC (AX (BC (α:=Nat) (λk=>⟨48,[(7,(.ptr 10 0 0)),(9,(.map 2 0)),(23,(.d (.sl none (l.map AE)))),(24,(.d (AE (l.length:Int)))),(25,(.d (AE (k:Int))))],HA p++ [(2,[B6 AE Aj (Aw (l.take k))])]⟩) (λk=>k<=l.length) (λk=>l.length-k) (0) (κ _) (AR s [10,11,2] Z Z ⟨Z,Z,Z,Z,Z,trivial⟩) ?_))))))));rintro k u;refine AD (AF (J (At Z Z Z) (AC (AD (A4 Z (λb=>?_) (λb=>?_))))))
 .have a:k<l.length:=BG b;refine AU (AD (AX (AD (AF ?_))));have i:l[k]∈p.it.map dr.id:=(Sb c).2 _ (ϑ a);have f:l[k]∉l.take k:=λh=>by have g:=(Sb c).1;rw[List.Nodup,lc] at g;obtain ⟨j,z,e⟩:=nD.1 h;exact g j k (by omega) a (by omega) e
  refine J (Al (k) Z Z (Z) (AP a) E0 Z BE Z) (J (BZ Z Z Ag Z) (AB Z Z (AC (AD (AD (AF (cl Z Z (J (MB Z Z) ?_))))))));refine J (AL Z L8 Z Z Z) (J (AQ Z Z Z Up Z) (cl Z Z (J (Oj (DA p.it) l[k] ey Z Z Z VC I2 nW Hr Z) (cl Z Z (J (D6 Z Z Z) (J (D6 Z Z Z) (V (CF 3 Fk Z Z Z Z) (V (Bc Z Z Z Z Z Z Z DT) ?_))))))));refine AB Z Z (AC (AD (AF (cl Z Z (J (QV Z Z) (AC (Cr Z ((by rw[K6,Υ i];rfl)) (AU ?_))))))));refine AD (AD (AF (cl Z Z (cl Z Z (J (I4 (Aw (l.take k)) (l[k]) (false) _ Z Z Z KE I2 W4 Z Z) (AC (Cr Z ((by rw[Zh];exact kD f)) (AU ?_))))))));refine AF (cl Z Z (cl Z Z (V (Wa (Aw (l.take k)) (l[k]) (true) Z Z Z KE I2 Z Z) (AC (AF (J (Ac Z Z (AJ (k+1) (by omega)) Z) (cl Z Z (AC ?_))))))));exact ⟨k+1,by show k+1<=_;omega,by show l.length-(k+1)<l.length-k;omega,AR s [10,11,2] Z (by rw[ψ a,<-jU f];rfl) ⟨Z,Z,Z,Z,Z,trivial⟩⟩
 .refine Aq ?_;refine AD (AF (cl Z Z (cl Z Z (AB Z Z (AB Z Z (AB Z Z (AC (A5 ?_))))))));exact ⟨_,[10,11,2],_,A2 Z,Z,Z,Z,by rw[ζ (show l.length<=k by have h:=b;omega)];rfl⟩
theorem U9(p:iB)(l:List Int)(z:FE p)(C:l.length<=100000)(w:EZ p l≠0):AI prog 71 [.d (BM p),.d (.sl none (l.map AE))] (.tup [.raw (.pointer none),.raw (.map none),AE (EZ p l)]):=by
 by_cases s:Ad p=0
 .have t:=(QG p z s).by [(3,10),(2,11)] rfl;have x:EZ p l=Sc (p.it.map dr.id) l:=υ (λh=>h s);rw[x] at w⊢
  obtain ⟨B,r⟩:∃e,Sc (p.it.map dr.id) l=e:=⟨_,Z⟩
  rw[r] at w⊢;refine Av func71 Z Z ntmps71 Z Z Z λF v=>(AD (AF (V (Ba 1 Z Z Z Z Z Z Z) ?_)));refine AB Z Z (AB Z Z (AB Z Z (AC (AD (AF (J (Ar Z Z CG Z Z Z) (V (F8 t Z [10,11] ⟨Z,Z,trivial⟩ Z Z Z Z Z Z Z Z Z) (cl Z Z ?_))))))));refine J (D6 Z Z Z) (J (D6 Z Z Z) (AB Z Z (AB Z Z (AC (AD (AD (AF (cl Z Z ?_))))))));refine J (DP Z Z Z) (AC (Cr Z ((by decide)) (AU (AD (AF (V (SV 2 Z Z Z Z) (AB Z Z (AC ?_))))))));refine AD (AD (AF (cl Z Z (J (BW Z E0 Z) (cl Z Z (AC (AX (BC (α:=Nat) (λk=>⟨48,[(7,(.ptr 10 0 0)),(9,(.map 2 0)),(23,(.d (.sl none (l.map AE)))),(24,(.d (AE (l.length:Int)))),(25,(.d (AE (k:Int))))],HA p++ [(2,[B6 AE Aj (Aw (l.take k))])]⟩) (λk=>k<=l.length/\B=BP (((List.range l.length).drop k).map (IQ (p.it.map dr.id) l))) (λk=>l.length-k) (0) (⟨κ _,r.symm⟩) (AR v [10,11,2] Z Z ⟨Z,Z,Z,Z,Z,trivial⟩) ?_))))))));rintro k ⟨A,y⟩;refine AD (AF (J (At Z Z Z) (AC (AD (A4 Z (λo=>?_) (λo=>?_))))))
  .have f:k<l.length:=BG o;refine AU (AD (AX (AD (AF ?_))));have j:=sT f y;have i:=EC 0 f;refine J (Al (k) Z Z (Z) (AP f) E0 Z BE Z) (J (BZ Z Z Ag Z) (AB Z Z (AC (AD (AD (AF (cl Z Z ?_)))))));refine J (MB Z Z) (J (AL Z L8 Z Z Z) (J (AQ Z Z Z Up Z) (cl Z Z (J (Oj (DA p.it) l[k] ey Z Z Z VC I2 nW Hr Z) (cl Z Z (J (D6 Z Z Z) (J (D6 Z Z Z) (V (CF 3 Fk Z Z Z Z) ?_))))))));refine V (Bc Z Z Z Z Z Z Z DT) (AB Z Z (AC (AD (AF (cl Z Z (J (QV Z Z) (AC (Jo Z (λb=>?_) (λb=>?_)))))))))
   .have g:¬l[k]∈p.it.map dr.id:=by rw[K6] at b;simpa using b
    refine AD (AF (AB Z Z (AB Z Z (AB Z Z (AC (A5 ?_))))));exact ⟨_,[],[],A2 Z,Z,Z,by rw[j.2 9 (by unfold IQ;rw[i,ϱ g]) (by decide)],Z⟩
   .have g:l[k]∈p.it.map dr.id:=by rw[K6] at b;simpa using b
    refine AU (AD (AD (AF (cl Z Z (cl Z Z (J (I4 (Aw (l.take k)) (l[k]) (false) _ Z Z Z KE I2 W4 Z Z) (AC (Jo Z (λa=>?_) (λa=>?_)))))))))
    .have c:l[k]∈l.take k:=by rw[Zh] at a;simpa using a
     refine AD (AF (AB Z Z (AB Z Z (AB Z Z (AC (A5 ?_))))));exact ⟨_,[],[],A2 Z,Z,Z,by rw[j.2 7 (by unfold IQ;rw[i,υ (λh=>h g),ϱ c]) (by decide)],Z⟩
    .have c:¬l[k]∈l.take k:=by rw[Zh] at a;simpa using a
     refine AU ?_;refine AF (cl Z Z (cl Z Z (V (Wa (Aw (l.take k)) (l[k]) (true) Z Z Z KE I2 Z Z) (AC (AF (J (Ac Z Z (AJ (k+1) (by omega)) Z) (cl Z Z (AC ?_))))))));exact ⟨k+1,⟨by show k+1<=_;omega,j.1 (by unfold IQ;rw[i,υ (λh=>h g),υ c])⟩,by show l.length-(k+1)<l.length-k;omega,AR v [10,11,2] Z (by rw[ψ f,<-jU c];rfl) ⟨Z,Z,Z,Z,Z,trivial⟩⟩
  .refine Aq ?_;refine AD (AF (cl Z Z (cl Z Z (AB Z Z (AB Z Z (AB Z Z (AC (A5 ?_))))))));exact absurd (by rw[y,nB (by have h:=o;simp only[kj];omega)];rfl) w
 .have x:EZ p l=Ad p:=ϱ s;have u:=WR p z s;rw[x];refine Av func71 Z Z ntmps71 Z Z Z λF v=>(AD (AF (V (Ba 1 Z Z Z Z Z Z Z) (AB Z Z (AB Z Z ?_)))));refine AB Z Z (AC (AD (AF (J (Ar Z Z CG Z Z Z) (J (Ak (u) Z Z) (cl Z Z (J (DI Z Z Z) (J (DI Z Z Z) ?_))))))));refine AB Z Z (AB Z Z (AC (AD (AD (AF (cl Z Z (J (DP Z Z Z) (AC ?_))))))));refine CM Z ((Υ s)) (AD (AF (cl Z Z (AB Z Z (AB Z Z (AB Z Z (AC (A5 ?_))))))));exact ⟨_,[],[],A2 Z,Z,Z,Z,Z⟩
structure kX where
 i:Int
 m:Int
 r:AW
 deriving DecidableEq
abbrev HE:AW:=⟨0,Tj,[],[]⟩
abbrev IG(x:kX):D:= .agg [AE x.i,AE x.m,AE x.r.k,Am x.r.acc.o,AE x.r.acc.k,Am x.r.acc.a,Am x.r.f,Am x.r.t]
def kJ(i:Int)(q:List Int):Nat:=(max (St i q) 0).toNat
def j1(i:Int)(q:List Int):List Int:=q.take (kJ i q)
def U4(i:Int)(af:List Int):List kX:=(Cg af).map λx=>⟨i,x,HE⟩
def CJ(i:Int)(x:mM):List kX:=(j1 i x.q).map λy=>⟨i,y,x.r⟩
def kb(p:iB)(i:Int):List kX:=U4 i (hG p i).af++(hJ p).flatMap (CJ i)
def CS(kB:Int->Bool)(l:List kX):List kX:=l.filter λb=>!kB b.m
def kB(M:List (Int×Bool))(x:Int):Bool:=Af M x false
theorem eZ(i:Int)(q:List Int):kJ i q<=q.length:=by grind[kJ,St]
theorem e9(i:Int)(q:List Int):max (St i q) 0=(kJ i q:Int):=by unfold kJ;omega
theorem JL(f:Int->Bool)(l m:List kX):CS f (l++m)=CS f l++CS f m:=mB _ _
theorem cJ(f:Int->Bool)(l:List kX):(CS f l).length<=l.length:=lB _ _
theorem Dt{l:List kX}(a:k<l.length):CS f (l.take (k+1))=CS f (l.take k)++(if !f l[k].m then [l[k]] else []):=cT a
theorem jV{f:t->List o}{l:List t}(a:k<l.length):(l.take (k+1)).flatMap f=(l.take k).flatMap f++f l[k]:=by
 rw[ψ a,List.flatMap_append];simp
theorem Iz{b c:Type}{f:b->List c}{n:Nat}:∀{l:List b},(∀x∈l,(f x).length<=n)->(l.flatMap f).length<=l.length*n
 | [],_=>by simp
 | a::l,h=>by
  have j:=h a (by simp);have i:=Iz (l:=l) (λx g=>h x (by simp[g]));rw[List.flatMap_cons,Δ,mN,m8];omega
theorem gA(x:mM)(b:x∈hJ a):x.q.length<=a.it.length:=by
 unfold hJ at b;obtain ⟨y,_,rfl⟩:=Γ.1 b;show (iC (hY a) y.r).length<=_
 grind[iC,DY]
theorem U3(i:Int)(x:mM)(b:x∈hJ a):(CJ i x).length<=a.it.length:=by
 unfold CJ j1;rw[χ,θ];have:=gA x b;omega
abbrev mapV(mv:Nat):AV:= .d (.raw (.map (some mv)))
abbrev nR(p:iB)(mv:Nat)(bs:Option (List Nat×Nat))(M:List (Int×Bool)):Hp:=HA p++ [(12,[.map bs (Bi AE Aj M)]),(13,[.addr 12 0 (.map (some mv))])]
theorem Xo(p:iB)(g:Nat)(K:Option (List Nat×Nat))(M:List (Int×Bool))(i:Int)(hb:FE p)(h1:p.it.length<=1000)(h2:p.ro.length<=1000):AO prog 127 [.ptr 10 0 0,mapV g,.d (AE i)] (nR p g K M) λr H'=>r= .d (.sl none ((CS (kB M) (kb p i)).map IG))/\H'=nR p g K M:=by
 have hI:=Rm p i;have hIb:=Su hb i;have hLl:=Is p;have W:=(ig (hG p i).af (by omega)).by [(20,21)] rfl;have E:∀x∈hJ p,(CJ i x).length<=1000:=λx N=>jq (U3 i x N) h1;have B:=E5 (hG p i).af
 obtain ⟨S,X⟩:∃S,Cg (hG p i).af=S:=⟨_,Z⟩
 have C:kb p i=(S.map λx=>(⟨i,x,HE⟩:kX))++(hJ p).flatMap (CJ i):=by unfold kb U4;rw[X]
 rw[C];rw[X] at B;refine Av func127 Z Z ntmps127 Z Z Z λF s=>(AD ?_);refine AF (AB Z Z (AC (AD (AF (AB Z Z (AC (AD (IY 7 900 Oo Z Z Z Z ?_))))))));refine AF (cl Z Z (J (MB Z Z) (J (AL Z L8 Z Z Z) (J (AQ Z Z Z Up Z) (cl Z Z (J (UP (DA p.it) i ey (hG p i) Z Z Z VC I2 nW Hr hI Z) (J (Ws Z GL Z Z) (V (F8 W Z [21] ⟨Z,trivial⟩ Z Z Z Z Z Z Z Z Z) ?_))))))));refine AB Z Z (AC (AD (AF (cl Z Z (V (UK sD (hG p i).af (by omega) Z Z Z Z Z Z Z) (AC (AD (AD ?_))))))));rw[X];refine Fi (emb:=AE) 8 21 S Z Z Z B.symm Z Z Z (AF (cl Z Z (J (BW Z E0 Z) (cl Z Z (AC (AX (BC (α:=Nat×List kX) (λq=>⟨81,[(0,.ptr 10 0 0),(1,mapV g),(2,.d (AE i)),(7,(.own 900 0 q.2.length)),(26,(.d (.sl none (S.map AE)))),(27,(.d (AE (S.length:Int)))),(28,(.d (AE (q.1:Int))))],nR p g K M++ [(900,[.rowD 144 8 (q.2.map IG)])]⟩) (λq=>q.1<=S.length/\q.2=CS (kB M) ((S.map λx=>(⟨i,x,HE⟩:kX)).take q.1)) (λq=>S.length-q.1) ((0,[])) (⟨κ _,Z⟩) (AR s [10,11,12,13,900] Z Z ⟨Z,Z,Z,Z,Z,Z,Z,trivial⟩) ?_)))))));rintro ⟨k,c⟩ ⟨Q,I⟩;dsimp only at Q I⊢;refine AD (AF (J (At Z Z Z) (AC (AD (A4 Z (λA=>?_) (λA=>?_))))))
 .have t:k<S.length:=BG A;refine AU (AD (AX (AD (AF (J (Al (k) Z Z (Z) (AP t) E0 Z BE Z) (J (BZ Z Z Ag Z) (AB Z Z (AC ?_))))))));refine AD (AF (cl Z Z (EP 32 13 0 Z Z (cl Z Z (J (I4 M S[k] false (kB M S[k]) Z Z Z KE I2 W4 Z Z) (J (QV Z Z) (AC (Jo Z (λz=>?_) (λz=>?_)))))))))
  .refine AF ?_;have hal:c.length<=100000:=by rw[I];refine jq (cJ _ _) ?_;rw[θ,χ];omega
   refine cl Z Z (cl Z Z (cl Z Z ?_));refine J (Dx c9 rq Z Z Z) (V (CB 1 Oo Z Z Z Z Z Z Z Z) (V (DQ (c) ([⟨i,S[k],HE⟩]) Z Z Z Z Z Z Z Z Oo (by simp only[η];omega) Z Z Z Z) (AB Z Z (AC (AF (J (Ac Z Z (AJ (k+1) (by omega)) Z) (cl Z Z (AC ?_))))))));exact ⟨(k+1,c++ [⟨i,S[k],HE⟩]),⟨by show k+1<=_;omega,by show c++ [⟨i,S[k],HE⟩]=CS (kB M) ((S.map λx=>(⟨i,x,HE⟩:kX)).take (k+1));rw[Dt (by simpa using t),kR,ϱ (by show (!kB M S[k])=true;simpa using z),I]⟩,by show S.length-(k+1)<S.length-k;omega,AR s [10,11,12,13,900] Z (Z) ⟨Z,Z,Z,Z,Z,Z,Z,trivial⟩⟩
  .refine AU (AF (J (Ac Z Z (AJ (k+1) (by omega)) Z) (cl Z Z (AC ?_))));exact ⟨(k+1,c),⟨by show k+1<=_;omega,by show c=CS (kB M) ((S.map λx=>(⟨i,x,HE⟩:kX)).take (k+1));rw[Dt (by simpa using t),kR,υ (by show ¬(!kB M S[k])=true;simpa using z),kZ,I]⟩,by show S.length-(k+1)<S.length-k;omega,AR s [10,11,12,13,900] Z (Z) ⟨Z,Z,Z,Z,Z,Z,Z,trivial⟩⟩
 .refine Aq (AD (AD ?_));have H:c=CS (kB M) (S.map λx=>(⟨i,x,HE⟩:kX)):=by rw[I,ζ (by rw[χ];have h:=A;omega)]
  have hal1:c.length<=100000:=by rw[H];refine jq (cJ _ _) ?_;rw[χ];omega
  refine AF ?_;refine cl Z Z (J (MB Z Z) (J (AL Z L7 Z Z Z) (J (AQ Z Z Z Yg Z) (J (BW Z underlying227 Z) (cl Z Z (AC (AX (BC (α:=Nat×List kX) (λq=>⟨81,[(0,.ptr 10 0 0),(1,mapV g),(2,.d (AE i)),(7,(.own 900 0 q.2.length)),(46,(.d (.sl none ((hJ p).map PY)))),(47,(.d (AE ((hJ p).length:Int)))),(48,(.d (AE (q.1:Int))))],nR p g K M++ [(900,[.rowD 144 8 (q.2.map IG)])]⟩) (λq=>q.1<=(hJ p).length/\q.2=c++CS (kB M) (((hJ p).take q.1).flatMap (CJ i))) (λq=>(hJ p).length-q.1) ((0,c)) (⟨κ _,by simp[CS]⟩) (AR s [10,11,12,13,900] Z Z ⟨Z,Z,Z,Z,Z,Z,Z,trivial⟩) ?_))))))));rintro ⟨m,b⟩ ⟨O,L⟩;dsimp only at O L⊢;refine AD (AF (J (At Z Z Z) (AC (AD (A4 Z (λy=>?_) (λy=>?_))))))
  .have o:m<(hJ p).length:=BG y;refine AU (AD (AX (AD (AF ?_))));have hql:=gA _ (ϑ o);have T:=Iz (f:=CJ i) (n:=1000) (l:=(hJ p).take m) (λx N=>E x (lL N));have hbl:b.length<=1200000:=by rw[L,Δ];have:=cJ (kB M) (((hJ p).take m).flatMap (CJ i));rw[θ] at T;have h3:min m (hJ p).length*1000<=1000*1000:=lq _ (by omega);omega
   refine J (Al (m) Z Z (Z) (AP o) underlying227 Z YP Z) (J (CT Z Z r9 Z) (V (CF 2 cZ Z Z Z Z) (V (Bc Z Z Z Z Z Z Z YP) (AC (AD (AF ?_))))));refine J (AL Z ZR Z Z Z) (J (AQ Z Z Z BJ Z) (cl Z Z (J (Ak (ZM (hJ p)[m].q i (by omega)) Z Z) (AB Z Z (AC (AD (AF (J (AL Z ZR Z Z Z) ?_))))))));refine J (AQ Z Z Z BJ Z) (cl Z Z (J (MP Z Z (w5 _) Z) (J (Xx ((hJ p)[m].q) (kJ i (hJ p)[m].q) Z Z Z (e9 _ _) (eZ _ _) E0 BE (λ_=>rfl) Z) (J (BW Z E0 Z) (cl Z Z (AC (AX (BC (α:=Nat×List kX) (λq=>⟨81,[(0,.ptr 10 0 0),(1,mapV g),(2,.d (AE i)),(7,(.own 900 0 q.2.length)),(12,(.ptr 2 0 0)),(46,(.d (.sl none ((hJ p).map PY)))),(47,(.d (AE ((hJ p).length:Int)))),(48,(.d (AE (m:Int)))),(60,(.d (.sl none ((j1 i (hJ p)[m].q).map AE)))),(61,(.d (AE ((j1 i (hJ p)[m].q).length:Int)))),(62,(.d (AE (q.1:Int))))],nR p g K M++ [(900,[.rowD 144 8 (q.2.map IG)]),(2,[.blk 233 [.d (AE (hJ p)[m].r.k),.d (Am (hJ p)[m].r.acc.o),.d (AE (hJ p)[m].r.acc.k),.d (Am (hJ p)[m].r.acc.a),.d (Am (hJ p)[m].r.f),.d (Am (hJ p)[m].r.t),.d (AE (hJ p)[m].n),.d (.sl none ((hJ p)[m].q.map AE))]])]⟩) (λq=>q.1<=(j1 i (hJ p)[m].q).length/\q.2=b++CS (kB M) ((CJ i (hJ p)[m]).take q.1)) (λq=>(j1 i (hJ p)[m].q).length-q.1) ((0,b)) (⟨κ _,by simp[CS]⟩) (AR s [10,11,12,13,900,2] Z Z ⟨Z,Z,Z,Z,Z,Z,Z,Z,Z,Z,Z,trivial⟩) ?_))))))));rintro ⟨j,a⟩ ⟨R,G⟩;dsimp only at R G⊢;refine AD (AF (J (At Z Z Z) (AC (AD (A4 Z (λw=>?_) (λw=>?_))))))
   .have u:j<(j1 i (hJ p)[m].q).length:=BG w;refine AU (AD (AX (AD (AF (J (Al (j) Z Z (Z) (AP u) E0 Z BE Z) (J (BZ Z Z Ag Z) (AB Z Z (AC ?_))))))));refine AD (AF (cl Z Z (EP 66 13 0 Z Z (cl Z Z (J (I4 M (j1 i (hJ p)[m].q)[j] false (kB M (j1 i (hJ p)[m].q)[j]) Z Z Z KE I2 W4 Z Z) (J (QV Z Z) (AC (Jo Z (λv=>?_) (λv=>?_)))))))))
    .refine AF ?_;have Y:a.length<=1300000:=by rw[G,Δ];have h3:=cJ (kB M) ((CJ i (hJ p)[m]).take j);have h4:=E _ (ϑ o);rw[θ] at h3;omega
     refine cl Z Z (cl Z Z (cl Z Z (J (AL Z L6 Z Z Z) (J (Ar Z Z Cw Z Z Z) ?_))));refine J (Dx c9 rq Z Z Z) (V (CB 3 Oo Z Z Z Z Z Z Z Z) (V (DQ (a) ([⟨i,(j1 i (hJ p)[m].q)[j],(hJ p)[m].r⟩]) Z Z Z Z Z Z Z Z Oo (by simp only[η];omega) Z Z Z Z) (AB Z Z (AC (AF (J (Ac Z Z (AJ (j+1) (by have h5:(j1 i (hJ p)[m].q).length<=1000:=by {unfold j1;rw[θ];omega};omega)) Z) (cl Z Z (AC ?_))))))));exact ⟨(j+1,a++ [⟨i,(j1 i (hJ p)[m].q)[j],(hJ p)[m].r⟩]),⟨by show j+1<=_;omega,by show a++ [⟨i,(j1 i (hJ p)[m].q)[j],(hJ p)[m].r⟩]=b++CS (kB M) ((CJ i (hJ p)[m]).take (j+1));rw[Dt (by unfold CJ;simpa using u),G,lm];congr 2;unfold CJ;rw[kR,ϱ (by show (!kB M (j1 i (hJ p)[m].q)[j])=true;simpa using v)]⟩,by show (j1 i (hJ p)[m].q).length-(j+1)<(j1 i (hJ p)[m].q).length-j;omega,AR s [10,11,12,13,900,2] Z (Z) ⟨Z,Z,Z,Z,Z,Z,Z,Z,Z,Z,Z,trivial⟩⟩
    .refine AU (AF (J (Ac Z Z (AJ (j+1) (by have h5:(j1 i (hJ p)[m].q).length<=1000:=by {unfold j1;rw[θ];omega};omega)) Z) (cl Z Z (AC ?_))));exact ⟨(j+1,a),⟨by show j+1<=_;omega,by show a=b++CS (kB M) ((CJ i (hJ p)[m]).take (j+1));rw[Dt (by unfold CJ;simpa using u),G];unfold CJ;rw[kR,υ (by show ¬(!kB M (j1 i (hJ p)[m].q)[j])=true;simpa using v),kZ]⟩,by show (j1 i (hJ p)[m].q).length-(j+1)<(j1 i (hJ p)[m].q).length-j;omega,AR s [10,11,12,13,900,2] Z (Z) ⟨Z,Z,Z,Z,Z,Z,Z,Z,Z,Z,Z,trivial⟩⟩
   .have D:a=b++CS (kB M) (CJ i (hJ p)[m]):=by rw[G,ζ (by unfold CJ;rw[χ];have h:=w;omega)]
    refine Aq (AF (J (Ac Z Z (AJ (m+1) (by omega)) Z) (cl Z Z (AC ?_))));exact ⟨(m+1,a),⟨by show m+1<=_;omega,by show a=c++CS (kB M) (((hJ p).take (m+1)).flatMap (CJ i));rw[jV o,JL,<-lm,<-L];exact D⟩,by show (hJ p).length-(m+1)<(hJ p).length-m;omega,AR s [10,11,12,13,900] Z (Z) ⟨Z,Z,Z,Z,Z,Z,Z,trivial⟩⟩
  .refine Aq (AD ?_);have U:b=CS (kB M) ((S.map λx=>(⟨i,x,HE⟩:kX))++(hJ p).flatMap (CJ i)):=by rw[L,H,ζ (by have h:=y;omega),JL]
   refine Fi (emb:=IG) 7 900 b Z Z Z Z Z Z Z (AF (cl Z Z (AB Z Z (AC (A5 ?_)))));exact ⟨_,[10,11,12,13],_,A2 Z,Z,Z,by rw[U],Z⟩
def FQ(p:iB)(f:Int->Bool)(i:Int):List kX:=if f i then CS f (kb p i) else []
def jc(p:iB)(f:Int->Bool):List kX:=(IZ p).flatMap (FQ p f)
theorem OD(c:FE a)(g:a.it.length<=1000)(k:a.ro.length<=1000)(i:Int):(kb a i).length<=1100000:=by
 unfold kb U4;rw[Δ,χ,E5];have j:=Su c i;have h:=Iz (f:=CJ i) (n:=1000) (l:=hJ a) (λx b=>jq (U3 i x b) g)
 grind[Is]
theorem WO(b:FE a)(g:a.it.length<=1000)(c:a.ro.length<=1000)(f:Int->Bool)(i:Int):(FQ a f i).length<=1100000:=by grind[FQ,cJ,OD]
theorem ZH{a N:Nat}(h:a<=k*N):a<=(k+1)*N:=jq h (lq _ (Nat.le_succ _))
theorem VM{a b:List t}{N:Nat}(h:a.length<=k*N)(c:b.length<=N):(a++b).length<=(k+1)*N:=by grind
theorem ir(p:iB)(g:Nat)(u:Option (List Nat×Nat))(M:List (Int×Bool))(o:FE p)(l:p.it.length<=1000)(t:p.ro.length<=1000):AO prog 72 [.ptr 10 0 0,mapV g] (nR p g u M) λr C=>r= .d (.sl none ((jc p (kB M)).map IG))/\C=nR p g u M:=by
 have B:∀i,(FQ p (kB M) i).length<=1100000:=WO o l t _;have j:(IZ p).length<=1000:=by unfold IZ;rw[χ];exact jq (DY p) l
 have x:jc p (kB M)=(IZ p).flatMap (FQ p (kB M)):=rfl;rw[x];refine Av func72 Z Z ntmps72 Z Z Z λF z=>(AD (AF (AB Z Z ?_)));refine AC (AD (AF (AB Z Z (AC (AD (AD (IY 5 900 Oo Z Z Z Z (AF ?_))))))));refine cl Z Z (J (MB Z Z) (J (AL Z pR Z Z Z) (J (AQ Z Z Z BJ Z) (J (BW Z E0 Z) (cl Z Z (AC (AX (BC (α:=Nat×List kX) (λq=>⟨28,[(0,.ptr 10 0 0),(1,mapV g),(5,(.own 900 0 q.2.length)),(11,(.d (.sl none ((IZ p).map AE)))),(12,(.d (AE ((IZ p).length:Int)))),(13,(.d (AE (q.1:Int))))],nR p g u M++ [(900,[.rowD 144 8 (q.2.map IG)])]⟩) (λq=>q.1<=(IZ p).length/\q.2=((IZ p).take q.1).flatMap (FQ p (kB M))/\q.2.length<=q.1*1100000) (λq=>(IZ p).length-q.1) ((0,[])) (⟨κ _,Z,Θ _⟩) (AR z [10,11,12,13,900] Z Z ⟨Z,Z,Z,Z,Z,Z,trivial⟩) ?_))))))));rintro ⟨k,a⟩ ⟨v,s,y⟩;dsimp only at v s y⊢;refine AD (AF (J (At Z Z Z) (AC (AD (A4 Z (λf=>?_) (λf=>?_))))))
 .have b:k<(IZ p).length:=BG f;refine AU (AD (AX (AD (AF (J (Al (k) Z Z (Z) (AP b) E0 Z BE Z) (J (BZ Z Z Ag Z) (AB Z Z ?_)))))));refine AC (AD (AF (cl Z Z (EP 17 13 0 Z Z (cl Z Z (J (I4 M (IZ p)[k] false (kB M (IZ p)[k]) Z Z Z KE I2 W4 Z Z) (AC (Jo Z (λc=>?_) (λc=>?_)))))))))
  .refine AF (cl Z Z (cl Z Z (cl Z Z (cl Z Z (V (F8 (Xo p g u M (IZ p)[k] o l t) Z [10,11,12,13] ⟨Z,Z,Z,Z,trivial⟩ Z Z Z Z Z Z Z Z Z) ?_)))));have A:=jq (cJ (kB M) _) (OD o l t (IZ p)[k]);refine V (JR (a) (CS (kB M) (kb p (IZ p)[k])) Z Z Z Z Z Z (λ_=>rfl) Oo (by omega) Z Z Z Z) (AB Z Z (AC (AF (J (Ac Z Z (AJ (k+1) (by have h:=j;omega)) Z) (cl Z Z (AC ?_))))));exact ⟨(k+1,a++CS (kB M) (kb p (IZ p)[k])),⟨by show k+1<=_;omega,by show a++CS (kB M) (kb p (IZ p)[k])=((IZ p).take (k+1)).flatMap (FQ p (kB M));rw[jV b,<-s];unfold FQ;rw[ϱ (by simpa using c)],VM y (jq (cJ (kB M) _) (OD o l t (IZ p)[k]))⟩,by show (IZ p).length-(k+1)<(IZ p).length-k;omega,AR z [10,11,12,13,900] Z (Z) ⟨Z,Z,Z,Z,Z,Z,trivial⟩⟩
  .refine AU (AF (J (Ac Z Z (AJ (k+1) (by have h:=j;omega)) Z) (cl Z Z (AC ?_))));exact ⟨(k+1,a),⟨by show k+1<=_;omega,by show a=((IZ p).take (k+1)).flatMap (FQ p (kB M));rw[jV b,<-s];unfold FQ;rw[υ (by simpa using c),kZ],ZH y⟩,by show (IZ p).length-(k+1)<(IZ p).length-k;omega,AR z [10,11,12,13,900] Z (Z) ⟨Z,Z,Z,Z,Z,Z,trivial⟩⟩
 .refine Aq (AD ?_);have w:a=(IZ p).flatMap (FQ p (kB M)):=by rw[s,ζ (by have h:=f;omega)]
  refine Fi (emb:=IG) 5 900 a Z Z Z Z Z Z Z (AF (cl Z Z (AB Z Z (AC (A5 ?_)))));exact ⟨_,[10,11,12,13],_,A2 Z,Z,Z,by rw[w],Z⟩
def DR(p:iB)(r:AW)(l:List (Int×Bool)):Int:=(l.map λe=>if e.2=true then BN (hG p e.1) r else 0).sum
theorem ML{r:AW}{l m:List (Int×Bool)}(h:l.Perm m):DR a r l=DR a r m:=Uh h _
theorem Zw(p:iB)(r:AW)(e:Int×Bool)(l:List (Int×Bool)):DR p r (e::l)=(if e.2=true then BN (hG p e.1) r else 0)+DR p r l:=by simp[DR]
theorem KK(p:iB)(r:AW)(k:Int)(v:Bool)(l:List (Int×Bool)):DR p r ((k,v)::l)=(if v=true then BN (hG p k) r else 0)+DR p r l:=Zw p r (k,v) l
theorem WK(h:EZ a j=0):Ad a=0:=by grind[EZ]
theorem Xf(i:dr)(r:AW): -1000000000000000<=BN i r/\BN i r<=1000000000000000:=by
 unfold BN
 split
 all_goals (simp[*,O0])
theorem MM(p:iB)(r:AW){l:List (Int×Bool)}(h:l.length<=1000): -1000000000000000000<=DR p r l/\DR p r l<=1000000000000000000:=by
 have:=JY (l:=l) (f:=λe=>if e.2=true then BN (hG p e.1) r else 0) (B:=1000000000000000) (λe _=>by
  show _<=(if e.2=true then _ else _)/\_;have:=Xf (hG p e.1) r
  split<;>omega) 1000 h (by omega)
 unfold DR;omega
def KL(p:iB)(M:List (Int×Bool))(x:mM):List gf:=if x.n+DR p x.r M<0 then [⟨x.r,0-(x.n+DR p x.r M)⟩] else []
def Jq(p:iB)(M:List (Int×Bool)):List gf:=(hJ p).flatMap (KL p M)
theorem gB(f:Ad a=0)(x:mM)(b:x∈hJ a):0<=x.n/\x.n<=4000000000000000:=by
 unfold hJ at b;obtain ⟨y,c,rfl⟩:=Γ.1 b;have:=HF (HZ f).1 y ((qm a.ro).mem_iff.1 c);show 0<=max y.n 0/\max y.n 0<=_;omega
abbrev xU(p:iB)(mv:Nat)(M:List (Int×Bool)):Hp:=HA p++ [(12,[B6 AE Aj M]),(13,[.addr 12 0 (.map (some mv))])]
theorem S2(p:iB)(j:Nat)(M:List (Int×Bool))(Q:Ad p=0)(E:FE p)(D:M.length<=1000):AO prog 74 [.ptr 10 0 0,mapV j] (xU p j M) λr X=>r= .d (.sl none ((Jq p M).map BT))/\X=xU p j M:=by
 have S:=E.1;have T:=Is p;refine Av func74 Z Z ntmps74 Z Z Z λF t=>(AD (AF (AB Z Z ?_)));refine AC (AD (AF (AB Z Z (AC (AD (AD (IY 5 900 sw Z Z Z Z (AF ?_))))))));refine cl Z Z (J (MB Z Z) (J (AL Z L7 Z Z Z) (J (AQ Z Z Z Yg Z) (J (BW Z underlying227 Z) (cl Z Z (AC (AX (BC (α:=Nat×List gf) (λq=>⟨53,[(0,.ptr 10 0 0),(1,mapV j),(5,(.own 900 0 q.2.length)),(14,(.d (.sl none ((hJ p).map PY)))),(15,(.d (AE ((hJ p).length:Int)))),(16,(.d (AE (q.1:Int))))],xU p j M++ [(900,[.rowD 73 7 (q.2.map BT)])]⟩) (λq=>q.1<=(hJ p).length/\q.2=((hJ p).take q.1).flatMap (KL p M)/\q.2.length<=q.1) (λq=>(hJ p).length-q.1) ((0,[])) (⟨κ _,Z,Θ _⟩) (AR t [10,11,12,13,900] Z Z ⟨Z,Z,Z,Z,Z,Z,trivial⟩) ?_))))))));rintro ⟨k,a⟩ ⟨A,y,U⟩;dsimp only at A y U⊢;refine AD (AF (J (At Z Z Z) (AC (AD (A4 Z (λs=>?_) (λs=>?_))))))
 .have g:k<(hJ p).length:=BG s;refine AU (AD (AX (AD (AF ?_))));have I:=gB Q _ (ϑ g);refine J (Al (k) Z Z (Z) (AP g) underlying227 Z YP Z) (J (CT Z Z r9 Z) ?_);refine V (CF 1 cZ Z Z Z Z) (V (Bc Z Z Z Z Z Z Z YP) (AC (AD (AF (J (AL Z pQ Z Z Z) (J (AQ Z Z Z FK Z) (AB Z Z (AC ?_))))))));refine AD (AD (AF (cl Z Z (EP 22 13 0 Z Z (V (Gz 2 Z Z Z KE Z Z Z Z) (AC (AX (BC (α:=List Nat×Int) (λq=>⟨53,[(0,.ptr 10 0 0),(1,mapV j),(5,(.own 900 0 a.length)),(7,(.ptr 1 0 0)),(8,(.d (AE q.2))),(14,(.d (.sl none ((hJ p).map PY)))),(15,(.d (AE ((hJ p).length:Int)))),(16,(.d (AE (k:Int)))),(23,(.ptr 2 0 0))],xU p j M++ [(900,[.rowD 73 7 (a.map BT)]),(1,[.blk 233 [.d (AE (hJ p)[k].r.k),.d (Am (hJ p)[k].r.acc.o),.d (AE (hJ p)[k].r.acc.k),.d (Am (hJ p)[k].r.acc.a),.d (Am (hJ p)[k].r.f),.d (Am (hJ p)[k].r.t),.d (AE (hJ p)[k].n),.d (.sl none ((hJ p)[k].q.map AE))]]),(2,[.iter 12 0 M.length q.1])]⟩) (λq=>q.2+DR p (hJ p)[k].r (CX M (List.range M.length) q.1)=(hJ p)[k].n+DR p (hJ p)[k].r M) (λq=>(CX M (List.range M.length) q.1).length) (([],(hJ p)[k].n)) (by show (hJ p)[k].n+DR p (hJ p)[k].r (CX M (List.range M.length) [])=_;rw[Dn (by simp)]) (AR t [10,11,12,13,900,1,2] Z Z ⟨Z,Z,Z,Z,Z,Z,Z,Z,Z,trivial⟩) ?_))))))));rintro ⟨seen,left⟩ x;dsimp only at x⊢;refine AD (AF (Me (M) Z Z Z Z (λv=>?_) (λz c b H u w G f=>⟨_,Z,?_⟩)))
  .have i:left=(hJ p)[k].n+DR p (hJ p)[k].r M:=by have W:=x;rw[v] at W;have Y:DR p (hJ p)[k].r []=0:=rfl;omega
   refine J (D6 Z Z Z) (AC ?_);refine AD (Cr Z Z (Aq (AD (AF (cl Z Z (J (At Z Z Z) (AC (A4 Z (λl=>?_) (λl=>?_)))))))))
   .refine AF ?_;have K:=MM p (hJ p)[k].r D;refine cl Z Z (J (AL Z L6 Z Z Z) (J (Ar Z Z Cw Z Z Z) (cl Z Z (J (Wp Z (Ξ _ (by omega)) Z) ?_))));refine J (Dx xW xo Z Z Z) (V (CB 3 sw Z Z Z Z Z Z Z Z) (V (DQ (a) ([⟨(hJ p)[k].r,0-left⟩]) Z Z Z Z Z Z Z Z sw (by simp only[η];omega) Z Z Z Z) (AB Z Z (AC (AF (J (Ac Z Z (AJ (k+1) (by omega)) Z) (cl Z Z (AC ?_))))))));exact ⟨(k+1,a++ [⟨(hJ p)[k].r,0-left⟩]),⟨by show k+1<=_;omega,by show a++ [⟨(hJ p)[k].r,0-left⟩]=((hJ p).take (k+1)).flatMap (KL p M);rw[jV g,<-y];unfold KL;rw[<-i,ϱ (by simpa using l)],by show (a++ [_]).length<=k+1;rw[Δ];simp;omega⟩,by show (hJ p).length-(k+1)<(hJ p).length-k;omega,AR t [10,11,12,13,900] Z (Z) ⟨Z,Z,Z,Z,Z,Z,trivial⟩⟩
   .refine AU (AF (J (Ac Z Z (AJ (k+1) (by omega)) Z) (cl Z Z (AC ?_))));exact ⟨(k+1,a),⟨by show k+1<=_;omega,by show a=((hJ p).take (k+1)).flatMap (KL p M);rw[jV g,<-y];unfold KL;rw[<-i,υ (by simpa using l),kZ],by show a.length<=k+1;omega⟩,by show (hJ p).length-(k+1)<(hJ p).length-k;omega,AR t [10,11,12,13,900] Z (Z) ⟨Z,Z,Z,Z,Z,Z,trivial⟩⟩
  .refine J (D6 Z Z Z) ?_;refine AC (AD (CM Z Z (AU (AX (AD (AF (J (HB (M) z c Z Z Z u w Z) (J (D6 Z Z Z) ?_))))))));refine J (D6 Z Z Z) (AB Z Z (AB Z Z (AC (AD (AF (cl Z Z (AC (Jo Z (λo=>?_) (λo=>?_)))))))))
   .refine Bm [[],[],[1],[1,2],[1,2,3],[],[1,2,3,4,5],[],[7],[1,2,3,4,5,6,7,8],rg 10,rg 11] mixed Z (BY ?_);have R:=Su E b;have O:=MM p (hJ p)[k].r D;have N:=MM p (hJ p)[k].r (jq (ZG (m:=M) (B:=List.range M.length) (seen:=seen)) D);have L:=Xf (hG p b) (hJ p)[k].r;refine A7 8 Z Z (A7 0 Z Z (AK [31] Z (MB Z Z) (AK [32] Z (AL Z L8 Z Z Z) (Ay [33] Z Z (λ_=>A9 (AQ Z Z Z Up Z)) ?_))));refine A7 9 Z Z (Ay [34,35] Z Z (λ_=>A9 (UP (DA p.it) b ey (hG p b) Z Z Z VC I2 nW Hr (Rm p b) Z)) (AK [7] Z (AL Z L6 Z Z Z) (Ay [37] Z Z (λ_=>A9 (Ar Z Z Cw Z Z Z)) (AK [36,38] Z (Ak (Z0 (hG p b) (hJ p)[k].r (by omega) (by omega) (by omega)) Z Z) (BR 10 Z Z Z (AZ 11 Z Z (J (Ac Z Z (Ξ _ (by omega)) Z) (AC ⟨Z,?_⟩))))))));refine AZ 12 Z Z (AB Z Z (AC ⟨Z,?_⟩));refine Bb ?_;exact ⟨(seen++ [c],left+BN (hG p b) (hJ p)[k].r),(by show left+BN (hG p b) (hJ p)[k].r+DR p (hJ p)[k].r (CX M (List.range M.length) (seen++ [c]))=_;rw[<-x,ML f,KK,ϱ (by simpa using o)];omega),by show (CX M (List.range M.length) (seen++ [c])).length<(CX M (List.range M.length) seen).length;rw[f.length_eq];exact mS _,AR t [10,11,12,13,900,1,2] Z (Z) ⟨Z,Z,Z,Z,Z,Z,Z,Z,Z,trivial⟩⟩
   .refine AU ?_;exact ⟨(seen++ [c],left),(by show left+DR p (hJ p)[k].r (CX M (List.range M.length) (seen++ [c]))=_;rw[<-x,ML f,KK,υ (by simpa using o)];omega),by show (CX M (List.range M.length) (seen++ [c])).length<(CX M (List.range M.length) seen).length;rw[f.length_eq];exact mS _,AR t [10,11,12,13,900,1,2] Z (Z) ⟨Z,Z,Z,Z,Z,Z,Z,Z,Z,trivial⟩⟩
 .refine Aq (AD ?_);have C:a=Jq p M:=by rw[y,ζ (by have h:=s;omega)];rfl
  refine Fi (emb:=BT) 5 900 a Z Z Z Z Z Z Z (AF (cl Z Z (AB Z Z (AC (A5 ?_)))));exact ⟨_,[10,11,12,13],_,A2 Z,Z,Z,by rw[C],Z⟩
def Ca(l:List Int)(x:Int):Bool:=decide (x∈l)
theorem nZ(p:iB)(l:List Int)(g:FE p)(h:l.length<=1000):AI prog 28 [.d (BM p),.d (.sl none (l.map AE))] (.tup [.sl none ((if EZ p l=0 then Jq p (Aw l) else []).map BT),AE (EZ p l)]):=by
 by_cases b:EZ p l=0
 have a:=(Oz p l g (by omega) b).by [(2,12)] rfl;have j:=WK b;rw[ϱ b,b];have f:=λc=>S2 p c (Aw l) j g (by unfold Aw;rw[χ];exact h);refine Av func28 Z Z ntmps28 Z Z Z λF i=>(AD (AF (V (Ba 1 Z Z Z Z Z Z Z) (AB Z Z (AB Z Z (AC (AD (AF ?_))))))));refine J (Ar Z Z CG Z Z Z) (cl Z Z (V (F8 a Z [10,11,12] ⟨Z,Z,Z,trivial⟩ Z Z Z Z Z Z Z Z Z) (cl Z Z (J (D6 Z Z Z) (J (D6 Z Z Z) (J (D6 Z Z Z) (AB Z Z (AB Z Z ?_))))))));refine AB Z Z (AC (AD (AD (AF (cl Z Z (J (DP Z Z Z) (AC (Cr Z ((by decide)) ?_))))))));refine AU (AD (WW 13 12 0 Z Z Z Z Z λc=>(Zc 7 13 0 (.inl Z) Z (AF (cl Z Z (cl Z Z (V (F8 (f c) Z [10,11,12,13] ⟨Z,Z,Z,Z,trivial⟩ Z Z Z Z Z Z Z Z Z) (AB Z Z ?_))))))))
 rotate_left
 have a:=U9 p l g (by omega) b;rw[υ b];refine Av func28 Z Z ntmps28 Z Z Z λF i=>(AD (AF (V (Ba 1 Z Z Z Z Z Z Z) (AB Z Z (Zg 4 Z ?_)))));refine AB Z Z (AC (AD (AF (J (Ar Z Z CG Z Z Z) (cl Z Z (J (Ak (a) Z Z) (cl Z Z (J (DI Z Z Z) ?_))))))));refine J (DI Z Z Z) (J (DI Z Z Z) (AB Z Z (AB Z Z (AB Z Z (AC (AD (AD (AF ?_))))))));refine cl Z Z (J (DP Z Z Z) (AC (CM Z ((Υ b)) (AD (AF (cl Z Z (AB Z Z (Zg 4 Z ?_))))))))
 all_goals
  refine AB Z Z (AC (A5 ?_));exact ⟨_,[],[],A2 Z,Z,Z,Z,Z⟩
theorem Sy(l:List Int)(x:Int)(i:l.length<=140737488355328):AI prog 156 [.d (.sl none (l.map AE)),.d (AE x)] (.raw (.bool (decide (x∈l)))):=by
 refine Av func156 Z Z ntmps156 Z Z Z λF j=>(AD (AF ?_));refine AB Z Z (AC (AD (AD (AF (AB Z Z (AC (AX (FR (α:=Nat) (λk=>⟨18,[(0,.d (.sl none (l.map AE))),(1,.d (AE x)),(5,(.d (AE (k:Int))))],[]⟩) (λk=>k<=l.length/\x∉l.take k) (λk=>l.length-k) (0) (⟨κ _,by simp⟩) (Zm ⟨Z,Z,Z,trivial⟩) ?_))))))));rintro k ⟨g,f⟩;refine AD (AD (AF (cl Z Z (cl Z Z (J (BW Z E0 Z) (J (At Z Z Z) (AC (A4 Z (λc=>?_) (λc=>?_)))))))))
 .have a:k<l.length:=BG c;refine AU (AD (AX (AD ?_)));refine AF (cl Z Z (cl Z Z (J (Al (k) Z Z (Z) (AP a) E0 Z BE Z) (J (BZ Z Z Ag Z) (cl Z Z (J (GW Z Z Z) (AC (A4 Z (λb=>?_) (λb=>?_)))))))))
  .refine AD (AF (AB Z Z (AC (A5 ?_))));exact ⟨_,[],[],A2 Z,Z,Z,Sf (by rw[<-b];exact ϑ a),Z⟩
  .refine AU (AF (cl Z Z (J (Ac Z Z (AJ (k+1) (by omega)) Z) (AB Z Z (AC ?_)))));exact ⟨k+1,⟨by show k+1<=_;omega,xJ a f (λe=>b e.symm)⟩,by show l.length-(k+1)<l.length-k;omega,⟨Z,Z,λ_ _=>SW.get (l:=[(0,_),(1,_),(5,_)]) ⟨Z,Z,Z,trivial⟩⟩⟩
 .refine Aq (AD (AF (AB Z Z (AC (A5 ?_)))));exact ⟨_,[],[],A2 Z,Z,Z,Hf (FB (by have h:=c;omega) f),Z⟩
theorem PC.le(h:PC g){x y z:c}(i:g x y<=0)(a:g y z<=0):g x z<=0:=by
 by_cases f:g x y=0
 .rw[h.eqv x y z f];exact a
 .by_cases j:g y z=0
  .have r:=h.anti y z;have b:g z y=0:=by omega
   have o:=h.eqv z y x b;have l:=h.anti z x;have k:=h.anti y x;omega
  .have:=h.trans x y z (by omega) (by omega);omega
theorem Hs{k:Type}{c:k->k->Int}(h:PC c){f:List k}{m:Nat}{x:k}(r:f.Pairwise λa b=>¬c b a<0)(w:∀y∈f.take m,c y x<0)(B:∀y,f[m]? =some y->¬c y x<0):((f.take m++ [x])++f.drop m).Pairwise λa b=>¬c b a<0:=by
 have u:∀y∈f.drop m,¬c y x<0:=λy g=>by
  cases hm:f[m]? with
  | none=>
   rw[nB (List.getElem?_eq_none_iff.1 hm)] at g;cases g
  | some z=>
   obtain ⟨j,s⟩:=φ.1 hm;rw[mR j] at g;have o:=B z hm;rcases ju.1 g with g | g
   .rw[g,s];exact o
   .have t:(f.drop m).Pairwise λa b=>¬c b a<0:=r.sublist (List.drop_sublist _ _);rw[mR j,mC] at t;have v:=t.1 y g;rw[s] at v;have A:=h.anti z x;have C:=h.anti y z;have E:=h.anti y x;have:=h.le (x:=x) (y:=z) (z:=y) (by omega) (by omega);omega
 rw[rG];refine ⟨?_,r.sublist (List.drop_sublist _ _),λa i b l=>?_⟩
 .rw[rG];refine ⟨r.sublist (List.take_sublist _ _),List.pairwise_singleton _ _,λa i b l=>?_⟩;rw[ξ.1 l];have:=w a i;have A:=h.anti a x;omega
 .rcases ν.1 i with i | i
  .have v:=w a i;have D:=u b l;have A:=h.anti a b;have C:=h.anti b x;have:=h.le (x:=a) (y:=x) (z:=b) (by omega) (by omega);omega
  .rw[ξ.1 i];exact u b l
theorem LY:((h.take s++ [x])++h.drop s).Perm (h++ [x]):=by
 have a:(h.take s++(x::h.drop s)).Perm (x::(h.take s++h.drop s)):=List.perm_middle;rw[nA] at a;rw[lm];exact a.trans (List.perm_append_singleton x h).symm
theorem qJ{a b:Int}:¬DC b a<0↔a<=b:=by unfold DC;split<;>(try split)<;>omega
theorem T8{a b:Int}:DC a b<0↔a<b:=by unfold DC;split<;>(try split)<;>omega
theorem Ol{l c:List Int}(g:c.Perm l)(f:c.Pairwise λa b=>¬DC b a<0):c=Cg l:=by grind[List.Perm.eq_of_pairwise,Kv,jR,DC]
theorem US(l:List Int)(D:l.length<=100000):AI prog 111 [.d (.sl none (l.map AE))] (.sl none ((Cg l).map AE)):=by
 refine Av func111 Z Z ntmps111 Z Z Z λF u=>(AD ?_);refine AF (AB Z Z (AC (AD (AF (AB Z Z (AC (AD (AD ?_))))))));refine JP 3 Z ?_;refine AF (AB Z Z (AC (AX (BC (α:=Nat×List Int) (λq=>⟨45,[(0,.d (.sl none (l.map AE))),(3,(.d (.sl none (q.2.map AE)))),(4,(.d (AE (q.1:Int))))],[]⟩) (λq=>q.1<=l.length/\q.2.Perm (l.take q.1)/\q.2.Pairwise λa b=>¬DC b a<0) (λq=>l.length-q.1) ((0,[])) (⟨κ _,by simp,List.Pairwise.nil⟩) (AR u [] Z Z ⟨Z,Z,Z,trivial⟩) ?_))));rintro ⟨k,c⟩ ⟨x,t,v⟩;dsimp only at x t v⊢;refine AD (AD (AF (cl Z Z (cl Z Z (J (BW Z E0 Z) (J (At Z Z Z) (AC (A4 Z (λz=>?_) (λz=>?_)))))))))
 .have j:k<l.length:=BG z;refine AU (AD (AX (AD ?_)));have C:c.length<=100000:=by rw[t.length_eq,θ];omega
  refine AF (AB Z Z (AC (AD (AX (BC (α:=Nat) (λm=>⟨45,[(0,.d (.sl none (l.map AE))),(3,(.d (.sl none (c.map AE)))),(4,(.d (AE (k:Int)))),(5,(.d (AE (m:Int))))],[]⟩) (λm=>m<=c.length/\∀y∈c.take m,DC y l[k]<0) (λm=>c.length-m) (0) (⟨κ _,by simp⟩) (AR u [] Z Z ⟨Z,Z,Z,Z,trivial⟩) ?_)))));rintro m ⟨B,w⟩;refine AD (AD ?_);refine Bm [[],[],[1],[0,1,2],[0,1,2,3],rg 5,rg 5,rg 7,rg 8,rg 5,rg 5,[0,1,2,3,4,9,10],[0,1,2,3,4,9,10,11],rg 13,rg 14] mixed Z (BY (A7 5 Z Z (A7 3 Z Z (AK [13] Z (BW Z E0 Z) (BR 3 Z Z Z (AZ 4 Z Z (J (At Z Z Z) (AC ⟨Z,?_⟩))))))));refine AZ 5 Z Z (cl Z Z (C5 16 Z (λo=>?_) (λo=>?_)))
  .refine AC ⟨Z,?_⟩;refine BY ?_
   try have i:m<c.length:=BG o
   refine A1 [3,16] [] Z Z (λ_=>BO Z Z Z (FF Z Z)) (A1 [5,16] [] Z Z (λ_=>BO Z Z Z (FF Z Z)) (A1 [17,18,16] [] Z Z (λ_=>BO Z Z Z (Al (m) Z Z (Z) (AP i) E0 Z BE Z)) (A1 [19,16] [] Z Z (λ_=>BO Z Z Z (BZ Z Z Ag Z)) ?_)));refine A1 [0,16] [] Z Z (λ_=>BO Z Z Z (FF Z Z)) (A1 [4,16] [] Z Z (λ_=>BO Z Z Z (FF Z Z)) (A1 [21,22,16] [] Z Z (λ_=>BO Z Z Z (Al (k) Z Z (Z) (AP j) E0 Z BE Z)) (A1 [23,16] [] Z Z (λ_=>BO Z Z Z (BZ Z Z Ag Z)) (BR 13 Z Z Z (AZ 14 Z Z (AT Z Z Z (J (At Z Z Z) (AC ⟨Z,?_⟩))))))));refine AZ 15 Z Z (J (B4 Z Z Z Z) (AC ⟨Z,?_⟩));refine Bb (A4 Z (λr=>?_) (λr=>?_))
   .refine AU (AX (AF (cl Z Z (J (Ac Z Z (AJ (m+1) (by omega)) Z) (AB Z Z (AC ?_))))));exact ⟨m+1,⟨by show m+1<=_;omega,by rw[ψ i];intro y f;rcases ν.1 f with f | f;exact w y f;rw[ξ.1 f];exact T8.2 r⟩,by show c.length-(m+1)<c.length-m;omega,AR u [] Z (Z) ⟨Z,Z,Z,Z,trivial⟩⟩
   .refine Aq ?_;have g:∀y,c[m]? =some y->¬DC y l[k]<0:=by first | (intro y f;have s:=(φ.1 f).1;exact absurd s (by have h:=o;omega)) | (intro y f;rw[ω i] at f;injection f with f;rw[<-f];intro s;exact r (T8.1 s))
    refine Bm [[],[],[],[1,2],[0,1,2,3],[],[],[5,6],[5,6,7],[5,6,7,8],rg 10,[],[],[11,12],rg 14,rg 15] mixed Z (BY (Cq [] [20] [(29,_)] Z Z (λ_=>Cd (CB 20 Ap Z Z Z Z Z Z Z Z)) (.inr ⟨29,_,Z,Z,Z,Z,Z⟩) Z Z Z Z Z ?_));refine A7 3 Z Z (A7 5 Z Z (AK [30,31] Z (Xx (c) (m) Z Z Z (Z) (by omega) E0 BE (λ_=>rfl) Z) (Cq [29,32] [20] [(33,_)] Z Z (λ_=>Cd (JR (([]:List Int)) (c.take m) Z Z Z Z Z Z (λ_=>rfl) Ap (by simp only[lX,θ];omega) Z Z Z Z)) (.inr ⟨33,_,Z,Z,Z,Z,Z⟩) Z Z Z Z Z (A7 0 Z Z (A7 4 Z Z (AK [34,35] Z (Al (k) Z Z (Z) (AP j) E0 Z BE Z) (AK [36] Z (BZ Z Z Ag Z) (Cq [37] [21] [(38,_)] Z Z (λ_=>Cd (CB 21 Ap Z Z Z Z Z Z Z Z)) (.inr ⟨38,_,Z,Z,Z,Z,Z⟩) Z Z Z Z Z ?_))))))));refine Ki [29] [33,38] [20,21] [(39,_)] Z Z (λ_=>Cd (DQ (([]++c.take m)) ([l[k]]) Z Z Z Z Z Z Z Z Ap (by simp only[kP,η,θ];omega) Z Z Z Z)) (.inr ⟨39,_,Z,Z,Z,Z,Z⟩) Z Z Z Z Z ?_;refine A7 3 Z Z (A7 5 Z Z (AK [40,41] Z (cW (c) (m) Z Z Z (Z) (by omega) E0 BE (λ_=>rfl) Z) (BR 14 Z Z Z (AZ 15 Z Z ?_))));refine V (JR ((([]++c.take m)++ [l[k]])) (c.drop m) Z Z Z Z Z Z (λ_=>rfl) Ap (by simp only[kP,Δ,η,θ,l4];omega) Z Z Z Z) ?_;refine AC ⟨Z,?_⟩;refine AZ 16 Z Z (AB Z Z (AC ⟨Z,?_⟩));refine Bb (Fi (emb:=AE) 3 20 ((([]++c.take m)++ [l[k]])++c.drop m) Z Z Z Z Z Z Z (AF (cl Z Z (J (Ac Z Z (AJ (k+1) (by omega)) Z) (AB Z Z (AC ?_))))));exact ⟨(k+1,_),⟨by show k+1<=_;omega,by show (((([]++c.take m)++ [l[k]])++c.drop m):List Int).Perm (l.take (k+1));rw[ψ j,kP];exact LY.trans (t.append_right _),by show (((([]++c.take m)++ [l[k]])++c.drop m):List Int).Pairwise _;rw[kP];exact Hs k6 v w g⟩,by show l.length-(k+1)<l.length-k;omega,AR u [] Z (Z) ⟨Z,Z,Z,trivial⟩⟩
  .refine AC ⟨Z,?_⟩;refine BY ?_
   try have i:m<c.length:=BG o
   refine A1 [3,16] [] Z Z (λ_=>CL Z Z Z Z) (A1 [5,16] [] Z Z (λ_=>CL Z Z Z Z) (A1 [17,18,16] [] Z Z (λ_=>CL Z Z Z Z) ?_));refine A1 [19,16] [] Z Z (λ_=>CL Z Z Z Z) (A1 [0,16] [] Z Z (λ_=>CL Z Z Z Z) (A1 [4,16] [] Z Z (λ_=>CL Z Z Z Z) (A1 [21,22,16] [] Z Z (λ_=>CL Z Z Z Z) (A1 [23,16] [] Z Z (λ_=>CL Z Z Z Z) (BR 13 Z Z Z (AZ 14 Z Z (AN Z Z Z Z (AC ⟨Z,?_⟩))))))));refine AZ 15 Z Z (J (Br Z Z Z Z) (AC ⟨Z,?_⟩));refine Bb (Cr Z Z (Aq ?_));have g:∀y,c[m]? =some y->¬DC y l[k]<0:=by first | (intro y f;have s:=(φ.1 f).1;exact absurd s (by have h:=o;omega)) | (intro y f;rw[ω i] at f;injection f with f;rw[<-f];intro s;exact r (T8.1 s))
   refine Bm [[],[],[],[1,2],[0,1,2,3],[],[],[5,6],[5,6,7],[5,6,7,8],rg 10,[],[],[11,12],rg 14,rg 15] mixed Z (BY (Cq [] [20] [(29,_)] Z Z (λ_=>Cd (CB 20 Ap Z Z Z Z Z Z Z Z)) (.inr ⟨29,_,Z,Z,Z,Z,Z⟩) Z Z Z Z Z ?_));refine A7 3 Z Z (A7 5 Z Z (AK [30,31] Z (Xx (c) (m) Z Z Z (Z) (by omega) E0 BE (λ_=>rfl) Z) (Cq [29,32] [20] [(33,_)] Z Z (λ_=>Cd (JR (([]:List Int)) (c.take m) Z Z Z Z Z Z (λ_=>rfl) Ap (by simp only[lX,θ];omega) Z Z Z Z)) (.inr ⟨33,_,Z,Z,Z,Z,Z⟩) Z Z Z Z Z (A7 0 Z Z (A7 4 Z Z (AK [34,35] Z (Al (k) Z Z (Z) (AP j) E0 Z BE Z) (AK [36] Z (BZ Z Z Ag Z) (Cq [37] [21] [(38,_)] Z Z (λ_=>Cd (CB 21 Ap Z Z Z Z Z Z Z Z)) (.inr ⟨38,_,Z,Z,Z,Z,Z⟩) Z Z Z Z Z ?_))))))));refine Ki [29] [33,38] [20,21] [(39,_)] Z Z (λ_=>Cd (DQ (([]++c.take m)) ([l[k]]) Z Z Z Z Z Z Z Z Ap (by simp only[kP,η,θ];omega) Z Z Z Z)) (.inr ⟨39,_,Z,Z,Z,Z,Z⟩) Z Z Z Z Z ?_;refine A7 3 Z Z (A7 5 Z Z (AK [40,41] Z (cW (c) (m) Z Z Z (Z) (by omega) E0 BE (λ_=>rfl) Z) (BR 14 Z Z Z (AZ 15 Z Z ?_))));refine V (JR ((([]++c.take m)++ [l[k]])) (c.drop m) Z Z Z Z Z Z (λ_=>rfl) Ap (by simp only[kP,Δ,η,θ,l4];omega) Z Z Z Z) ?_;refine AC ⟨Z,?_⟩;refine AZ 16 Z Z (AB Z Z (AC ⟨Z,?_⟩));refine Bb (Fi (emb:=AE) 3 20 ((([]++c.take m)++ [l[k]])++c.drop m) Z Z Z Z Z Z Z (AF (cl Z Z (J (Ac Z Z (AJ (k+1) (by omega)) Z) (AB Z Z (AC ?_))))));exact ⟨(k+1,_),⟨by show k+1<=_;omega,by show (((([]++c.take m)++ [l[k]])++c.drop m):List Int).Perm (l.take (k+1));rw[ψ j,kP];exact LY.trans (t.append_right _),by show (((([]++c.take m)++ [l[k]])++c.drop m):List Int).Pairwise _;rw[kP];exact Hs k6 v w g⟩,by show l.length-(k+1)<l.length-k;omega,AR u [] Z (Z) ⟨Z,Z,Z,trivial⟩⟩
 .refine Aq (AD (AF (cl Z Z (AB Z Z (AC (A5 ?_))))));exact ⟨_,[],[],A2 Z,Z,Z,by rw[Ol (l:=l) (by have A:=t;rw[ζ (by have h:=z;omega)] at A;exact A) v],Z⟩
theorem SI:PC λa b:gf=>BV a.r b.r:=NM.comap gf.r
theorem fz(g:Ad a=0){f:List gf}(i:f.Perm a.ro)(h:f.Pairwise λc b=>¬BV b.r c.r<0):f=lE a.ro:=
 Y6 gf.r (NV (HZ g).1) (qm a.ro) (N0 a.ro) i h
theorem RH(p:iB)(B:Ad p=0)(E:p.ro.length<=100000):AI prog 112 [.d (BM p)] (.sl none ((lE p.ro).map BT)):=by
 refine Av func112 Z Z ntmps112 Z Z Z λF u=>(AD (AF ?_));refine V (Ba 1 Z Z Z Z Z Z Z) (AB Z Z (AC (AD (AF (AB Z Z (AC (AD (AD ?_))))))));refine JP 3 Z ?_;refine AF (AB Z Z (AC (AX (BC (α:=Nat×List gf) (λq=>⟨51,[(1,(.ptr 1 0 0)),(3,(.d (.sl none (q.2.map BT)))),(4,(.d (AE (q.1:Int))))],[(1,[B3 25 p])]⟩) (λq=>q.1<=p.ro.length/\q.2.Perm (p.ro.take q.1)/\q.2.Pairwise λa b=>¬BV b.r a.r<0) (λq=>p.ro.length-q.1) ((0,[])) (⟨κ _,by simp,List.Pairwise.nil⟩) (AR u [1] Z Z ⟨Z,Z,Z,trivial⟩) ?_))));rintro ⟨k,c⟩ ⟨x,t,v⟩;dsimp only at x t v⊢;refine AD ?_;refine AD (AF (cl Z Z (J (AL Z Kj Z Z Z) (J (AQ Z Z Z Dy Z) (J (BW Z F0 Z) (J (At Z Z Z) (AC (A4 Z (λs=>?_) (λs=>?_)))))))))
 .have j:k<p.ro.length:=BG s;refine AU (AD (AX (AD ?_)));have D:c.length<=100000:=by rw[t.length_eq,θ];omega
  refine AF (AB Z Z (AC (AD (AX (BC (α:=Nat) (λm=>⟨51,[(1,(.ptr 1 0 0)),(3,(.d (.sl none (c.map BT)))),(4,(.d (AE (k:Int)))),(5,(.d (AE (m:Int))))],[(1,[B3 25 p])]⟩) (λm=>m<=c.length/\∀y∈c.take m,BV y.r p.ro[k].r<0) (λm=>c.length-m) (0) (⟨κ _,by simp⟩) (AR u [1] Z Z ⟨Z,Z,Z,Z,trivial⟩) ?_)))));rintro m ⟨C,w⟩;refine AD (AD ?_);refine Bm [[],[],[1],[0,1,2],[0,1,2,3],rg 5,rg 5,rg 7,rg 8,rg 9,rg 5,[0,1,2,3,4,10],rg 5,[0,1,2,3,4,10,11,12],[0,1,2,3,4,10,11,12,13],[0,1,2,3,4,10,11,12,13,14],rg 16,rg 17,rg 18] mixed Z (BY (A7 5 Z Z (A7 3 Z Z (AK [14] Z (BW Z F0 Z) (BR 3 Z Z Z (AZ 4 Z Z (J (At Z Z Z) (AC ⟨Z,?_⟩))))))));refine AZ 5 Z Z (cl Z Z (C5 17 Z (λl=>?_) (λl=>?_)))
  .refine AC ⟨Z,?_⟩;refine BY ?_
   try have i:m<c.length:=BG l
   refine A1 [3,17] [] Z Z (λ_=>BO Z Z Z (FF Z Z)) (A1 [5,17] [] Z Z (λ_=>BO Z Z Z (FF Z Z)) (A1 [18,19,17] [] Z Z (λ_=>BO Z Z Z (Al (m) Z Z (Z) (AP i) F0 Z Bd Z)) (A1 [20,17] [] Z Z (λ_=>BO Z Z Z (Jy Z QS Z Z Z)) (A1 [21,17] [] Z Z (λ_=>BO Z Z Z (CT Z Z C4 Z)) (A1 [1,17] [] Z Z (λ_=>BO Z Z Z (AL Z Kj Z Z Z)) (Ay [23,17] Z Z (λ_=>BO Z Z Z (AQ Z Z Z Dy Z)) ?_))))));refine A1 [4,17] [] Z Z (λ_=>BO Z Z Z (FF Z Z)) (A1 [24,25,17] [] Z Z (λ_=>BO Z Z Z (Al (k) Z Z (Z) (AP j) F0 Z Bd Z)) (A1 [26,17] [] Z Z (λ_=>BO Z Z Z (Jy Z QS Z Z Z)) (A1 [27,17] [] Z Z (λ_=>BO Z Z Z (CT Z Z C4 Z)) (BR 16 Z Z Z (AZ 17 Z Z (AT Z Z Z (J (Ak (Hg c[m].r p.ro[k].r) Z Z) (AC ⟨Z,?_⟩))))))));refine AZ 18 Z Z (AT Z Z Z (J (At Z Z Z) (AC ⟨Z,?_⟩)));refine AZ 19 Z Z (J (B4 Z Z Z Z) (AC ⟨Z,?_⟩));refine Bb (A4 Z (λo=>?_) (λo=>?_))
   .refine AU (AX (AF (cl Z Z (J (Ac Z Z (AJ (m+1) (by omega)) Z) (AB Z Z (AC ?_))))));exact ⟨m+1,⟨by show m+1<=_;omega,by rw[ψ i];intro y f;rcases ν.1 f with f | f;exact w y f;rw[ξ.1 f];exact o⟩,by show c.length-(m+1)<c.length-m;omega,AR u [1] Z (Z) ⟨Z,Z,Z,Z,trivial⟩⟩
   .refine Aq ?_;have g:∀y,c[m]? =some y->¬BV y.r p.ro[k].r<0:=by first | (intro y f;have z:=(φ.1 f).1;exact absurd z (by have h:=l;omega)) | (intro y f;rw[ω i] at f;injection f with f;rw[<-f];exact o)
    refine Bm [[],[],[],[1,2],[0,1,2,3],[],[5],[],[5,6,7],[5,6,7,8],[5,6,7,8,9],rg 11,[],[],[12,13],rg 15,rg 16] mixed Z (BY (Cq [] [20] [(34,_)] Z Z (λ_=>Cd (CB 20 Fv Z Z Z Z Z Z Z Z)) (.inr ⟨34,_,Z,Z,Z,Z,Z⟩) Z Z Z Z Z (A7 3 Z Z ?_)));refine A7 5 Z Z (AK [35,36] Z (Xx (c) (m) Z Z Z (Z) (by omega) F0 Bd (λ_=>rfl) Z) (Cq [34,37] [20] [(38,_)] Z Z (λ_=>Cd (JR (([]:List gf)) (c.take m) Z Z Z Z Z Z (λ_=>rfl) Fv (by simp only[lX,θ];omega) Z Z Z Z)) (.inr ⟨38,_,Z,Z,Z,Z,Z⟩) Z Z Z Z Z (AK [1] Z (AL Z Kj Z Z Z) (A1 [39] [1] Z Z (λ_=>A9 (AQ Z Z Z Dy Z)) (A7 4 Z Z (AK [40,41] Z (Al (k) Z Z (Z) (AP j) F0 Z Bd Z) (AK [42] Z (CT Z Z RA Z) (Cq [43] [21] [(44,_)] Z Z (λ_=>Cd (CB 21 Fv Z Z Z Z Z Z Z Z)) (.inr ⟨44,_,Z,Z,Z,Z,Z⟩) Z Z Z Z Z ?_))))))));refine Ki [34] [38,44] [20,21] [(45,_)] Z Z (λ_=>Cd (DQ (([]++c.take m)) ([p.ro[k]]) Z Z Z Z Z Z Z Z Fv (by simp only[kP,η,θ];omega) Z Z Z Z)) (.inr ⟨45,_,Z,Z,Z,Z,Z⟩) Z Z Z Z Z ?_;refine A7 3 Z Z (A7 5 Z Z (AK [46,47] Z (cW (c) (m) Z Z Z (Z) (by omega) F0 Bd (λ_=>rfl) Z) (BR 15 Z Z Z (AZ 16 Z Z ?_))));refine V (JR ((([]++c.take m)++ [p.ro[k]])) (c.drop m) Z Z Z Z Z Z (λ_=>rfl) Fv (by simp only[kP,Δ,η,θ,l4];omega) Z Z Z Z) ?_;refine AC ⟨Z,?_⟩;refine AZ 17 Z Z (AB Z Z (AC ⟨Z,?_⟩));refine Bb (Fi (emb:=BT) 3 20 ((([]++c.take m)++ [p.ro[k]])++c.drop m) Z Z Z Z Z Z Z (AF (cl Z Z (J (Ac Z Z (AJ (k+1) (by omega)) Z) (AB Z Z (AC ?_))))));exact ⟨(k+1,_),⟨by show k+1<=_;omega,by show (((([]++c.take m)++ [p.ro[k]])++c.drop m):List gf).Perm (p.ro.take (k+1));rw[ψ j,kP];exact LY.trans (t.append_right _),by show (((([]++c.take m)++ [p.ro[k]])++c.drop m):List gf).Pairwise _;rw[kP];exact Hs SI v w g⟩,by show p.ro.length-(k+1)<p.ro.length-k;omega,AR u [1] Z (Z) ⟨Z,Z,Z,trivial⟩⟩
  .refine AC ⟨Z,?_⟩;refine BY ?_
   try have i:m<c.length:=BG l
   refine A1 [3,17] [] Z Z (λ_=>CL Z Z Z Z) (A1 [5,17] [] Z Z (λ_=>CL Z Z Z Z) (A1 [18,19,17] [] Z Z (λ_=>CL Z Z Z Z) (A1 [20,17] [] Z Z (λ_=>CL Z Z Z Z) (A1 [21,17] [] Z Z (λ_=>CL Z Z Z Z) (A1 [1,17] [] Z Z (λ_=>CL Z Z Z Z) ?_)))));refine A1 [23,17] [] Z Z (λ_=>CL Z Z Z Z) (A1 [4,17] [] Z Z (λ_=>CL Z Z Z Z) (A1 [24,25,17] [] Z Z (λ_=>CL Z Z Z Z) (A1 [26,17] [] Z Z (λ_=>CL Z Z Z Z) (A1 [27,17] [] Z Z (λ_=>CL Z Z Z Z) (BR 16 Z Z Z (AZ 17 Z Z (AN Z Z Z Z (AC ⟨Z,?_⟩))))))));refine AZ 18 Z Z (AN Z Z Z Z (AC ⟨Z,?_⟩));refine AZ 19 Z Z (J (Br Z Z Z Z) (AC ⟨Z,?_⟩));refine Bb (Cr Z Z (Aq ?_));have g:∀y,c[m]? =some y->¬BV y.r p.ro[k].r<0:=by first | (intro y f;have z:=(φ.1 f).1;exact absurd z (by have h:=l;omega)) | (intro y f;rw[ω i] at f;injection f with f;rw[<-f];exact o)
   refine Bm [[],[],[],[1,2],[0,1,2,3],[],[5],[],[5,6,7],[5,6,7,8],[5,6,7,8,9],rg 11,[],[],[12,13],rg 15,rg 16] mixed Z (BY (Cq [] [20] [(34,_)] Z Z (λ_=>Cd (CB 20 Fv Z Z Z Z Z Z Z Z)) (.inr ⟨34,_,Z,Z,Z,Z,Z⟩) Z Z Z Z Z (A7 3 Z Z ?_)));refine A7 5 Z Z (AK [35,36] Z (Xx (c) (m) Z Z Z (Z) (by omega) F0 Bd (λ_=>rfl) Z) (Cq [34,37] [20] [(38,_)] Z Z (λ_=>Cd (JR (([]:List gf)) (c.take m) Z Z Z Z Z Z (λ_=>rfl) Fv (by simp only[lX,θ];omega) Z Z Z Z)) (.inr ⟨38,_,Z,Z,Z,Z,Z⟩) Z Z Z Z Z (AK [1] Z (AL Z Kj Z Z Z) (A1 [39] [1] Z Z (λ_=>A9 (AQ Z Z Z Dy Z)) (A7 4 Z Z (AK [40,41] Z (Al (k) Z Z (Z) (AP j) F0 Z Bd Z) (AK [42] Z (CT Z Z RA Z) (Cq [43] [21] [(44,_)] Z Z (λ_=>Cd (CB 21 Fv Z Z Z Z Z Z Z Z)) (.inr ⟨44,_,Z,Z,Z,Z,Z⟩) Z Z Z Z Z ?_))))))));refine Ki [34] [38,44] [20,21] [(45,_)] Z Z (λ_=>Cd (DQ (([]++c.take m)) ([p.ro[k]]) Z Z Z Z Z Z Z Z Fv (by simp only[kP,η,θ];omega) Z Z Z Z)) (.inr ⟨45,_,Z,Z,Z,Z,Z⟩) Z Z Z Z Z ?_;refine A7 3 Z Z (A7 5 Z Z (AK [46,47] Z (cW (c) (m) Z Z Z (Z) (by omega) F0 Bd (λ_=>rfl) Z) (BR 15 Z Z Z (AZ 16 Z Z ?_))));refine V (JR ((([]++c.take m)++ [p.ro[k]])) (c.drop m) Z Z Z Z Z Z (λ_=>rfl) Fv (by simp only[kP,Δ,η,θ,l4];omega) Z Z Z Z) ?_;refine AC ⟨Z,?_⟩;refine AZ 17 Z Z (AB Z Z (AC ⟨Z,?_⟩));refine Bb (Fi (emb:=BT) 3 20 ((([]++c.take m)++ [p.ro[k]])++c.drop m) Z Z Z Z Z Z Z (AF (cl Z Z (J (Ac Z Z (AJ (k+1) (by omega)) Z) (AB Z Z (AC ?_))))));exact ⟨(k+1,_),⟨by show k+1<=_;omega,by show (((([]++c.take m)++ [p.ro[k]])++c.drop m):List gf).Perm (p.ro.take (k+1));rw[ψ j,kP];exact LY.trans (t.append_right _),by show (((([]++c.take m)++ [p.ro[k]])++c.drop m):List gf).Pairwise _;rw[kP];exact Hs SI v w g⟩,by show p.ro.length-(k+1)<p.ro.length-k;omega,AR u [1] Z (Z) ⟨Z,Z,Z,trivial⟩⟩
 .refine Aq (AD (AF (cl Z Z (AB Z Z (AC (A5 ?_))))));exact ⟨_,[],[],A2 Z,Z,Z,by rw[fz B (by have A:=t;rw[ζ (by have h:=s;omega)] at A;exact A) v],Z⟩
theorem K5(c:Ad a=0){x:dr}(b:x∈a.it):hG a x.id=x:=by
 obtain ⟨f,_,e,g⟩:=Zf (p:=a) (Γ.2 ⟨x,b,Z⟩);exact OR (Xy (HZ c).2.1) (by rw[e];exact ϑ f) b g
theorem Ua{q:List Int}(h:i∈q):kJ i q=q.idxOf i:=by unfold kJ St;rw[ϱ h];omega
theorem ac{q:List Int}(h:i∉q):kJ i q=0:=by unfold kJ St;rw[υ h];rfl
theorem eG(i:Int)(y:mM){j:Nat}(h:j<(CJ i y).length)(a:j<y.q.length):(CJ i y)[j]=⟨i,y.q[j],y.r⟩:=by simp[CJ,j1]
theorem N7:∀{l:List Int} {x:Int} {j:Nat} (h:j<l.length),l[j]=x->l.idxOf x<=j
 | a::l,x,0,_,b=>by
  have b:a=x:=b;rw[List.idxOf_cons,b];simp
 | a::l,x,j+1,h,b=>by
  rw[List.idxOf_cons]
  cases hb:a==x with
  | true=>simp
  | false=>
   have c:=N7 (l:=l) (x:=x) (j:=j) (by simpa using h) (by simpa using b);simp only[cond_false];omega
theorem Rg(g:mM->List o):(hJ a).flatMap g=(lE a.ro).flatMap λy=>g (B8 a y):=by unfold hJ;rw[List.flatMap_map]
theorem VD(p:iB)(l:List Int)(x:dr)(hp:Ad p=0)(hb:FE p)(h1:p.it.length<=1000)(h2:p.ro.length<=1000)(U:∀i∈p.it,i.po.length<=1000/\i.pa.length<=1000/\i.af.length<=1000)(hl:l.length<=100000)(hx:x∈p.it):AI prog 157 [.d (BM p),.d (.sl none (l.map AE)),.d (Ah x)] (.sl none ((CS (Ca l) (kb p x.id)).map IG)):=by
 have hO:hY p=fl p.it:=ϱ hp;have hgx:=U x hx;have X:kb p x.id=(Cg x.af).map (λy=>(⟨x.id,y,HE⟩:kX))++(lE p.ro).flatMap λy=>CJ x.id (B8 p y):=by unfold kb U4;rw[K5 hp hx,Rg]
 rw[X];have v:=US x.af (by omega);have W:=E5 x.af;have L:=RH p hp (by omega);have Y:=PX p.ro;have hg3:∀i∈fl p.it,i.po.length<=1000/\i.pa.length<=1000/\i.af.length<=1000:=λi hi=>U i ((KI p.it).mem_iff.1 hi);have w:=λr=>KQ p r h1 hg3;have o:∀r,(iC (hY p) r).length<=1000:=λr=>by unfold iC;rw[χ];exact jq (lB _ _) (jq (DY p) h1)
 rw[<-hO] at w
 obtain ⟨S,hS⟩:∃S,Cg x.af=S:=⟨_,Z⟩
 obtain ⟨R,hR⟩:∃R,lE p.ro=R:=⟨_,Z⟩
 rw[hS] at v W⊢;rw[hR] at L Y⊢;refine Av func157 Z Z ntmps157 Z Z Z λF u=>(AD (AF (V (Ba 1 Z Z Z Z Z Z Z) (V (Ba 2 Z Z Z Z Z Z Z) (AB Z Z (AC (AD ?_)))))));refine AF (AB Z Z (AC (AD (IY 7 900 On Z Z Z Z (AF (J (AL Z Tk Z Z Z) (J (AQ Z Z Z BJ Z) (J (Ak (v) Z Z) ?_))))))));refine AB Z Z (AC (AD (AD (AF (AB Z Z (AC (AX (BC (α:=Nat×List kX) (λq=>⟨92,[(1,.d (.sl none (l.map AE))),(3,(.ptr 1 0 0)),(5,(.ptr 2 0 0)),(7,(.own 900 0 q.2.length)),(8,(.d (.sl none (S.map AE)))),(9,(.d (AE (q.1:Int))))],[(900,[.rowD 207 8 (q.2.map IG)]),(1,[B3 25 p]),(2,[pA 93 x])]⟩) (λq=>q.1<=S.length/\q.2=CS (Ca l) ((S.map λy=>(⟨x.id,y,HE⟩:kX)).take q.1)) (λq=>S.length-q.1) ((0,[])) (⟨κ _,Z⟩) (AR u [900,1,2] Z Z ⟨Z,Z,Z,Z,Z,Z,trivial⟩) ?_))))))));rintro ⟨k,c⟩ ⟨hk0,T⟩;dsimp only at hk0 T⊢;refine AD (AD (AF (cl Z Z (cl Z Z (J (BW Z E0 Z) (J (At Z Z Z) (AC (A4 Z (λI=>?_) (λI=>?_)))))))))
 .have t:k<S.length:=BG I;refine AU (AD (AX (AD (AF ?_))));refine cl Z Z (cl Z Z (cl Z Z (J (Al (k) Z Z (Z) (AP t) E0 Z BE Z) (J (BZ Z Z Ag Z) (J (Ak (Sy l S[k] (by omega)) Z Z) (J (JQ Z Z) (AC (A4 Z (λH=>?_) (λH=>?_)))))))))
  .refine Bm [[],[],[1],[],[],[3,4],[3,4,5],[1,2,3,4,5,6],[1,2,3,4,5,6,7],rg 9,rg 10] mixed Z (BY ?_);have hal:c.length<=100000:=by rw[T];refine jq (cJ _ _) ?_;rw[θ,χ];omega
   refine A7 7 Z Z (AK [5] Z (AL Z ST Z Z Z) (A1 [31] [2] Z Z (λ_=>A9 (AQ Z Z Z Ag Z)) (A7 8 Z Z ?_)));refine A7 9 Z Z (AK [33,34] Z (Al (k) Z Z (Z) (AP t) E0 Z BE Z) (AK [35] Z (BZ Z Z Ag Z) (AK [32,36] Z (Dx rJ rp Z Z Z) (Cq [37] [50] [(38,_)] Z Z (λ_=>Cd (CB 50 On Z Z Z Z Z Z Z Z)) (.inr ⟨38,_,Z,Z,Z,Z,Z⟩) Z Z Z Z Z (BR 9 Z Z Z (AZ 10 Z Z (V (DQ (c) ([⟨x.id,S[k],HE⟩]) Z Z Z Z Z Z Z Z On (by simp only[η];omega) Z Z Z Z) (AC ⟨Z,?_⟩))))))));refine AZ 11 Z Z (AB Z Z (AC ⟨Z,?_⟩));refine Bb (AF (cl Z Z (J (Ac Z Z (AJ (k+1) (by omega)) Z) (AB Z Z (AC ?_)))));exact ⟨(k+1,c++ [⟨x.id,S[k],HE⟩]),⟨by show k+1<=_;omega,by show c++ [⟨x.id,S[k],HE⟩]=CS (Ca l) ((S.map λy=>(⟨x.id,y,HE⟩:kX)).take (k+1));rw[Dt (by simpa using t),kR,ϱ (by show (!Ca l S[k])=true;unfold Ca;simpa using H),T]⟩,by show S.length-(k+1)<S.length-k;omega,AR u [900,1,2] Z (Z) ⟨Z,Z,Z,Z,Z,Z,trivial⟩⟩
  .refine AU (AF (cl Z Z (J (Ac Z Z (AJ (k+1) (by omega)) Z) (AB Z Z (AC ?_)))));exact ⟨(k+1,c),⟨by show k+1<=_;omega,by show c=CS (Ca l) ((S.map λy=>(⟨x.id,y,HE⟩:kX)).take (k+1));rw[Dt (by simpa using t),kR,υ (by show ¬(!Ca l S[k])=true;unfold Ca;simpa using H),kZ,T]⟩,by show S.length-(k+1)<S.length-k;omega,AR u [900,1,2] Z (Z) ⟨Z,Z,Z,Z,Z,Z,trivial⟩⟩
 .refine Aq (AD ?_);have Q:c=CS (Ca l) (S.map λy=>(⟨x.id,y,HE⟩:kX)):=by rw[T,ζ (by rw[χ];have h:=I;omega)]
  have hal1:c.length<=1000:=by rw[Q];refine jq (cJ _ _) ?_;rw[χ];omega
  refine AF (J (Ar Z Z Bx Z Z Z) (J (Ak (L) Z Z) ?_));refine AB Z Z (AC (AD (AD (AF (AB Z Z (AC (AX (BC (α:=Nat×List kX) (λq=>⟨92,[(1,.d (.sl none (l.map AE))),(3,(.ptr 1 0 0)),(5,(.ptr 2 0 0)),(7,(.own 900 0 q.2.length)),(10,(.d (.sl none (R.map BT)))),(11,(.d (AE (q.1:Int))))],[(900,[.rowD 207 8 (q.2.map IG)]),(1,[B3 25 p]),(2,[pA 93 x])]⟩) (λq=>q.1<=R.length/\q.2=c++CS (Ca l) ((R.take q.1).flatMap λy=>CJ x.id (B8 p y))) (λq=>R.length-q.1) ((0,c)) (⟨κ _,by simp[CS]⟩) (AR u [900,1,2] Z Z ⟨Z,Z,Z,Z,Z,Z,trivial⟩) ?_))))))));rintro ⟨m,a⟩ ⟨hm0,O⟩;dsimp only at hm0 O⊢;refine AD (AD (AF (cl Z Z (cl Z Z (J (BW Z F0 Z) (J (At Z Z Z) (AC (A4 Z (λG=>?_) (λG=>?_)))))))))
  .have s:m<R.length:=BG G;refine AU (AD (AX (AD (Bm [[],[],[],[1,2],[1,2,3],[1,2,3,4],rg 6,rg 7] mixed Z (BY ?_)))));have hfl:=Iz (f:=λy=>CJ x.id (B8 p y)) (n:=1000) (l:=R.take m) (λy _=>by unfold CJ j1;rw[χ,θ];exact jq (Nat.min_le_right _ _) (o y.r));have hbl:a.length<=1200000:=by rw[O,Δ];have:=cJ (Ca l) ((R.take m).flatMap λy=>CJ x.id (B8 p y));rw[θ] at hfl;have U:min m R.length*1000<=1000*1000:=lq _ (by omega);omega
   refine Ay [3] Z Z (λ_=>A9 (Ar Z Z Bx Z Z Z)) ?_;refine A7 10 Z Z (A7 11 Z Z (AK [49,50] Z (Al (m) Z Z (Z) (AP s) F0 Z Bd Z) (AK [51] Z (Jy Z QS Z Z Z) (AK [52] Z (CT Z Z C4 Z) (BR 6 Z Z Z (AZ 7 Z Z (J (Ak (w R[m].r) Z Z) (AC ⟨Z,?_⟩))))))));refine AZ 8 Z Z (AB Z Z (AC ⟨Z,?_⟩));refine Bb (AD ?_);refine AD (AF (cl Z Z (J (AL Z ST Z Z Z) (J (AQ Z Z Z Ag Z) (J (Ak (Sy (iC (hY p) R[m].r) x.id (by have:=o R[m].r;omega)) Z Z) (J (JQ Z Z) (AC (A4 Z (λE=>?_) (λE=>?_)))))))))
   .refine Aq (AF ?_)
    try have z:b=a++CS (Ca l) (CJ x.id (B8 p R[m])):=by rw[K,ζ (by unfold CJ j1;rw[χ,θ];show min (kJ x.id (iC (hY p) R[m].r)) _<=j;rw[A];omega)]
    refine cl Z Z (J (Ac Z Z (AJ (m+1) (by omega)) Z) (AB Z Z (AC ?_)));exact ⟨(m+1,a),⟨by show m+1<=_;omega,by show a=c++CS (Ca l) ((R.take (m+1)).flatMap λy=>CJ x.id (B8 p y));rw[jV s,JL,<-lm,<-O];have hz:CJ x.id (B8 p R[m])=[]:=by {unfold CJ j1;rw[ac (q:=(B8 p R[m]).q) (show x.id∉iC (hY p) R[m].r from by simpa using E)];rfl};rw[hz];simp[CS]⟩,by show R.length-(m+1)<R.length-m;omega,AR u [900,1,2] Z (Z) ⟨Z,Z,Z,Z,Z,Z,trivial⟩⟩
   .have N:x.id∈iC (hY p) R[m].r:=by simpa using E
    refine AU (AD ?_);have hix:=List.idxOf_lt_length_iff.2 N;have A:=Ua N;refine AF (AB Z Z (AC (AX (BC (α:=Nat×List kX) (λq=>⟨92,[(1,.d (.sl none (l.map AE))),(3,(.ptr 1 0 0)),(5,(.ptr 2 0 0)),(7,(.own 900 0 q.2.length)),(10,(.d (.sl none (R.map BT)))),(11,(.d (AE (m:Int)))),(12,(.d (.sl none ((iC (hY p) R[m].r).map AE)))),(13,(.d (AE (q.1:Int))))],[(900,[.rowD 207 8 (q.2.map IG)]),(1,[B3 25 p]),(2,[pA 93 x])]⟩) (λq=>q.1<=(iC (hY p) R[m].r).idxOf x.id/\q.2=a++CS (Ca l) ((CJ x.id (B8 p R[m])).take q.1)) (λq=>(iC (hY p) R[m].r).idxOf x.id-q.1) ((0,a)) (⟨κ _,by simp[CS]⟩) (AR u [900,1,2] Z Z ⟨Z,Z,Z,Z,Z,Z,Z,Z,trivial⟩) ?_))));rintro ⟨j,b⟩ ⟨hj0,K⟩;dsimp only at hj0 K⊢;refine AD (AD (Bm [[],[],[0,1],[0,1,2],[],[4],rg 6] mixed Z (BY ?_)));have g:j<(iC (hY p) R[m].r).length:=by omega
    refine A7 12 Z Z ?_;refine A7 13 Z Z (AK [60,61] Z (Al (j) Z Z (Z) (AP g) E0 Z BE Z) (AK [62] Z (BZ Z Z Ag Z) (AK [5] Z (AL Z ST Z Z Z) (Ay [64] Z Z (λ_=>A9 (AQ Z Z Z Ag Z)) (BR 6 Z Z Z (AZ 7 Z Z (J (DP Z Z Z) (AC ⟨Z,?_⟩))))))));refine Bb (A4 Z (λD=>?_) (λD=>?_))
    .have hjlt:j<(iC (hY p) R[m].r).idxOf x.id:=by have hne:j≠(iC (hY p) R[m].r).idxOf x.id:=by {intro e;apply D;subst e;exact nJ g};omega
     refine AU (AD (AX (AD (AF ?_))));have B:j<(CJ x.id (B8 p R[m])).length:=by unfold CJ j1;rw[χ,θ];show j<min (kJ x.id (iC (hY p) R[m].r)) _;rw[A];show j<min _ (iC (hY p) R[m].r).length;omega
     have M:(CJ x.id (B8 p R[m]))[j]=⟨x.id,(iC (hY p) R[m].r)[j],R[m].r⟩:=eG x.id (B8 p R[m]) B g;refine cl Z Z (cl Z Z (cl Z Z (J (Al (j) Z Z (Z) (AP g) E0 Z BE Z) (J (BZ Z Z Ag Z) (J (Ak (Sy l (iC (hY p) R[m].r)[j] (by omega)) Z Z) (J (JQ Z Z) (AC (A4 Z (λC=>?_) (λC=>?_)))))))))
     .refine Bm [[],[],[1],[],[],[3,4],[3,4,5],[],[],[7,8],[7,8,9],[7,8,9,10],[1,2,3,4,5,6,7,8,9,10,11],[1,2,3,4,5,6,7,8,9,10,11,12],rg 14,rg 15] mixed Z (BY ?_);have hcl3:b.length<=1300000:=by rw[K,Δ];have U:=cJ (Ca l) ((CJ x.id (B8 p R[m])).take j);have h4:=o R[m].r;rw[θ] at U;omega
      refine A7 7 Z Z (AK [5] Z (AL Z ST Z Z Z) (A1 [77] [2] Z Z (λ_=>A9 (AQ Z Z Z Ag Z)) (A7 12 Z Z (A7 13 Z Z (AK [79,80] Z (Al (j) Z Z (Z) (AP g) E0 Z BE Z) (AK [81] Z (BZ Z Z Ag Z) (A7 10 Z Z (A7 11 Z Z ?_))))))));refine AK [83,84] Z (Al (m) Z Z (Z) (AP s) F0 Z Bd Z) (AK [85] Z (Jy Z QS Z Z Z) (AK [86] Z (CT Z Z C4 Z) (AK [78,82,87] Z (Dx rJ rp Z Z Z) (Cq [88] [51] [(89,_)] Z Z (λ_=>Cd (CB 51 On Z Z Z Z Z Z Z Z)) (.inr ⟨89,_,Z,Z,Z,Z,Z⟩) Z Z Z Z Z (BR 14 Z Z Z (AZ 15 Z Z (V (DQ (b) ([⟨x.id,(iC (hY p) R[m].r)[j],R[m].r⟩]) Z Z Z Z Z Z Z Z On (by simp only[η];omega) Z Z Z Z) (AC ⟨Z,?_⟩))))))));refine AZ 16 Z Z (AB Z Z (AC ⟨Z,?_⟩));refine Bb (AF (cl Z Z (J (Ac Z Z (AJ (j+1) (by have:=o R[m].r;omega)) Z) (AB Z Z (AC ?_)))));exact ⟨(j+1,b++ [⟨x.id,(iC (hY p) R[m].r)[j],R[m].r⟩]),⟨by show j+1<=_;omega,by show b++ [⟨x.id,(iC (hY p) R[m].r)[j],R[m].r⟩]=a++CS (Ca l) ((CJ x.id (B8 p R[m])).take (j+1));rw[Dt B,K,lm,M,ϱ (by show (!Ca l (iC (hY p) R[m].r)[j])=true;unfold Ca;simpa using C)]⟩,by show (iC (hY p) R[m].r).idxOf x.id-(j+1)<(iC (hY p) R[m].r).idxOf x.id-j;omega,AR u [900,1,2] Z (Z) ⟨Z,Z,Z,Z,Z,Z,Z,Z,trivial⟩⟩
     .refine AU (AF (cl Z Z (J (Ac Z Z (AJ (j+1) (by have:=o R[m].r;omega)) Z) (AB Z Z (AC ?_)))));exact ⟨(j+1,b),⟨by show j+1<=_;omega,by show b=a++CS (Ca l) ((CJ x.id (B8 p R[m])).take (j+1));rw[Dt B,K,M,υ (by show ¬(!Ca l (iC (hY p) R[m].r)[j])=true;unfold Ca;simpa using C),kZ]⟩,by show (iC (hY p) R[m].r).idxOf x.id-(j+1)<(iC (hY p) R[m].r).idxOf x.id-j;omega,AR u [900,1,2] Z (Z) ⟨Z,Z,Z,Z,Z,Z,Z,Z,trivial⟩⟩
    .have hje0:j=(iC (hY p) R[m].r).idxOf x.id:=by have hge:¬j<(iC (hY p) R[m].r).idxOf x.id:=by {intro hlt;have h8:(iC (hY p) R[m].r)[j]=x.id:=by {simpa using D};have h7:=N7 g h8;omega};omega
     refine Aq (AF ?_)
     try have z:b=a++CS (Ca l) (CJ x.id (B8 p R[m])):=by rw[K,ζ (by unfold CJ j1;rw[χ,θ];show min (kJ x.id (iC (hY p) R[m].r)) _<=j;rw[A];omega)]
     refine cl Z Z (J (Ac Z Z (AJ (m+1) (by omega)) Z) (AB Z Z (AC ?_)));exact ⟨(m+1,b),⟨by show m+1<=_;omega,by show b=c++CS (Ca l) ((R.take (m+1)).flatMap λy=>CJ x.id (B8 p y));rw[jV s,JL,<-lm,<-O];exact z⟩,by show R.length-(m+1)<R.length-m;omega,AR u [900,1,2] Z (Z) ⟨Z,Z,Z,Z,Z,Z,trivial⟩⟩
  .refine Aq (AD ?_);have hfa:a=CS (Ca l) ((S.map λy=>(⟨x.id,y,HE⟩:kX))++R.flatMap λy=>CJ x.id (B8 p y)):=by rw[O,Q,ζ (by have h:=G;omega),JL]
   refine Fi (emb:=IG) 7 900 a Z Z Z Z Z Z Z (AF (cl Z Z (AB Z Z (AC (A5 ?_)))));exact ⟨_,[],[],A2 Z,Z,Z,by rw[hfa],Z⟩
structure PV (p:iB):Prop where
 e:Ad p=0
 b:FE p
 i:p.it.length<=1000
 r:p.ro.length<=1000
 q:∀i∈p.it,i.po.length<=1000/\i.pa.length<=1000/\i.af.length<=1000
theorem qV(h:f i=true):FQ a f i=CS f (kb a i):=ϱ h
theorem iz(h:¬f i=true):FQ a f i=[]:=υ h
def Nt(p:iB)(r:AW)(l:List Int):Int:=l.foldl (λs x=>s+BN (hG p x) r) 0
theorem be(p:iB)(r:AW)(a:k<j.length):Nt p r (j.take (k+1))=Nt p r (j.take k)+BN (hG p j[k]) r:=by
 unfold Nt;rw[ψ a,List.foldl_append];rfl
theorem Ry(p:iB)(r:AW):∀(l:List Int) (a:Int),l.foldl (λs x=>s+BN (hG p x) r) a=a+DR p r (Aw l)
 | [],a=>by simp[DR,Aw]
 | x::l,a=>by
  rw[List.foldl_cons,Ry p r l];show _=a+DR p r ((x,true)::Aw l);rw[KK,ϱ rfl];omega
theorem Lo(p:iB)(r:AW)(l:List Int):Nt p r l=DR p r (Aw l):=by unfold Nt;rw[Ry];omega
theorem cd(p:iB)(l:List Int)(v:PV p)(X:l.length<=1000)(K:∀x∈l,x∈p.it.map dr.id):AI prog 63 [.d (BM p),.d (.sl none (l.map AE))] (.sl none ((Jq p (Aw l)).map BT)):=by
 have h1:=v.i;have Y:=v.r;have w:=RH p v.e (by omega);have E:=PX p.ro;have z:∀x∈lE p.ro,-4000000000000000<=x.n/\x.n<=4000000000000000:=λx O=>HF (HZ v.e).1 x ((qm p.ro).mem_iff.1 O);have D:Jq p (Aw l)=(lE p.ro).flatMap λy=>KL p (Aw l) (B8 p y):=by unfold Jq;rw[Rg]
 rw[D]
 obtain ⟨R,U⟩:∃R,lE p.ro=R:=⟨_,Z⟩
 rw[U] at w E z⊢;refine Av func63 Z Z ntmps63 Z Z Z λF B=>(AD (AF (V (Ba 1 Z Z Z Z Z Z Z) (AB Z Z (AC ?_)))));refine AD (AF (AB Z Z (AC (AD (IY 5 900 UT Z Z Z Z (AF (J (Ar Z Z Bx Z Z Z) (J (Ak (w) Z Z) ?_))))))));refine AB Z Z (AC (AD (AD (AF (AB Z Z (AC (AX (BC (α:=Nat×List gf) (λq=>⟨72,[(1,.d (.sl none (l.map AE))),(2,(.ptr 1 0 0)),(5,(.own 900 0 q.2.length)),(6,(.d (.sl none (R.map BT)))),(7,(.d (AE (q.1:Int))))],[(900,[.rowD 120 7 (q.2.map BT)]),(1,[B3 25 p])]⟩) (λq=>q.1<=R.length/\q.2=(R.take q.1).flatMap (λy=>KL p (Aw l) (B8 p y))/\q.2.length<=q.1) (λq=>R.length-q.1) ((0,[])) (⟨κ _,Z,Θ _⟩) (AR B [900,1] Z Z ⟨Z,Z,Z,Z,Z,trivial⟩) ?_))))))));rintro ⟨k,a⟩ ⟨G,C,W⟩;dsimp only at G C W⊢;refine AD (AD (AF (cl Z Z (cl Z Z (J (BW Z F0 Z) (J (At Z Z Z) (AC (A4 Z (λu=>?_) (λu=>?_)))))))))
 .have b:k<R.length:=BG u;refine AU (AD (AX (AD ?_)));have Q:=z _ (ϑ b);refine AF ?_;refine AB Z Z (AC (AD (AD (AF (AB Z Z (AC (AX (BC (α:=Nat) (λn=>⟨72,[(1,.d (.sl none (l.map AE))),(2,(.ptr 1 0 0)),(5,(.own 900 0 a.length)),(6,(.d (.sl none (R.map BT)))),(7,(.d (AE (k:Int)))),(8,(.d (AE (Nt p R[k].r (l.take n))))),(9,(.d (AE (n:Int))))],[(900,[.rowD 120 7 (a.map BT)]),(1,[B3 25 p])]⟩) (λn=>n<=l.length) (λn=>l.length-n) (0) (κ _) (AR B [900,1] Z Z ⟨Z,Z,Z,Z,Z,Z,Z,trivial⟩) ?_))))))));rintro n S;refine AD (AD (AF (cl Z Z (cl Z Z (J (BW Z E0 Z) (J (At Z Z Z) (AC (A4 Z (λt=>?_) (λt=>?_)))))))))
  .have g:n<l.length:=BG t;refine AU (AD (AX (Bm [[],[],[1],[],[],[],[4,5],[4,5,6],[3,4,5,6,7],[1,2,3,4,5,6,7,8],[1,2,3,4,5,6,7,8,9],[],[],[11,12],[11,12,13],[11,12,13,14],[1,2,3,4,5,6,7,8,9,10,11,12,13,14,15],rg 17,rg 18] mixed Z (BY ?_))));have c:l[n]∈p.it.map dr.id:=K _ (ϑ g);have H:St l[n] (p.it.map dr.id)=(((p.it.map dr.id).idxOf l[n]:Nat):Int):=(Zf c).choose_spec.1;have A:(p.it.map dr.id).idxOf l[n]<p.it.length:=(Zf c).choose;have I:hG p l[n]=p.it[(p.it.map dr.id).idxOf l[n]]:=(Zf c).choose_spec.2.1;have i:=v.q _ (ϑ A);have M:=MM p R[k].r (l:=Aw (l.take n)) (by unfold Aw;rw[χ,θ];omega);rw[<-Lo] at M;have T:=Xf p.it[(p.it.map dr.id).idxOf l[n]] R[k].r;refine A7 8 Z Z (AK [2] Z (AL Z JS Z Z Z) (Ay [26] Z Z (λ_=>A9 (AQ Z Z Z DE Z)) ?_));refine Ay [2] Z Z (λ_=>A9 (Ar Z Z Bx Z Z Z)) (A7 1 Z Z (A7 9 Z Z (AK [29,30] Z (Al (n) Z Z (Z) (AP g) E0 Z BE Z) (AK [31] Z (BZ Z Z Ag Z) (AK [28,32] Z (Ak (Pg p l[n] (by omega)) Z Z) (AK [27,33] Z (Al ((p.it.map dr.id).idxOf l[n]) Z Z (H) (AP A) No Z CP Z) (AK [34] Z (CT Z Z Ev Z) (A7 6 Z Z ?_))))))));refine A7 7 Z Z (AK [36,37] Z (Al (k) Z Z (Z) (AP b) F0 Z Bd Z) (AK [38] Z (Jy Z QS Z Z Z) (AK [39] Z (CT Z Z C4 Z) (AK [35,40] Z (Ak (sQ p.it[(p.it.map dr.id).idxOf l[n]] R[k].r i.1 i.2.1 i.2.2) Z Z) (BR 17 Z Z Z (AZ 18 Z Z (J (Ac Z Z (Ξ _ (by omega)) Z) (AC ⟨Z,?_⟩))))))));refine AZ 19 Z Z (AB Z Z (AC ⟨Z,?_⟩));refine Bb (AF (cl Z Z (J (Ac Z Z (AJ (n+1) (by omega)) Z) (AB Z Z (AC ?_)))));exact ⟨n+1,by show n+1<=_;omega,by show l.length-(n+1)<l.length-n;omega,AR B [900,1] Z Z ⟨Z,Z,Z,Z,Z,by rw[be p R[k].r g,I];rfl,Z,trivial⟩⟩
  .have f:l.take n=l:=ζ (by have h:=t;omega);refine Aq (AD (AF (cl Z Z (cl Z Z (J (Al (k) Z Z (Z) (AP b) F0 Z Bd Z) (J (IJ Z Jl Z Z Z) (J (BZ Z Z FK Z) ?_)))))));refine AB Z Z (AC (AD (AD (AF (cl Z Z (J (At Z Z Z) (AC (A4 Z (λN=>?_) (λN=>?_)))))))));refine AF (AB Z Z (AC (AD ?_)));have j:=MM p R[k].r (l:=Aw (l.take n)) (by unfold Aw;rw[χ,θ];omega);rw[<-Lo] at j;refine Xt 10 (.d (AE (max R[k].n 0))) Z (Ae (by omega)) (AF (cl Z Z (J (At Z Z Z) (cl Z Z (C5 52 Z (λs=>?_) (λs=>?_))))));refine AT Z Z Z (cl Z Z ?_);refine AT Z Z Z (cl Z Z (AT Z Z Z (J (Ac Z Z (Ξ _ (by omega)) Z) (AT Z Z Z (J (At Z Z Z) (J (B4 Z Z Z Z) (AC (A4 Z (λo=>?_) (λo=>?_)))))))));refine AF (cl Z Z (cl Z Z (cl Z Z (J (Al (k) Z Z (Z) (AP b) F0 Z Bd Z) (J (Jy Z QS Z Z Z) (J (CT Z Z C4 Z) ?_))))));refine cl Z Z (J (MC Z Z (Ξ _ (by omega)) Z) (cl Z Z (J (MC Z Z (Ξ _ (by omega)) Z) (J (Dx rN rr Z Z Z) (V (CB 2 UT Z Z Z Z Z Z Z Z) (V (DQ (a) ([⟨R[k].r,0-Nt p R[k].r (l.take n)-max R[k].n 0⟩]) Z Z Z Z Z Z Z Z UT (by simp only[η];omega) Z Z Z Z) (AB Z Z (AC ?_))))))))
   rotate_left
   refine AU ?_
   rotate_left
   refine AN Z Z Z Z (AN Z Z Z Z (AN Z Z Z Z (AN Z Z Z Z (J (Br Z Z Z Z) (AC (Cr Z Z (AU ?_)))))))
   rotate_left
   refine AU (AD ?_);have j:=MM p R[k].r (l:=Aw (l.take n)) (by unfold Aw;rw[χ,θ];omega);rw[<-Lo] at j;refine Xt 10 (.d (AE (max R[k].n 0))) Z (Ae (by omega)) (AF (cl Z Z (J (At Z Z Z) (cl Z Z (C5 52 Z (λs=>?_) (λs=>?_))))));refine AT Z Z Z (cl Z Z ?_);refine AT Z Z Z (cl Z Z (AT Z Z Z (J (Ac Z Z (Ξ _ (by omega)) Z) (AT Z Z Z (J (At Z Z Z) (J (B4 Z Z Z Z) (AC (A4 Z (λo=>?_) (λo=>?_)))))))));refine AF (cl Z Z (cl Z Z (cl Z Z (J (Al (k) Z Z (Z) (AP b) F0 Z Bd Z) (J (Jy Z QS Z Z Z) (J (CT Z Z C4 Z) ?_))))));refine cl Z Z (J (MC Z Z (Ξ _ (by omega)) Z) (cl Z Z (J (MC Z Z (Ξ _ (by omega)) Z) (J (Dx rN rr Z Z Z) (V (CB 3 UT Z Z Z Z Z Z Z Z) (V (DQ (a) ([⟨R[k].r,0-Nt p R[k].r (l.take n)-max R[k].n 0⟩]) Z Z Z Z Z Z Z Z UT (by simp only[η];omega) Z Z Z Z) (AB Z Z (AC ?_))))))))
   rotate_left
   refine AU ?_
   rotate_left
   refine AN Z Z Z Z (AN Z Z Z Z (AN Z Z Z Z (AN Z Z Z Z (J (Br Z Z Z Z) (AC (Cr Z Z (AU ?_)))))))
   all_goals
    refine AF (cl Z Z (J (Ac Z Z (AJ (k+1) (by omega)) Z) (AB Z Z (AC ?_))))
    first | exact ⟨(k+1,a++ [⟨R[k].r,0-Nt p R[k].r (l.take n)-max R[k].n 0⟩]),⟨by show k+1<=_;omega,by show a++ [_]=(R.take (k+1)).flatMap (λy=>KL p (Aw l) (B8 p y));rw[jV b,<-C];unfold KL;rw[<-Lo,ϱ (by show max R[k].n 0+Nt p R[k].r l<0;rw[<-f];omega)];rw[f];congr 3;show _=0-(max R[k].n 0+Nt p R[k].r l);omega,by show (a++ [_]).length<=k+1;rw[Δ];simp;omega⟩,by show R.length-(k+1)<R.length-k;omega,AR B [900,1] Z Z ⟨Z,Z,Z,Z,Z,trivial⟩⟩ | exact ⟨(k+1,a),⟨by show k+1<=_;omega,by show a=(R.take (k+1)).flatMap (λy=>KL p (Aw l) (B8 p y));rw[jV b,<-C];unfold KL;rw[<-Lo,υ (by show ¬max R[k].n 0+Nt p R[k].r l<0;rw[<-f];omega),kZ],by show a.length<=k+1;omega⟩,by show R.length-(k+1)<R.length-k;omega,AR B [900,1] Z Z ⟨Z,Z,Z,Z,Z,trivial⟩⟩
 .refine Aq (AD ?_);have L:a=R.flatMap (λy=>KL p (Aw l) (B8 p y)):=by rw[C,ζ (by have h:=u;omega)]
  refine Fi (emb:=BT) 5 900 a Z Z Z Z Z Z Z (AF (cl Z Z (AB Z Z (AC (A5 ?_)))));exact ⟨_,[],[],A2 Z,Z,Z,by rw[L],Z⟩
abbrev xZ(n:Nat):D:= .raw (.int .u32 (n:Int))
structure mx where
 ids:List Int
 bl:List Nat
 de:List (List Int)
 rm:List Int
abbrev xd(l:List Int):D:= .sl none (l.map AE)
abbrev x7(s:mx):D:= .agg [.sl none (s.ids.map AE),.sl none (s.bl.map xZ),.sl none (s.de.map xd),.sl none (s.rm.map AE)]
def yK(s:mx)(x:Nat)(i:Nat):Bool:=x.testBit i && decide (yh (s.bl.getD i 0) x≠0)
def ly(s:mx)(x:Nat):Bool:=!(List.range s.bl.length).any (yK s x)
def jw(s:mx)(x:Nat):List Int:=((List.range s.ids.length).filter λi=>x.testBit i).map λi=>s.ids.getD i 0
def lS(n:Nat):Nat->Nat->Nat->List Nat
 | 0,_,x=> [x]
 | l+1,frm,x=>((List.range (n+1-(l+1)-frm)).map (frm+ ·)).flatMap λi=>lS n l (i+1) (x ||| 1<<<i)
section
variable{β:Type}(step:β->Nat->β×Bool)
end
section
variable{β:Type}
def jI(s:mx):List Nat:=(List.range (s.ids.length+1)).flatMap λk=>(lS s.ids.length k 0 0).filter (ly s)
end
variable{E:List (dr×Nat)}{a:List AW}{c:iB}{S:List Nat}{M:List (Int×Bool)}{i:Nat}{f:List Int}{k:Nat}{C:List Int}{g:kX}{h:List Int}{j:Nat->Nat}{o:Nat->Nat->Prop}{s:AW}{t:List Nat}{x:Int}{u:dr}{w:Bool}{y:List dr}{z:Int->Bool}{A B:Nat->Nat}{N:ji}{F:Int}{G:Nat}{H:MF}{I K L:Nat}
def x8(p:iB):List Int:=Cg (IZ p)
theorem J7(a:Ad c=0):(IZ c).Perm (c.it.map dr.id):=by grind[IZ,hY,KI]
theorem d8(a:Ad c=0):(x8 c).Perm (c.it.map dr.id):=(jR _).trans (J7 a)
theorem Y2(a:Ad c=0)(x:Int):x∈x8 c↔x∈c.it.map dr.id:=(d8 a).mem_iff
theorem tE(k:Ad c=0)(A:F∈c.it.map dr.id)(s:g∈kb c F):g.m∈x8 c:=by
 rw[Y2 k];unfold kb at s;rcases ν.1 s with h | h
 .unfold U4 at h;obtain ⟨x,u,rfl⟩:=Γ.1 h;have j:=(jR _).mem_iff.1 u;obtain ⟨w,_,B,_⟩:=Zf A;rw[B] at j;have C:=Iy (HZ k).2.2 _ (Γ.2 ⟨_,ϑ w,Z⟩)
  grind[Qb,Im]
 .obtain ⟨y,l,h⟩:=mO.1 h;unfold CJ at h;obtain ⟨z,t,rfl⟩:=Γ.1 h;have f:z∈y.q:=lL t;unfold hJ at l;obtain ⟨r,_,rfl⟩:=Γ.1 l;have a:z∈iC (hY c) r.r:=f;unfold iC at a;obtain ⟨o,v,rfl⟩:=Γ.1 a;exact (J7 k).mem_iff.1 (Γ.2 ⟨o,(Φ.1 v).1,Z⟩)
abbrev wn(s:mx)(q:Nat×Nat):Hp:=[(2,[.blk 390 [.d (.ptr (x7 s))]]),(3,[.blk 3 [.d (AE (q.1:Int))]]),(4,[.blk 3 [.d (AE (q.2:Int))]])]
structure yi (s:mx):Prop where
 n:s.ids.length<=20
 b:s.bl.length<=20
 u:∀b∈s.bl,b<4294967296
 r:s.rm.length<=1000
 d:s.de.length=s.rm.length
 v:∀r∈s.de,r.length<=32/\∀v∈r,-1000000000000000<=v/\v<=1000000000000000
 m:∀v∈s.rm,0<=v/\v<=4000000000000000
deriving instance DecidableEq for mM
theorem aP:Cg []=[]:=m5 (E5 [])
inductive Wc (p:iB) (S:List Int):Int->Prop
 | base {x:Int} (h:x∈S):Wc p S x
 | step {i:Int} {b:kX} (h:Wc p S i) (hb:b∈kb p i):Wc p S b.m
theorem Wc.ids(a:Ad c=0)(i:∀x∈f,x∈c.it.map dr.id)(h:Wc c f x):x∈c.it.map dr.id:=by
 induction h with
 | base h=>exact i _ h
 | step _ g b=>exact (Y2 a _).1 (tE a b g)
theorem QD(h:g∈jc c z):∃i,i∈IZ c/\z i=true/\g∈kb c i/\z g.m=false:=by
 unfold jc at h;obtain ⟨i,a,h⟩:=mO.1 h;unfold FQ at h
 split at h
 .rename_i j
  obtain ⟨l,k⟩:=Φ.1 h
  grind
 .cases h
theorem NH(a:Ad c=0)(h:jc c z=[])(j:F∈c.it.map dr.id)(k:z F=true)(l:g∈kb c F):z g.m=true:=by
 cases hm:z g.m with
 | true=>rfl
 | false=>
  have:g∈jc c z:=mO.2 ⟨F,(J7 a).mem_iff.2 j,by unfold FQ;rw[ϱ k];exact Φ.2 ⟨l,by rw[hm];rfl⟩⟩
  grind
noncomputable def jz(p:iB)(S:List Int):List Int:=Cg ((p.it.map dr.id).filter λx=> @decide (Wc p S x) (Classical.propDecidable _))
theorem Om{m:List Int}(a:h.Perm m):Cg h=Cg m:=Ol ((jR h).trans a) ((Kv h).imp λa=>qJ.2 a)
theorem Z4{C:List Int}(b:Ad c=0)(j:∀x∈f,x∈c.it.map dr.id)(g:C.Nodup)(h:∀x,x∈C↔Wc c f x):Cg C=jz c f:=by
 unfold jz;have i:=Xy (HZ b).2.1;refine Om ((rD g (List.Nodup.sublist lp i)).2 λx=>?_);rw[h x,Φ]
 constructor
 .intro a;exact ⟨a.ids b j,by simpa using a⟩
 simp
theorem Ru{f:Type}{q r:f->Bool}:∀{l:List f},(∀x∈l,q x=true->r x=true)->(∃x,x∈l/\r x=true/\q x=false)->(l.filter q).length<(l.filter r).length
 | [],_,⟨x,b,_⟩=>by cases b
 | a::l,h,⟨x,b,o,k⟩=>by
  have i:∀{l:List f},(∀x∈l,q x=true->r x=true)->(l.filter q).length<=(l.filter r).length:=by
   intro l
   induction l with
   | nil=>intro _;exact Θ _
   | cons c l g=>
    intro h;have s:=g λx b=>h x (kx _ b);have j:=h c k8;rw[lg,lg]
    cases hq:q c with
    | false=>cases r c<;>simp<;>omega
    | true=>rw[j hq];simp;exact s
  have t:=i (l:=l) λx b=>h x (kx _ b);rw[lg,lg];rcases ju.1 b with rfl | b
  .rw[o,k];simp;omega
  .have g:=Ru (l:=l) (λx b=>h x (kx _ b)) ⟨x,b,o,k⟩;have j:=h a k8
   cases hq:q a with
   | false=>cases r a<;>simp<;>omega
   | true=>rw[j hq];simp;exact g
structure Cl (p:iB) (S C:List Int):Prop where
 n:C.Nodup
 s:∀x∈S,x∈C
 r:∀x∈C,Wc p S x
theorem Cl.len(h:Cl c f C)(b:Ad c=0)(i:∀x∈f,x∈c.it.map dr.id):C.length<=c.it.length:=by
 have g:=Xy (HZ b).2.1
 have j:=((rD h.n (List.Nodup.sublist (lp (p:=λx=>decide (x∈C))) g)).2 λx=>by
  rw[Φ]
  exact ⟨λa=>⟨(h.r x a).ids b i,by simpa using a⟩,λa=>by simpa using a.2⟩).length_eq
 grind
theorem Cl.done(h:Cl c f C)(g:Ad c=0)(j:∀x∈f,x∈c.it.map dr.id)(s:jc c (Ca C)=[]):Cg C=jz c f:=by
 refine Z4 g j h.n λx=>⟨h.r x,λa=>?_⟩
 induction a with
 | base l=>exact h.s _ l
 | @step i b a o k=>
  have r:=NH g s (a.ids g j) (Υ k) o
  simpa [Ca] using r
theorem Cl.add(h:Cl c f C)(l:g∈jc c (Ca C)):Cl c f (C++ [g.m])/\g.m∉C:=by
 obtain ⟨i,_,s,r,o⟩:=QD l;have k:i∈C:=by simpa [Ca] using s
 have j:g.m∉C:=by simpa [Ca] using o
 refine ⟨⟨?_,λx a=>ν.2 (.inl (h.s x a)),λx a=>?_⟩,j⟩
 .rw[mc];refine ⟨h.n,by simp,λx a y t e=>?_⟩
  grind
 .rcases ν.1 a with a | a
  .exact h.r x a
  .rw[ξ.1 a];exact .step (h.r i k) r
theorem Cl.dec{D:List Int}{m:Int}(b:m∈c.it.map dr.id)(i:m∉C)(g:m∈D)(h:∀x∈C,x∈D):((c.it.map dr.id).filter λx=>!Ca D x).length<((c.it.map dr.id).filter λx=>!Ca C x).length:=
 Ru (λx _ a=>by
  have:x∉D:=by simpa [Ca] using a
  have:x∉C:=λf=>this (h x f)
  simpa [Ca] using this) ⟨m,b,by simpa [Ca] using i,by simpa [Ca] using g⟩
theorem gq(g:Nat)(E:TypeId)(l:List kX):W1 [(g,[.rowD E 8 (l.map IG)])]:=⟨⟨λx f c a=>by
 obtain ⟨b,_,rfl⟩:=Γ.1 f
 simp[D.cells] at a
 rcases a with rfl | rfl | rfl | rfl | rfl | rfl | rfl | rfl<;>rfl,trivial⟩,trivial⟩
theorem Xn(p:iB)(l:List Int)(c:PV p)(G:l.length<=100000):AO prog 110 [.d (BM p),.d (.sl none (l.map AE))] [] λr K=>r= .own 900 0 (jc p (Ca l)).length/\K=[(900,[.rowD 207 8 ((jc p (Ca l)).map IG)])]:=by
 have I:hY p=fl p.it:=ϱ c.e;have D:=c.i;have j:=Ey p.it D;have y:=λx v=>VD p l x c.e c.b D c.r c.q G v;have o:=λi=>OD c.b D c.r i;have s:∀x∈fl p.it,x∈p.it:=λx v=>(KI p.it).mem_iff.1 v;have w:=O2 p.it;have A:jc p (Ca l)=(fl p.it).flatMap λx=>FQ p (Ca l) x.id:=by unfold jc IZ;rw[I,List.flatMap_map]
 rw[A]
 obtain ⟨S,H⟩:∃S,fl p.it=S:=⟨_,Z⟩
 rw[H] at j s w⊢;refine Av func110 Z Z ntmps110 Z Z Z λF C=>(AD (AF (V (Ba 1 Z Z Z Z Z Z Z) (AB Z Z (AC (AD ?_))))));refine AF (AB Z Z (AC (AD (IY 5 900 On Z Z Z Z (AF (J (AL Z JS Z Z Z) (J (AQ Z Z Z DE Z) (J (Ak (j) Z Z) ?_))))))));refine AB Z Z (AC (AD (AD (AF (AB Z Z (AC (AX (BC (α:=Nat×List kX) (λq=>⟨34,[(1,.d (.sl none (l.map AE))),(2,(.ptr 1 0 0)),(5,(.own 900 0 q.2.length)),(6,(.d (.sl none (S.map Ah)))),(7,(.d (AE (q.1:Int))))],[(900,[.rowD 207 8 (q.2.map IG)]),(1,[B3 25 p])]⟩) (λq=>q.1<=S.length/\q.2=(S.take q.1).flatMap (λx=>FQ p (Ca l) x.id)/\q.2.length<=q.1*1100000) (λq=>S.length-q.1) ((0,[])) (⟨κ _,Z,Θ _⟩) (AR C [900,1] Z Z ⟨Z,Z,Z,Z,Z,trivial⟩) ?_))))))));rintro ⟨k,a⟩ ⟨z,u,B⟩;dsimp only at z u B⊢;refine AD (AD (AF (cl Z Z (cl Z Z (J (BW Z No Z) (J (At Z Z Z) (AC (A4 Z (λg=>?_) (λg=>?_)))))))))
 .have b:k<S.length:=BG g;refine AU (AD (AX (AD (AF ?_))));refine cl Z Z (cl Z Z (cl Z Z (J (Al (k) Z Z (Z) (AP b) No Z CP Z) (J (IJ Z ST Z Z Z) (J (BZ Z Z Ag Z) (J (Ak (Sy l S[k].id (by omega)) Z Z) (AC (A4 Z (λf=>?_) (λf=>?_)))))))))
  .refine Bm [[],[],[],[],[],[3,4],[3,4,5],[1,2,3,4,5,6],rg 8,rg 9] mixed Z (BY (A7 5 Z Z ?_));refine Ay [2] Z Z (λ_=>A9 (Ar Z Z Bx Z Z Z)) (A7 1 Z Z (A7 6 Z Z (A7 7 Z Z (AK [27,28] Z (Al (k) Z Z (Z) (AP b) No Z CP Z) (AK [29] Z (CT Z Z Ev Z) (AK [25,26,30] Z (Ak (y S[k] (s _ (ϑ b))) Z Z) (BR 8 Z Z Z (AZ 9 Z Z ?_))))))));have E:=jq (cJ (Ca l) _) (o S[k].id);refine V (JR (a) (CS (Ca l) (kb p S[k].id)) Z Z Z Z Z Z (λ_=>rfl) On (by omega) Z Z Z Z) (AC ⟨Z,?_⟩);refine AZ 10 Z Z (AB Z Z (AC ⟨Z,?_⟩));refine Bb (AF (cl Z Z (J (Ac Z Z (AJ (k+1) (by omega)) Z) (AB Z Z (AC ?_)))));exact ⟨(k+1,a++CS (Ca l) (kb p S[k].id)),⟨by show k+1<=_;omega,by show a++CS (Ca l) (kb p S[k].id)=(S.take (k+1)).flatMap (λx=>FQ p (Ca l) x.id);rw[jV b,<-u,qV (Υ f)],VM B (jq (cJ (Ca l) _) (o S[k].id))⟩,by show S.length-(k+1)<S.length-k;omega,AR C [900,1] Z (Z) ⟨Z,Z,Z,Z,Z,trivial⟩⟩
  .refine AU (AF (cl Z Z (J (Ac Z Z (AJ (k+1) (by omega)) Z) (AB Z Z (AC ?_)))));exact ⟨(k+1,a),⟨by show k+1<=_;omega,by show a=(S.take (k+1)).flatMap (λx=>FQ p (Ca l) x.id);rw[jV b,<-u,iz (by unfold Ca;simpa using f),kZ],ZH B⟩,by show S.length-(k+1)<S.length-k;omega,AR C [900,1] Z (Z) ⟨Z,Z,Z,Z,Z,trivial⟩⟩
 .refine Aq (AD ?_);have t:a=S.flatMap (λx=>FQ p (Ca l) x.id):=by rw[u,ζ (by have h:=g;omega)]
  refine AF (cl Z Z (AB Z Z (AC (A5 ?_))));exact ⟨_,[900],_,A2 Z,Z,Z,by rw[t],by rw[t]⟩
theorem eP(p:iB)(l:List Int)(f:PV p)(u:l.length<=1000)(t:l.Nodup)(j:∀x∈l,x∈p.it.map dr.id):AI prog 62 [.d (BM p),.d (.sl none (l.map AE))] (.sl none ((jz p l).map AE)):=by
 have v:=f.i;refine Av func62 Z Z ntmps62 Z Z Z λF k=>(AD (AF (V (Ba 1 Z Z Z Z Z Z Z) (AB Z Z (AC ?_)))));refine AD (AF (V (CB 30 Ap Z Z Z Z Z Z Z Z) (cl Z Z (V (JR (([]:List Int)) (l) Z Z Z Z Z Z (λ_=>rfl) Ap (by simp only[lX];omega) Z Z Z Z) (AB Z Z (AC (AX (BC (α:=List Int) (λa=>⟨25,[(2,(.ptr 1 0 0)),(5,(.own 30 0 a.length))],[(1,[B3 25 p]),(30,[.rowD 3 1 (a.map AE)])]⟩) (λa=>Cl p l a) (λa=>((p.it.map dr.id).filter λx=>!Ca a x).length) (l) (⟨t,λ_ h=>h,λ_ h=> .base h⟩) (AR k [1,30] Z Z ⟨Z,Z,trivial⟩) ?_))))))));rintro a g;refine AX (AD ?_);have s:=g.len f.e j;refine AF (J (Ar Z Z Bx Z Z Z) (cl Z Z (V (dW [30] (Xn p a f (by omega)) (by exact ⟨.inl Z,.inr ⟨_,_,Z,.own Z Z (by simp) (ζ (by simp)),Z⟩,trivial⟩) [900] ⟨Z,trivial⟩ Z Z Z Z Z Z Z (gq _ _ _) Z Z) (AB Z Z ?_))));refine AC (AD (AD (AF (cl Z Z (J (QT Z underlying204 Z) (J (GW Z Z Z) (AC (A4 Z (λc=>?_) (λc=>?_)))))))))
 .refine AD ?_;have i:jc p (Ca a)=[]:=m5 (by have h:=c;omega);refine Fi (emb:=AE) 5 30 a Z Z Z Z Z Z Z (AF (cl Z Z (J (Ak (US a (by omega)) Z Z) (AB Z Z (AC (A5 ?_))))));exact ⟨_,[],[],A2 Z,Z,Z,by rw[g.done f.e j i],Z⟩
 .refine AU ?_;have b:0<(jc p (Ca a)).length:=by have h:=c;omega
  refine Fi (emb:=IG) 6 900 (jc p (Ca a)) Z Z Z Z Z Z Z (AF ?_);refine cl Z Z (cl Z Z (J (Al (0) Z Z (Z) (AP b) underlying204 Z vh Z) (J (IJ Z pS Z Z Z) (J (BZ Z Z Ag Z) (V (CB 31 Ap Z Z Z Z Z Z Z Z) (V (DQ (a) ([(jc p (Ca a))[0].m]) Z Z Z Z Z Z Z Z Ap (by simp only[η];omega) Z Z Z Z) (AB Z Z (AC ?_))))))));exact ⟨a++ [(jc p (Ca a))[0].m],(g.add (ϑ b)).1,Cl.dec (((g.add (ϑ b)).1.r _ (by simp)).ids f.e j) (g.add (ϑ b)).2 (by simp) (λx o=>ν.2 (.inl o)),AR k [1,30] Z (Z) ⟨Z,Z,trivial⟩⟩
theorem bw(a:FE c)(g:c.it.length<=1000)(b:c.ro.length<=1000)(f:Int->Bool):(jc c f).length<=1100000000:=by
 unfold jc;have h:=Iz (f:=FQ c f) (n:=1100000) (l:=IZ c) (λx _=>WO a g b f x)
 grind[IZ,DY]
def Df(M:List (Int×Bool)):List Int:=(M.filter λe=>e.2).map Prod.fst
theorem Oa(k:Int)(v:Bool)(M:List (Int×Bool)):Df ((k,v)::M)=(if v=true then [k] else [])++Df M:=by
 unfold Df;cases v<;>simp
theorem O9{l m:List (Int×Bool)}(h:l.Perm m):(Df l).Perm (Df m):=(h.filter _).map _
theorem Zy(M:List (Int×Bool)):(Df M).length<=M.length:=by unfold Df;rw[χ];exact lB _ _
abbrev yQ(mv:Nat)(B:List Nat)(c:Nat)(M:List (Int×Bool)):Hp:=[(12,[.map (some (B,c)) (Bi AE Aj M)]),(13,[.addr 12 0 (.map (some mv))])]
theorem dZ(j:Nat)(B:List Nat)(c:Nat)(M:List (Int×Bool))(z:B.length=M.length)(E:M.length<=100000):AO prog 73 [mapV j] (yQ j B c M) λr A=>r= .own 900 0 (Df M).length/\A=yQ j B c M++ [(900,[.rowD 3 1 ((Cg (Df M)).map AE)])]:=by
 have D:=Zy M;refine Av func73 Z Z ntmps73 Z Z Z λF u=>?_;refine AD (AF (AB Z Z (AC (AD (AF (AB Z Z (AC (AD ?_))))))));refine AD (IY 3 900 Ap Z Z Z Z (AF (cl Z Z (EP 6 13 0 Z Z (V (Gz 1 Z Z Z KE Z Z Z Z) (AC (AX (BC (α:=List Nat×List Int) (λq=>⟨21,[(3,(.own 900 0 q.2.length)),(7,(.ptr 1 0 0))],yQ j B c M++ [(900,[.rowD 3 1 (q.2.map AE)]),(1,[.iter 12 0 c q.1])]⟩) (λq=>(q.2++Df (CX M B q.1)).Perm (Df M)) (λq=>(CX M B q.1).length) (([],[])) (by show ([]++Df (CX M B [])).Perm _;rw[Dn z];exact List.Perm.refl _) (AR u [12,13,900,1] Z Z ⟨Z,Z,trivial⟩) ?_))))))));rintro ⟨seen,a⟩ i;dsimp only at i⊢;refine AD (AF (Me (M) Z Z Z Z (λs=>?_) (λw h l C o t y f=>⟨_,Z,?_⟩)))
 .have b:a.Perm (Df M):=by have k:=i;rw[s] at k;simpa [Df] using k
  refine J (D6 Z Z Z) (AC (AD (Cr Z Z (Aq (AD (AF ?_))))));have v:=b.length_eq;refine cl Z Z (V (UK sD a (by omega) Z Z Z Z Z Z Z) (AC (AD (AF (cl Z Z (AB Z Z (AC (A5 ?_))))))));exact ⟨_,[12,13,900],_,A2 Z,Z,Z,by rw[b.length_eq],by rw[Om b];rfl⟩
 .refine J (D6 Z Z Z) ?_;refine AC (AD (CM Z Z (AU (AX (AD (AF (J (HB (M) w h Z Z Z o t Z) (J (D6 Z Z Z) ?_))))))));refine J (D6 Z Z Z) (AB Z Z (AB Z Z (AC (AD (AF (cl Z Z (AC (Jo Z (λg=>?_) (λg=>?_)))))))))
  .refine AF (cl Z Z ?_);have x:a.length<=100000:=by have k:=i.length_eq;rw[Δ] at k;omega
   refine cl Z Z (V (CB 30 Ap Z Z Z Z Z Z Z Z) (V (DQ (a) ([l]) Z Z Z Z Z Z Z Z Ap (by simp only[η];omega) Z Z Z Z) (AB Z Z (AC ?_))));exact ⟨(seen++ [h],a++ [l]),(by show ((a++ [l])++Df (CX M B (seen++ [h]))).Perm _;refine List.Perm.trans (List.Perm.trans ?_ (List.Perm.append_left a (O9 f)).symm) i;rw[Oa,ϱ (by simpa using g),lm]),by show (CX M B (seen++ [h])).length<(CX M B seen).length;rw[f.length_eq];exact mS _,AR u [12,13,900,1] Z (Z) ⟨Z,Z,trivial⟩⟩
  .refine AU ?_;exact ⟨(seen++ [h],a),(by show (a++Df (CX M B (seen++ [h]))).Perm _;refine List.Perm.trans (List.Perm.trans ?_ (List.Perm.append_left a (O9 f)).symm) i;rw[Oa,υ (by simpa using g),kP]),by show (CX M B (seen++ [h])).length<(CX M B seen).length;rw[f.length_eq];exact mS _,AR u [12,13,900,1] Z (Z) ⟨Z,Z,trivial⟩⟩
def WS(M:List (Int×Bool)):Prop:=∀e∈M,e.2=true
def j9(M:List (Int×Bool)):List Int:=M.map Prod.fst
theorem Zz(h:WS M):Df M=j9 M:=by
 unfold Df j9;rw[rE.2 h]
theorem ZN(h:WS M):kB M=Ca (j9 M):=by grind[kB,Ca,j9,Iq,Ja,WS]
theorem jK(h:WS M)(x:Int):WS (B2 M x true):=λe i=>by
 obtain ⟨j,c,rfl⟩:=mE.1 i;have g:=ON (m:=M) (a:=x) (b:=true)
 by_cases e:j=jp M x
 .subst e;have:=g.1;rw[ω c] at this;injection this with this;rw[this]
 .have f:=g.2 j e;rw[ω c] at f;exact h _ (ϖ f.symm)
theorem P2(M:List (Int×Bool))(x:Int)(b:Bool):j9 (B2 M x b)=if x∈j9 M then j9 M else j9 M++ [x]:=Mh
theorem Cl.put(h:Cl c f (j9 M))(l:Wc c f x):Cl c f (j9 (B2 M x true)):=by
 rw[P2]
 split
 .exact h
 .rename_i j
  refine ⟨?_,λy g=>ν.2 (.inl (h.s y g)),λy g=>?_⟩
  .rw[mc];exact ⟨h.n,by simp,λa k b i e=>by rw[ξ] at i;subst i;subst e;exact j k⟩
  .rcases ν.1 g with g | g
   .exact h.r y g
   grind
theorem di(l:List Int):WS (Aw l):=λe a=>by
 unfold Aw at a;obtain ⟨x,_,rfl⟩:=Γ.1 a;rfl
theorem aS(l:List Int):j9 (Aw l)=l:=by unfold j9 Aw;rw[jy];exact List.map_id' l
theorem qL(p:iB)(l:List Int)(j:FE p)(hl:l.length<=1000)(U:p.it.length<=1000)(T:p.ro.length<=1000)(R:EZ p l=0)(W:l.Nodup)(L:∀x∈l,x∈p.it.map dr.id):AO prog 27 [.d (BM p),.d (.sl none (l.map AE))] [] λr Y=>r= .tup [.own 900 0 (jz p l).length,.d (AE 0)]/\Y=[(900,[.rowD 3 1 ((jz p l).map AE)])]:=by
 have G:=(Oz p l j (by omega) R).by [(2,12)] rfl;have O:=WK R;have A:=λg M=>ir p g (some (List.range M.length,M.length)) M j U T;refine Av func27 Z Z ntmps27 Z Z Z λF E=>(AD (AF (V (Ba 1 Z Z Z Z Z Z Z) ?_)));refine AB Z Z (AB Z Z (AC (AD (AF (J (Ar Z Z CG Z Z Z) (cl Z Z (V (F8 G Z [10,11,12] ⟨Z,Z,Z,trivial⟩ Z Z Z Z Z Z Z Z Z) (cl Z Z ?_))))))));refine J (D6 Z Z Z) (J (D6 Z Z Z) (J (D6 Z Z Z) (AB Z Z (AB Z Z (AB Z Z (AC (AD (AD ?_))))))));refine AF (cl Z Z (J (DP Z Z Z) (AC (Cr Z ((by decide)) (AU (AD (AD (WW 13 12 0 Z Z Z Z Z λg=>?_))))))));refine Zc 7 13 0 (.inl Z) Z (AF (cl Z Z (cl Z Z (V (F8 (A g (Aw l)) Z [10,11,12,13] ⟨Z,Z,Z,Z,trivial⟩ Z Z Z Z Z Z Z Z Z) (AB Z Z (AC (AX (BC (α:=List (Int×Bool)) (λM=>⟨43,[(6,(.ptr 10 0 0)),(7,(mapV g)),(9,(.d (.sl none ((jc p (kB M)).map IG))))],nR p g (some (List.range M.length,M.length)) M⟩) (λM=>WS M/\Cl p l (j9 M)) (λM=>((p.it.map dr.id).filter λx=>!Ca (j9 M) x).length) (Aw l) (⟨di l,by rw[aS];exact ⟨W,λ_ h=>h,λ_ h=> .base h⟩⟩) (AR E [10,11,12,13] Z Z ⟨Z,Z,Z,trivial⟩) ?_))))))));rintro M ⟨D,B⟩;refine AD (AD (AF (cl Z Z ?_)));have X:(jc p (kB M)).length<=1100000000:=bw j U T _;refine J (BW Z underlying141 Z) (J (H1 Z Z Z) (AC (A4 Z (λu=>?_) (λu=>?_))))
 .refine AU (AD (AX (AD ?_)));have w:0<(jc p (kB M)).length:=by have h:=u;omega
  have f:∀b∈jc p (kB M),Wc p l b.m/\b.m∉j9 M:=λb j=>by rw[ZN D] at j;exact ⟨(B.add j).1.r _ (by simp),(B.add j).2⟩
  refine AF (cl Z Z (J (BW Z underlying141 Z) (cl Z Z (AC (AX (BC (α:=Nat×List (Int×Bool)) (λq=>⟨43,[(6,(.ptr 10 0 0)),(7,(mapV g)),(31,(.d (.sl none ((jc p (kB M)).map IG)))),(32,(.d (AE ((jc p (kB M)).length:Int)))),(33,(.d (AE (q.1:Int))))],nR p g (some (List.range q.2.length,q.2.length)) q.2⟩) (λq=>q.1<=(jc p (kB M)).length/\WS q.2/\Cl p l (j9 q.2)/\(∀x∈j9 M,x∈j9 q.2)/\(0<q.1->(jc p (kB M))[0].m∈j9 q.2)) (λq=>(jc p (kB M)).length-q.1) ((0,M)) (⟨κ _,D,B,λ_ h=>h,λh=>absurd h (mq 0)⟩) (AR E [10,11,12,13] Z Z ⟨Z,Z,Z,Z,Z,trivial⟩) ?_))))));rintro ⟨k,v⟩ ⟨H,o,s,a,c⟩;dsimp only at H o s a c⊢;refine AD (AF (J (At Z Z Z) (AC (AD (A4 Z (λt=>?_) (λt=>?_))))))
  .have y:k<(jc p (kB M)).length:=BG t;refine AU (AD (AX ?_));refine AD (AF (J (Al (k) Z Z (Z) (AP y) underlying141 Z rS Z) (J (CT Z Z vr Z) (V (CF 2 c9 Z Z Z Z) (V (Bc Z Z Z Z Z Z Z rS) (AC (AF (cl Z Z ?_))))))));refine EP 37 13 0 Z Z (J (AL Z pU Z Z Z) (J (AQ Z Z Z Ag Z) (V (Wa (v) ((jc p (kB M))[k].m) (true) Z Z Z KE I2 Z Z) (AC (AF (J (Ac Z Z (AJ (k+1) (by omega)) Z) (cl Z Z (AC ?_))))))));exact ⟨(k+1,B2 v (jc p (kB M))[k].m true),⟨by show k+1<=_;omega,jK o _,s.put (f _ (ϑ y)).1,λx Q=>by show x∈j9 (B2 v _ true);rw[P2];split;exact a x Q;exact ν.2 (.inl (a x Q)),λ_=>by show _∈j9 (B2 v _ true);rw[P2];rcases Nat.eq_zero_or_pos k with C | C;subst C;split;assumption;simp;split;exact c C;exact ν.2 (.inl (c C))⟩,by show (jc p (kB M)).length-(k+1)<(jc p (kB M)).length-k;omega,AR E [10,11,12,13] Z (Z) ⟨Z,Z,Z,Z,Z,trivial⟩⟩
  .have z:((p.it.map dr.id).filter λx=>!Ca (j9 v) x).length<((p.it.map dr.id).filter λx=>!Ca (j9 M) x).length:=Cl.dec ((f _ (ϑ w)).1.ids O L) (f _ (ϑ w)).2 (c (by have h:=t;omega)) a;refine Aq (AF (cl Z Z (cl Z Z (V (F8 (A g v) Z [10,11,12,13] ⟨Z,Z,Z,Z,trivial⟩ Z Z Z Z Z Z Z Z Z) (AB Z Z (AC ?_))))));exact ⟨v,⟨o,s⟩,z,AR E [10,11,12,13] Z (Z) ⟨Z,Z,Z,trivial⟩⟩
 .refine Aq (AD ?_);have K:jc p (Ca (j9 M))=[]:=by rw[<-ZN D];exact m5 (by have h:=u;omega)
  have N:M.length<=100000:=by have S:=B.len O L;unfold j9 at S;rw[χ] at S;omega
  have i:Cg (Df M)=jz p l:=by rw[Zz D];exact B.done O L K
  have I:(Df M).length=(jz p l).length:=by rw[<-i,E5]
  refine AF (cl Z Z (V (F8 (dZ g (List.range M.length) M.length M (by simp) N) Z [12,13,900] ⟨Z,Z,Z,trivial⟩ Z Z Z Z Z Z Z Z Z) (AB Z Z (AB Z Z (AC (A5 ?_))))));exact ⟨_,[900],_,A2 Z,Z,Z,by rw[I],by rw[i]⟩
inductive nT (p:iB) (S:List Int):Int->Prop
 | base {i:Int} {b:kX} (hb:b∈kb p i) (h:b.m∉S):nT p S i
 | step {i:Int} {b:kX} (hb:b∈kb p i) (h:nT p S b.m):nT p S i
theorem vu(a:g∈kb c F):g.i=F:=by grind[kb,U4,CJ]
noncomputable def wi(p:iB)(S:List Int):List Int:=Cg (S.filter λx=> @decide (¬nT p S x) (Classical.propDecidable _))
structure Ci (p:iB) (S C:List Int):Prop where
 n:C.Nodup
 s:∀x∈C,x∈S
 r:∀x∈S,x∉C->nT p S x
theorem Ci.done(h:Ci c f C)(o:Ad c=0)(u:f.Nodup)(r:∀x∈f,x∈c.it.map dr.id)(s:jc c (Ca C)=[]):Cg C=wi c f:=by
 have j:∀x,nT c f x->x∉C:=λx a=>by
  induction a with
  | @base i b k v=>
   intro g;have l:=NH o s (r _ (h.s _ g)) (Υ g) k;exact v (h.s _ (by simpa [Ca] using l))
  | @step i b k _ t=>
   intro g;have l:=NH o s (r _ (h.s _ g)) (Υ g) k;exact t (by simpa [Ca] using l)
 unfold wi;refine Om ((rD h.n (List.Nodup.sublist lp u)).2 λx=>?_);rw[Φ]
 constructor
 .intro a;exact ⟨h.s x a,by simpa using λw=>j x w a⟩
 .intro a;have z:¬nT c f x:=by simpa using a.2
  exact Classical.byContradiction λy=>z (h.r x a.1 y)
theorem Ci.drop(h:Ci c f C)(o:g∈jc c (Ca C)):nT c f g.i/\g.i∈C:=by
 obtain ⟨i,_,s,a,r⟩:=QD o;have l:i∈C:=by simpa [Ca] using s
 have k:g.m∉C:=by simpa [Ca] using r
 rw[vu a];refine ⟨?_,l⟩
 by_cases j:g.m∈f
 .exact .step a (h.r _ j k)
 .exact .base a j
theorem Ci.rest(h:Ci c f C)(g:nT c f x):Ci c f (C.filter λy=>decide (y≠x)):=by
 refine ⟨List.Nodup.sublist lp h.n,λy a=>h.s y (Φ.1 a).1,λy a i=>?_⟩
 by_cases b:y∈C
 .grind
 .exact h.r y a b
theorem fp(M:List (Int×Bool))(x:Int):jp M x=(j9 M).idxOf x:=by
 induction M with
 | nil=>rfl
 | cons e r a=>
  grind[jp,j9]
theorem gK(a:(j9 M).Nodup)(x:Int):j9 (td M x)=(j9 M).filter λy=>decide (y≠x):=by
 unfold td;rw[fp];show ((M.eraseIdx _).map Prod.fst)=_;rw[ZC];show (j9 M).eraseIdx _=_;rw[<-List.erase_eq_eraseIdx_of_idxOf Z,List.Nodup.erase_eq_filter a]
 grind
theorem Ci.del(h:Ci c f (j9 M))(a:nT c f x):Ci c f (j9 (td M x)):=by
 rw[gK h.n];exact h.rest a
theorem WG{p:iB}{l:List Int}:(jz p l).length<=p.it.length:=by grind[jz,E5]
abbrev FW(l:List Int):D:= .sl none (l.map AE)
abbrev XZ(l:List (List Int)):D:= .sl none (l.map FW)
def uK(k:Nat):Nat->Nat:=λj=>if j<k then j else 0
theorem gZ(k:Nat):BK (uK k) k k=uK (k+1):=by grind[MH,uK,H3]
theorem gY:(λ_:Nat=>0)=uK 0:=by funext j;unfold uK;rw[υ (by omega)]
def Q8(f:Nat->Nat)(k j:Nat):List Nat:=(List.range j).filter λi=>decide (f i=k)
theorem gJ(h:j G=k):Q8 j k (G+1)=Q8 j k G++ [G]:=by unfold Q8;rw[ki,mB];simp[h]
theorem bP(h:¬j G=k):Q8 j k (G+1)=Q8 j k G:=by unfold Q8;rw[ki,mB];simp[h]
theorem gI(f:Nat->Nat)(k j:Nat):(Q8 f k j).length<=j:=jq (lB _ _) (by rw[kj];exact Θ _)
theorem Cn.trans(h:Cn a E i G)(b:Cn a E G k):Cn a E i k:=Rh.trans h b
abbrev Zx(rs:List AW)(E:List (dr×Nat))(i:Nat):List AW:=(dR rs (D4 E i)).map Prod.fst
theorem u9(c:i<E.length)(b:G<E.length)(g:s∈Zx a E i)(f:s∈Zx a E G):Cn a E i G:=Rh.one (Eo.2 ⟨c,b,.inr (.inr ⟨s,g,f⟩)⟩)
theorem ua{rs:List AW}{i j:Nat}(b:i<E.length)(a:j<E.length)(h:(D4 E i).id∈(D4 E j).af):Cn rs E i j:=Rh.one (Eo.2 ⟨b,a,.inr (.inl h)⟩)
structure vD (rs:List AW) (E:List (dr×Nat)) (f:Nat->Nat):Prop where
 uf:UF E.length (Cn rs E) f
 us:∃U,Qi rs E (λi r=>i<E.length/\r∈Zx rs E i) U f
 af:∀i,i<E.length->∀j,j<E.length->(D4 E j).id∈(D4 E i).af->f j=f i
theorem vD.full(h:vD a E j):∀i b,i<E.length->b<E.length->Cn a E i b->j i=j b:=λi b z w t=>by
 obtain ⟨U,l⟩:=h.us;refine (Rh.clos (p:=λx=>j i=j x) (λv s y o=>?_) t Z);obtain ⟨k,g,c⟩:=Eo.1 o;rw[s];rcases c with c | c | ⟨r,c,u⟩
 .exact (h.af v k y g c).symm
 .exact h.af y g v k c
 .rw[<-(l.has v r ⟨k,c⟩).2,(l.has y r ⟨g,u⟩).2]
theorem L0(h:(y.map dr.id).Nodup){q:dr->Bool}(a:E.map Prod.fst=y.filter q):cO E:=by grind[lp,DL,lc,cO]
noncomputable def jx(rs:List AW)(E:List (dr×Nat)):List (List Int):=(mY E.length (Cn rs E)).map (An E)
theorem u8(p:iB)(l:List Int)(hf:CY p)(hl:l.length<=100000)(hC:EZ p l=0)(hE:Ad p=0)(hn:l.Nodup):
  AO prog 23 [.d (BM p),.d (FW l)] [] λr H'=>∃E:List (dr×Nat),E.map Prod.fst=(hY p).filter (λi=>decide (i.id∈l))/\r= .d (.tup [XZ (jx (jf p) E),AE 0])/\H'=[]:=by
 have hi30:=hf.i;have hck:=bq p l hf.b hl (by omega);rw[hC] at hck;have hids:((hY p).map dr.id).Nodup:=En hE;have hol:(hY p).length<=30:=by rw[show hY p=fl p.it from ϱ hE,O2];exact hi30
 have hxm:∀i∈hY p,i∈p.it:=λi hi=>by rw[show hY p=fl p.it from ϱ hE] at hi;exact (KI p.it).mem_iff.1 hi
 refine Av func23 Z Z ntmps23 Z Z Z λF v=>(AD (AF (V (Ba 1 Z Z Z Z Z Z Z) (AB Z Z (AB Z Z (AC ?_))))));refine AD (AD (AF (J (Ar Z Z CG Z Z Z) (cl Z Z (J (Ak (hck) Z Z) (AB Z Z (AC (AD ?_))))))));refine AF (cl Z Z (J (DP Z Z Z) (AC (Cr Z (kD (by decide)) (AU (AD (Bm [[],[],[1],[0,1,2],[0,1,2,3]] mixed Z (yH (γ:=Nat×MF) 3 (λq=>⟨154,[(2,.ptr 1 0 0),(35,.d (BM p)),(37,.d (Zt q.1))],[(41,[.multi q.2])]⟩) (λq=>Jz q.2 q.1 l) Z Z Z ?_ ?_ (λa hI=>?_)))))))))
 .refine J (Ar Z Z CG Z Z Z) (AC ⟨Z,?_⟩);refine cl Z Z (AC ⟨Z,?_⟩);refine Cy (Zi (Gw l hn (by omega)) Z [41] ⟨Z,trivial⟩ Z Z Z Z (λr H' ⟨b,N,G,D,_⟩=>by subst G D;exact ⟨Z,Z,Z⟩) Z) Z ?_;rintro _ ⟨r,H',⟨b,N,G,D,hW⟩,rfl⟩;subst G D;refine AC ⟨Z,?_⟩;exact ⟨(b,N),hW,AR v [41] Z Z ⟨Z,Z,Z,trivial⟩⟩
 .refine cl Z Z (AC ⟨Z,?_,?_⟩);refine J (Ar Z Z CG Z Z Z) (AC ⟨Z,?_⟩);refine Cy (Zi (Gw l hn (by omega)) Z [41] ⟨Z,trivial⟩ Z Z Z Z (λr H' ⟨b,N,G,D,_⟩=>by subst G D;exact ⟨Z,Z,Z⟩) Z) Z ?_;rintro _ ⟨r,H',⟨b,N,G,D,hW⟩,rfl⟩;subst G D
  rotate_left
  refine Cy (Zi (Gw l hn (by omega)) Z [41] ⟨Z,trivial⟩ Z Z Z Z (λr H' ⟨b,N,G,D,_⟩=>by subst G D;exact ⟨Z,Z,Z⟩) Z) Z ?_;rintro _ ⟨r,H',⟨b,N,G,D,hW⟩,rfl⟩;subst G D;refine AC ⟨Z,?_⟩;refine J (Ar Z Z CG Z Z Z) ?_
  all_goals
   refine AC ⟨Z,?_⟩;exact ⟨(b,N),hW,AR v [41] Z Z ⟨Z,Z,Z,trivial⟩⟩
 .obtain ⟨b,N⟩:=a;have hW:Jz N b l:=hI;refine AZ 4 Z Z ?_;refine Cy (Zi (Rx p hE hf WF [pD b 0] N (λid=>decide (id∈l)) (JW hW)) Z [41,40] ⟨Z,Z,trivial⟩ Z Z Z Z (λr H' ⟨E,M,G,D,_⟩=>by subst G D;exact ⟨Z,Z,Z⟩) Z) Z ?_;rintro _ ⟨r,H',⟨E,M,G,D,hR,hEq⟩,rfl⟩;subst G D;refine AC ⟨Z,?_⟩;refine AZ 5 Z Z (AB Z Z (AC ⟨Z,?_⟩));refine Bb (AD ?_)
  obtain ⟨n,w⟩:∃n,E.length=n:=⟨_,Z⟩
  have hn30:n<=30:=by have h1:(E.map Prod.fst).length<=(hY p).length:=(by rw[hEq];exact lB _ _);rw[χ,w] at h1;omega
  have hIt:∀k,k<n->D4 E k∈hY p:=λk hk=>by have h1:D4 E k∈E.map Prod.fst:=(by rw[DL (by omega)];exact mo (ϑ _));rw[hEq] at h1;exact (Φ.1 h1).1
  have hId:cO E:=L0 hids hEq;have R:(E.map D1).length=n:=by rw[χ,w]
  refine AF (cl Z Z (J (IR Z R T1 Z) (V (FY 2 Ap Z Z Z (by omega) s8 Z Z Z Z) ?_)));rw[tF,gY];refine V (CF 3 vQ Z Z Z Z) (V (Bc Z Z Z Z Z Z Z D8) (AC ?_));refine AD (AD (AF (J (AQ Z Z Z BJ Z) (J (QT Z E0 Z) (cl Z Z (AC (AX (BC (α:=Nat) (λk=>⟨154,[(7,(.d (.sl none (E.map D1)))),(8,(.ptr 3 0 0)),(43,(.d (AY n))),(44,(.d (AY k)))],[(2,[.rowD 3 1 (rowN n (uK k))]),(3,[.blk 28 [.own 2 0 n]]),(40,[.multi M])]⟩) (λk=>k<=n) (λk=>n-k) (0) (κ _) (AR v [2,3,40] Z Z ⟨Z,Z,Z,Z,trivial⟩) ?_))))))));rintro k hk;refine AD (AF (J (At Z Z Z) (AC (AD (A4 Z (λh45=>?_) (λh45=>?_))))))
  .refine AU (AD (AX (AD ?_)));have g:k<n:=BG h45;refine AF ?_;refine cl Z Z (AB Z Z (AC (AF (J (AQ Z Z Z BJ Z) (cl Z Z (cl Z Z (J (DO (k) Z Z (Z) (g) Z E0 BE Z) (V (Zp Z Z Z Z Z (by rw[EN];exact g) EM Z BE) ?_))))))));rw[gZ];refine AC (AF (J (Ac Z Z (AJ (k+1) (by omega)) Z) (cl Z Z (AC ?_))));exact ⟨k+1,g,by omega,AR v [2,3,40] Z (Z) ⟨Z,Z,Z,Z,trivial⟩⟩
  .refine Aq (AD ?_);have W:k=n:=by have:=h45;omega
   rw[RD (f:=uK k) (h:=λj=>j) λj K=>ϱ (by omega)];refine AF (J (ut Z Z) ?_);refine AB Z Z (AC (AD (AF (V (SV 50 Z Z Z Z) (V (SV 51 Z Z Z Z) (AB Z Z (AB Z Z (AC ?_))))))));refine AD (AD (AF (cl Z Z (J (IR Z R T1 Z) (cl Z Z (AC (AX (BC (α:=Nat×List (AW×Nat)×(Nat->Nat)) (λq=>⟨154,[(7,(.d (.sl none (E.map D1)))),(8,(.ptr 3 0 0)),(10,(.fn 67 [.ptr 3 0 0])),(11,(.map 50 0)),(12,(.map 51 0)),(55,(.d (.sl none (E.map D1)))),(56,(.d (AY n))),(57,(.d (AY q.1)))],[(2,[.rowD 3 1 (rowN n q.2.2)]),(3,[.blk 28 [.own 2 0 n]]),(50,[B6 Bn AY q.2.1]),(51,[B6 AE AY (OF E q.1)]),(40,[.multi M])]⟩) (λq=>q.1<=n/\UF n (Cn (jf p) E) q.2.2/\Qi (jf p) E (λi r=>i<q.1/\r∈Zx (jf p) E i) q.2.1 q.2.2) (λq=>n-q.1) ((0,[],λj=>j)) (⟨κ _,UF.id n λi=>Rh.refl i,(Qi.zero _ _ _).mono λi r h=>by have:=h.1;omega⟩) (AR v [2,3,50,51,40] Z Z ⟨Z,Z,Z,Z,Z,Z,Z,Z,trivial⟩) ?_))))))));rintro ⟨k,U,f⟩ ⟨hk,A,y⟩;dsimp only at hk A y⊢;refine AD (AF (J (At Z Z Z) (AC (AD (A4 Z (λh58=>?_) (λh58=>?_))))))
   .refine AU (AD (AX (AD ?_)));have g:k<n:=BG h58;have o:k<E.length:=by omega
    have hek:=ϑ o;refine AF (cl Z Z (J (Al (k) Z Z (Z) (AP o) T1 Z IL Z) (J (CT Z Z NS Z) (V (CF 4 O5 Z Z Z Z) (AB Z Z (V (Bc Z Z Z Z Z Z Z IL) ?_))))));refine AC (AD (AF (cl Z Z (J (AL Z Jk Z Z Z) (J (AL Z QU Z Z Z) (J (AQ Z Z Z Ag Z) (cl Z Z (V (Wa (OF E k) ((E[k]).1.id) (k) Z Z Z sB I2 Z Z) ?_))))))));rw[show B2 (OF E k) (E[k]).1.id k=OF E (k+1) by rw[<-DL o];exact oV hId o];refine AC (AD ?_)
    obtain ⟨L,hLe⟩:∃L,dR (jf p) (E[k]).1=L:=⟨_,Z⟩
    have hRk:=hR _ hek;rw[hLe] at hRk;have hus:Zx (jf p) E k=L.map Prod.fst:=by rw[<-hLe,<-DL o]
    refine SQ 40 (E[k]).2 Z hRk (λ_ _=>rfl) λB c hB hBn=>?_
    obtain ⟨M1,hM1⟩:∃M1,Bf M (E[k]).2 (.map (some (B,c)) (Nr L))=M1:=⟨_,Z⟩
    rw[hM1];have h1k:M1 (E[k]).2=some (.map (some (B,c)) (Nr L)):=by rw[<-hM1,Fj]
    refine AF (J (AL Z OU Z Z Z) (J (AQ Z Z Z Ym Z) (V (Qr 5 (f:=40) Z Z h1k Z C6 Z Z Z Z) (AC (AX (BC (α:=List Nat×List (AW×Int)×List (AW×Nat)×(Nat->Nat)) (λq=>⟨154,[(7,(.d (.sl none (E.map D1)))),(8,(.ptr 3 0 0)),(10,(.fn 67 [.ptr 3 0 0])),(11,(.map 50 0)),(12,(.map 51 0)),(13,(.d (AY k))),(55,(.d (.sl none (E.map D1)))),(56,(.d (AY n))),(57,(.d (AY k))),(69,(.ptr 5 0 0))],[(5,[.iter 40 (E[k]).2 c q.1]),(2,[.rowD 3 1 (rowN n q.2.2.2)]),(3,[.blk 28 [.own 2 0 n]]),(50,[B6 Bn AY q.2.2.1]),(51,[B6 AE AY (OF E (k+1))]),(40,[.multi M1])]⟩) (λq=>(q.2.1++CX L B q.1).Perm L/\UF n (Cn (jf p) E) q.2.2.2/\Qi (jf p) E (λi r=>(i<k/\r∈Zx (jf p) E i)\/(i=k/\r∈q.2.1.map Prod.fst)) q.2.2.1 q.2.2.2) (λq=>(CX L B q.1).length) (([],[],U,f)) (⟨by show ([]++CX L B []).Perm L;rw[Dn (by simpa [Bi] using hB)];exact List.Perm.refl _,A,y.mono λi r h=>h.elim id λh=>by simp at h⟩) (AR v [5,2,3,50,51,40] Z Z ⟨Z,Z,Z,Z,Z,Z,Z,Z,Z,Z,trivial⟩) ?_))))));rintro ⟨seen,O,U,f⟩ ⟨hP,A,y⟩;dsimp only at hP A y⊢;refine AD (AF (Yo (L) Z Z Z (h1k) Z (λhl70=>?_) (λj70 b70 u v70 hm70 hb70 hB70 H=>⟨_,Z,?_⟩)))
    .rw[hl70] at hP;have hPm:∀r,r∈O.map Prod.fst↔r∈Zx (jf p) E k:=λr=>by rw[hus];exact ((show O.Perm L by simpa using hP).map Prod.fst).mem_iff
     refine OJ 40 (E[k]).2 Z h1k Z ?_;rw[show Bf M1 (E[k]).2 (.map none (Nr L))=M by rw[<-hM1,Hk];exact Rd hRk];refine J (D6 Z Z Z) (AC (AD (Cr Z Z (Aq (AF (J (Ac Z Z (AJ (k+1) (by omega)) Z) (cl Z Z (AC ?_))))))));exact ⟨(k+1,U,f),⟨g,A,y.mono λi r ⟨h1,h2⟩=>(Nat.decEq i k).byCases (λe=>by subst e;exact .inr ⟨Z,(hPm r).2 h2⟩) λe=> .inl ⟨by omega,h2⟩⟩,by show n-(k+1)<n-k;omega,AR v [2,3,50,51,40] Z (Z) ⟨Z,Z,Z,Z,Z,Z,Z,Z,trivial⟩⟩
    .refine J (D6 Z Z Z) (AC (AD (CM Z Z (AU (AX (AD ?_))))));have hku:u∈Zx (jf p) E k:=by rw[hus];exact mo (f:=Prod.fst) (gE hm70)
     have Q:∀i s,((i<k/\s∈Zx (jf p) E i)\/(i=k/\s∈(O++ [(u,v70)]).map Prod.fst))->((i<k/\s∈Zx (jf p) E i)\/(i=k/\s∈O.map Prod.fst))\/(i=k/\s=u):=λi s h=>h.elim (λh=> .inl (.inl h)) λ⟨e,h⟩=>by rw[kA,ν] at h;exact h.elim (λh=> .inl (.inr ⟨e,h⟩)) λh=> .inr ⟨e,by simpa using h⟩
     refine AF (J (Qv (L) j70 b70 Z Z Z (h1k) hm70 hb70 Z) (J (D6 Z Z Z) (V (CF 6 MI Z Z Z Z) ?_)));refine V (Bc Z Z Z Z Z Z Z dA) (AC (AD (AF (cl Z Z (J (Ar Z Z Cw Z Z Z) (J (Qu (U) (u) (0) Z Z Z sC Ck yS Z) (cl Z Z (J (D6 Z Z Z) ?_))))))));refine J (D6 Z Z Z) (AB Z Z (AB Z Z (AC (AD (AF (cl Z Z (AC (Jo Z (λh80=>?_) (λh80=>?_)))))))))
     .have hkU:u∈U.map Prod.fst:=GF.1 h80;obtain ⟨I,hu2⟩:=y.ok _ (om hkU);rw[w] at I;have hCk:=u9 (by omega) o hu2 hku;refine AF (cl Z Z (cl Z Z (cl Z Z (V (cQ ((ZJ n f (Af U u 0) k I g (by omega)).by [(930,3),(931,2)] Z) Z [3,2] ⟨Z,Z,trivial⟩ Z Z Z Z Z Z Z Z Z) (AC ?_)))));exact ⟨(seen++ [b70],O++ [(u,v70)],U,_),⟨J5 hP H,A.join (λ_ _ _=>Cn.trans) (λ_ _=>Cn.symm) I g hCk,y.join hkU Q⟩,by show (CX L B (seen++ [b70])).length<(CX L B seen).length;rw[H.length_eq];exact mS _,AR v [5,2,3,50,51,40] Z (Z) ⟨Z,Z,Z,Z,Z,Z,Z,Z,Z,Z,trivial⟩⟩
     .refine AF (cl Z Z (J (Ar Z Z Cw Z Z Z) (cl Z Z (V (Wa (U) (u) (k) Z Z Z sC Ck Z Z) (AC ?_)))));exact ⟨(seen++ [b70],O++ [(u,v70)],B2 U u k,f),⟨J5 hP H,A,y.new (λz=>by rw[GF.2 z] at h80;cases h80) o hku Q⟩,by show (CX L B (seen++ [b70])).length<(CX L B seen).length;rw[H.length_eq];exact mS _,AR v [5,2,3,50,51,40] Z (Z) ⟨Z,Z,Z,Z,Z,Z,Z,Z,Z,Z,trivial⟩⟩
   .refine Aq (AD (AD ?_));have W:k=n:=by have:=h58;omega
    rw[W]
    have hS':Qi (jf p) E (λi r=>i<E.length/\r∈Zx (jf p) E i) U f:=y.mono λi r ⟨h1,h2⟩=>⟨by omega,h2⟩
    refine AF (cl Z Z (J (IR Z R T1 Z) (cl Z Z (AC (AX (BC (α:=Nat×(Nat->Nat)) (λq=>⟨154,[(7,(.d (.sl none (E.map D1)))),(8,(.ptr 3 0 0)),(10,(.fn 67 [.ptr 3 0 0])),(12,(.map 51 0)),(89,(.d (.sl none (E.map D1)))),(90,(.d (AY n))),(91,(.d (AY q.1)))],[(2,[.rowD 3 1 (rowN n q.2)]),(3,[.blk 28 [.own 2 0 n]]),(51,[B6 AE AY (OF E n)])]⟩) (λq=>q.1<=n/\UF n (Cn (jf p) E) q.2/\Qi (jf p) E (λi r=>i<E.length/\r∈Zx (jf p) E i) U q.2/\∀i,i<q.1->∀j,j<n->(D4 E j).id∈(D4 E i).af->q.2 j=q.2 i) (λq=>n-q.1) ((0,f)) (⟨κ _,A,hS',λi hi=>by omega⟩) (AR v [2,3,51] Z Z ⟨Z,Z,Z,Z,Z,Z,Z,trivial⟩) ?_))))));rintro ⟨k,f⟩ ⟨hk,A,y,hA⟩;dsimp only at hk A y hA⊢;refine AD (AF (J (At Z Z Z) (AC (AD (A4 Z (λh92=>?_) (λh92=>?_))))))
    .refine AU (AD (AX (AD ?_)));have g:k<n:=BG h92;have o:k<E.length:=by omega
     have hek:=ϑ o;have hIk:=hIt k g;rw[DL o] at hIk;have haf:=(hf.x _ (hxm _ hIk)).2.2;refine AF (cl Z Z (J (Al (k) Z Z (Z) (AP o) T1 Z IL Z) (J (CT Z Z NS Z) (V (CF 4 O5 Z Z Z Z) (AB Z Z (V (Bc Z Z Z Z Z Z Z IL) (AC (AD ?_))))))));refine AF (J (AL Z Jk Z Z Z) (J (AL Z GL Z Z Z) (J (AQ Z Z Z BJ Z) (J (BW Z E0 Z) (cl Z Z (AC (AX (BC (α:=Nat×(Nat->Nat)) (λq=>⟨154,[(7,(.d (.sl none (E.map D1)))),(8,(.ptr 3 0 0)),(10,(.fn 67 [.ptr 3 0 0])),(12,(.map 51 0)),(18,(.d (AY k))),(89,(.d (.sl none (E.map D1)))),(90,(.d (AY n))),(91,(.d (AY k))),(98,(.d (FW (E[k]).1.af))),(99,(.d (AY (E[k]).1.af.length))),(100,(.d (AY q.1)))],[(2,[.rowD 3 1 (rowN n q.2)]),(3,[.blk 28 [.own 2 0 n]]),(51,[B6 AE AY (OF E n)])]⟩) (λq=>q.1<=(E[k]).1.af.length/\UF n (Cn (jf p) E) q.2/\Qi (jf p) E (λi r=>i<E.length/\r∈Zx (jf p) E i) U q.2/\(∀i,i<k->∀j,j<n->(D4 E j).id∈(D4 E i).af->q.2 j=q.2 i)/\∀j,j<n->(D4 E j).id∈(E[k]).1.af.take q.1->q.2 j=q.2 k) (λq=>(E[k]).1.af.length-q.1) ((0,f)) (⟨κ _,A,y,hA,λj K z=>by simp at z⟩) (AR v [2,3,51] Z Z ⟨Z,Z,Z,Z,Z,Z,Z,Z,Z,Z,Z,trivial⟩) ?_))))))));rintro ⟨C,f⟩ ⟨hj8,A,y,hA,hD⟩;dsimp only at hj8 A y hA hD⊢;refine AD (AF (J (At Z Z Z) (AC (AD (A4 Z (λh101=>?_) (λh101=>?_))))))
     .refine AU (AD (AX (AD ?_)));have t:C<(E[k]).1.af.length:=BG h101;refine AF (J (Al (C) Z Z (Z) (AP t) E0 Z BE Z) (J (BZ Z Z Ag Z) ?_));refine AB Z Z (AC (AD (AF (cl Z Z (cl Z Z (J (Qu (OF E n) ((E[k]).1.af[C]) (0) Z Z Z sB I2 yS Z) (cl Z Z (J (D6 Z Z Z) ?_))))))));refine J (D6 Z Z Z) (AB Z Z (AB Z Z (AC (AD (AF (cl Z Z (AC (Jo Z (λh110=>?_) (λh110=>?_)))))))))
      .have hkP:=GF.1 h110;have hpg:=Ya hId (x:=(E[k]).1.af[C]) (by rw[w];exact hkP);rw[w] at hpg;obtain ⟨I,hu2⟩:=hpg;have hCk:=ua (rs:=jf p) (i:=Af (OF E n) (E[k]).1.af[C] 0) (j:=k) (by omega) o (by rw[hu2,DL o];exact ϑ t);refine AF ?_;refine cl Z Z (cl Z Z (cl Z Z (V (cQ ((ZJ n f (Af (OF E n) (E[k]).1.af[C] 0) k I g (by omega)).by [(930,3),(931,2)] Z) Z [3,2] ⟨Z,Z,trivial⟩ Z Z Z Z Z Z Z Z Z) (AC (AF (J (Ac Z Z (AJ (C+1) (by omega)) Z) (cl Z Z (AC ?_))))))));exact ⟨(C+1,_),⟨t,A.join (λ_ _ _=>Cn.trans) (λ_ _=>Cn.symm) I g hCk,y.keep λ_ _ h=>Hq h,λi hi j K z=>Hq (hA i hi j K z),λj K z=>by rw[ψ t,ν] at z;exact z.elim (λh=>Hq (hD j K h)) λh=>by have h3:=(ep hId (show j<E.length by omega)).2;rw[ξ.1 h,w] at h3;rw[<-h3];exact Rk⟩,by show (E[k]).1.af.length-(C+1)<(E[k]).1.af.length-C;omega,AR v [2,3,51] Z (Z) ⟨Z,Z,Z,Z,Z,Z,Z,Z,Z,Z,Z,trivial⟩⟩
      .refine AU (AF (J (Ac Z Z (AJ (C+1) (by omega)) Z) (cl Z Z (AC ?_))));exact ⟨(C+1,f),⟨t,A,y,hA,λj K z=>by rw[ψ t,ν] at z;exact z.elim (hD j K) λh=>absurd (GF.2 (by have h3:=(ep hId (show j<E.length by omega)).1;rw[ξ.1 h,w] at h3;exact h3)) (by rw[h110];decide)⟩,by show (E[k]).1.af.length-(C+1)<(E[k]).1.af.length-C;omega,AR v [2,3,51] Z (Z) ⟨Z,Z,Z,Z,Z,Z,Z,Z,Z,Z,Z,trivial⟩⟩
     .refine Aq (AF (J (Ac Z Z (AJ (k+1) (by omega)) Z) (cl Z Z (AC ?_))));exact ⟨(k+1,f),⟨g,A,y,λi hi j K z=>(Nat.decEq i k).byCases (λe=>by subst e;exact hD j K (by rw[DL o] at z;have hje:C=(E[i]).1.af.length:=(by have:=h101;omega);rw[hje,kW];exact z)) λe=>hA i (by omega) j K z⟩,by show n-(k+1)<n-k;omega,AR v [2,3,51] Z (Z) ⟨Z,Z,Z,Z,Z,Z,Z,trivial⟩⟩
    .refine Aq (AD ?_);have W:k=n:=by have:=h92;omega
     have hall:vD (jf p) E f:=⟨by rw[w];exact A,⟨U,y⟩,λi hi j K z=>hA i (by omega) j (by omega) z⟩
     have hcls:(LU n n f).map (An E)=jx (jf p) E:=by unfold jx;rw[<-ow hall.uf hall.full,w]
     refine AF (AB Z Z (AC (AD ?_)));refine AD (AF (cl Z Z (J (IR Z R T1 Z) (cl Z Z (AC (AX (IY 24 10 Kw Z Z Z Z (BC (α:=Nat×List (List Int)) (λq=>⟨154,[(7,(.d (.sl none (E.map D1)))),(8,(.ptr 3 0 0)),(24,(.own 10 0 q.2.length)),(117,(.d (.sl none (E.map D1)))),(118,(.d (AY n))),(119,(.d (AY q.1)))],[(10,[.rowD 28 1 (q.2.map FW)]),(2,[.rowD 3 1 (rowN n f)]),(3,[.blk 28 [.own 2 0 n]])]⟩) (λq=>q.1<=n/\q.2=(LU n q.1 f).map (An E)) (λq=>n-q.1) ((0,[])) (⟨κ _,Z⟩) (AR v [10,2,3] Z Z ⟨Z,Z,Z,Z,Z,Z,trivial⟩) ?_))))))));rintro ⟨k,T⟩ ⟨hk,hT⟩;dsimp only at hk hT⊢;refine AD (AF (J (At Z Z Z) (AC (AD (A4 Z (λh120=>?_) (λh120=>?_))))))
     .refine AU (AD (AX (AD ?_)));have g:k<n:=BG h120;have hTl:T.length<=30:=by have:=gG n k f;rw[hT,χ];omega
      refine AF (cl Z Z (AB Z Z (AC (AD (AD ?_)))));refine AF (J (AQ Z Z Z BJ Z) (cl Z Z (J (DO (k) Z Z (Z) (g) Z E0 BE Z) (J (ED Z Z (O4 g) Z Ag Z) (cl Z Z (J (DP Z Z Z) (AC (A4 Z (λh127=>?_) (λh127=>?_)))))))))
      .refine Aq (AF (J (Ac Z Z (AJ (k+1) (by omega)) Z) (cl Z Z (AC ?_))));exact ⟨(k+1,T),⟨g,by show _=(LU n (k+1) f).map _;rw[bN (by omega),hT]⟩,by show n-(k+1)<n-k;omega,AR v [10,2,3] Z (Z) ⟨Z,Z,Z,Z,Z,Z,trivial⟩⟩
      .refine AU (AD (AF (AB Z Z (AC (AD ?_)))));refine AD (AF (cl Z Z (J (IR Z R T1 Z) (cl Z Z (AC (AX (IY 26 11 Ap Z Z Z Z (BC (α:=Nat×List Int) (λq=>⟨154,[(7,(.d (.sl none (E.map D1)))),(8,(.ptr 3 0 0)),(24,(.own 10 0 T.length)),(25,(.d (AY k))),(26,(.own 11 0 q.2.length)),(117,(.d (.sl none (E.map D1)))),(118,(.d (AY n))),(119,(.d (AY k))),(128,(.d (.sl none (E.map D1)))),(129,(.d (AY n))),(130,(.d (AY q.1)))],[(11,[.rowD 3 1 (q.2.map AE)]),(10,[.rowD 28 1 (T.map FW)]),(2,[.rowD 3 1 (rowN n f)]),(3,[.blk 28 [.own 2 0 n]])]⟩) (λq=>q.1<=n/\q.2=An E (Q8 f k q.1)) (λq=>n-q.1) ((0,[])) (⟨κ _,Z⟩) (AR v [11,10,2,3] Z Z ⟨Z,Z,Z,Z,Z,Z,Z,Z,Z,Z,Z,trivial⟩) ?_))))))));rintro ⟨j,S⟩ ⟨K,X⟩;dsimp only at K X⊢;refine AD (AF (J (At Z Z Z) (AC (AD (A4 Z (λY=>?_) (λY=>?_))))))
       .refine AU (AD (AX (AD ?_)));have t:j<n:=BG Y;have hjE:j<E.length:=by omega
        have hSl:S.length<=30:=by have:=gI f k j;rw[X];unfold An;rw[χ];omega
        refine AF (cl Z Z (J (Al (j) Z Z (Z) (AP hjE) T1 Z IL Z) (J (CT Z Z NS Z) (V (CF 4 O5 Z Z Z Z) (AB Z Z (V (Bc Z Z Z Z Z Z Z IL) (AC (AD ?_))))))));refine AF (J (AQ Z Z Z BJ Z) (cl Z Z (J (DO (j) Z Z (Z) (t) Z E0 BE Z) (J (ED Z Z (O4 t) Z Ag Z) (cl Z Z (J (GW Z Z Z) (AC (A4 Z (λh140=>?_) (λh140=>?_)))))))))
        .refine AF (cl Z Z (J (AL Z Jk Z Z Z) (J (AL Z QU Z Z Z) ?_)));refine J (AQ Z Z Z Ag Z) (V (CB 30 Ap Z Z Z Z Z Z Z Z) (V (DQ (S) ([(E[j]).1.id]) Z Z Z Z Z Z Z Z Ap (by simp only[η];omega) Z Z Z Z) (AB Z Z (AC (AF (J (Ac Z Z (AJ (j+1) (by omega)) Z) (cl Z Z (AC ?_))))))));exact ⟨(j+1,S++ [(E[j]).1.id]),⟨t,by show _=An E (Q8 f k (j+1));rw[gJ (by omega),X];unfold An;rw[kA,List.map_singleton,DL hjE]⟩,by show n-(j+1)<n-j;omega,AR v [11,10,2,3] Z (Z) ⟨Z,Z,Z,Z,Z,Z,Z,Z,Z,Z,Z,trivial⟩⟩
        .refine AU (AF (J (Ac Z Z (AJ (j+1) (by omega)) Z) (cl Z Z (AC ?_))));exact ⟨(j+1,S),⟨t,by show _=An E (Q8 f k (j+1));rw[bP (by omega),X]⟩,by show n-(j+1)<n-j;omega,AR v [11,10,2,3] Z (Z) ⟨Z,Z,Z,Z,Z,Z,Z,Z,Z,Z,Z,trivial⟩⟩
       .refine Aq ?_;have hje:j=n:=by have:=Y;omega
        refine Fi (emb:=AE) 26 11 S Z Z Z Z Z Z Z ?_;rw[show S=An E (bO n f k) by rw[X,hje];rfl];refine AF (cl Z Z ?_);refine cl Z Z (V (CB 31 Kw Z Z Z Z Z Z Z Z) (V (DQ (T) ([An E (bO n f k)]) Z Z Z Z Z Z Z Z Kw (by simp only[η];omega) Z Z Z Z) (AB Z Z (AC (AF (J (Ac Z Z (AJ (k+1) (by omega)) Z) (cl Z Z (AC ?_))))))));exact ⟨(k+1,T++ [An E (bO n f k)]),⟨g,by show _=(LU n (k+1) f).map _;rw[gH (by omega),kA,hT];rfl⟩,by show n-(k+1)<n-k;omega,AR v [10,2,3] Z (Z) ⟨Z,Z,Z,Z,Z,Z,trivial⟩⟩
     .refine Aq (AD ?_);have W:k=n:=by have:=h120;omega
      refine Fi (emb:=FW) 24 10 T Z Z Z Z Z Z Z ?_;rw[show T=jx (jf p) E by rw[hT,W,hcls]];refine AF (cl Z Z (AB Z Z (AB Z Z (AC (A5 ?_)))));exact ⟨_,[],[],A2 Z,Z,Z,E,hEq,Z,Z⟩
theorem T0(f:Az u=0)(c:s∈a)(b:Bs s=0)(v:Int):(s,v)∈dR a u↔v=BN u s/\v≠0:=by grind[ea,iV,BN,dR,HU,EG,JG]
theorem iZ(f:Az u=0)(c:s∈a)(b:Bs s=0):s∈(dR a u).map Prod.fst↔BN u s≠0:=by simp[*,T0]
theorem i3(f:Az u=0)(c:s∈a)(b:Bs s=0):Af (dR a u) s 0=BN u s:=by grind[Ja,iZ,jT,iY,T0]
theorem sK(h:s∈(dR a u).map Prod.fst):s∈a:=by
 obtain ⟨d,b,e⟩:=Γ.1 h;rw[<-e];exact lG (Φ.1 b).2
theorem cb(b:∀r∈a,Bs r=0){x y:dr}(g:Az x=0)(f:Az y=0):YA a x y↔y.id∈x.af\/∃r∈a,BN x r<0/\0<BN y r:=by
 constructor
 .grind[sK,T0,i3,YA]
 .rintro (h | ⟨r,c,j,i⟩)
  .exact .inr h
  .exact .inl ⟨(r,BN x r),(T0 g c (b r c) _).2 ⟨Z,by omega⟩,j,by rw[i3 f c (b r c)];exact i⟩
theorem pB(b:∀r∈a,Bs r=0){x y:dr}(f:Az x=0)(c:Az y=0):Km a x y↔(y.id∈x.af\/x.id∈y.af)\/∃r∈a,BN x r≠0/\BN y r≠0:=by grind[sK,iZ,Km]
theorem UW(f:Ad c=0):∀r∈jf c,Bs r=0:=λr b=>by
 obtain ⟨x,a,rfl⟩:=Γ.1 b;exact KD (HZ f).1 x a
theorem DG(l:List Int)(x:Int)(i:l.length<=140737488355328):AI prog 57 [.d (FW l),.d (AE x)] (Aj (decide (x∈l))):=by
 refine Av func57 Z Z ntmps57 Z Z Z λF j=>(AD (AF ?_));refine AB Z Z (AC (AD (AD (AF (AB Z Z (AC (AX (FR (α:=Nat) (λk=>⟨18,[(0,.d (FW l)),(1,.d (AE x)),(5,(.d (AE (k:Int))))],[]⟩) (λk=>k<=l.length/\x∉l.take k) (λk=>l.length-k) (0) (⟨κ _,by simp⟩) (Zm ⟨Z,Z,Z,trivial⟩) ?_))))))));rintro k ⟨g,f⟩;refine AD (AD (AF (cl Z Z (cl Z Z (J (BW Z E0 Z) (J (At Z Z Z) (AC (A4 Z (λc=>?_) (λc=>?_)))))))))
 .have a:k<l.length:=BG c;refine AU (AD (AX (AD ?_)));refine AF (cl Z Z (cl Z Z (J (Al (k) Z Z (Z) (AP a) E0 Z BE Z) (J (BZ Z Z Ag Z) (cl Z Z (J (GW Z Z Z) (AC (A4 Z (λb=>?_) (λb=>?_)))))))))
  .refine AD (AF (AB Z Z (AC (A5 ?_))));exact ⟨_,[],[],A2 Z,Z,Z,by rw[Υ (by rw[<-b];exact ϑ a)],Z⟩
  .refine AU (AF (cl Z Z (J (Ac Z Z (AJ (k+1) (by omega)) Z) (AB Z Z (AC ?_)))));exact ⟨k+1,⟨by show k+1<=_;omega,xJ a f (λe=>b e.symm)⟩,by show l.length-(k+1)<l.length-k;omega,⟨Z,Z,λ_ _=>SW.get (l:=[(0,_),(1,_),(5,_)]) ⟨Z,Z,Z,trivial⟩⟩⟩
 .refine Aq (AD (AF (AB Z Z (AC (A5 ?_)))));exact ⟨_,[],[],A2 Z,Z,Z,by rw[kD (FB (by have h:=c;omega) f)],Z⟩
def XR(p:iB)(l:List Int):List Int:=((fl p.it).filter λi=>decide (i.id∈l)).map dr.id
theorem J6(p:iB)(l:List Int)(g:p.it.length<=1000)(w:l.length<=1000000):AI prog 53 [.d (BM p),.d (FW l)] (FW (XR p l)):=by
 have j:=Ey p.it g;have s:=O2 p.it;unfold XR
 obtain ⟨S,v⟩:∃S,fl p.it=S:=⟨_,Z⟩
 rw[v] at j s⊢;refine Av func53 Z Z ntmps53 Z Z Z λF t=>(AD (AF (V (Ba 1 Z Z Z Z Z Z Z) (AB Z Z (AC (AD ?_))))));refine AF (AB Z Z (AC (AD (AF (J (AL Z JS Z Z Z) (J (AQ Z Z Z DE Z) (J (Ak (j) Z Z) (AB Z Z ?_))))))));refine AC (AD (AD (AF (AB Z Z (AC (AX (IY 5 900 Ap Z Z Z Z (BC (α:=Nat×List Int) (λq=>⟨33,[(1,.d (FW l)),(5,(.own 900 0 q.2.length)),(6,(.d (.sl none (S.map Ah)))),(7,(.d (AE (q.1:Int))))],[(900,[.rowD 3 1 (q.2.map AE)])]⟩) (λq=>q.1<=S.length/\q.2=((S.take q.1).filter λi=>decide (i.id∈l)).map dr.id) (λq=>S.length-q.1) ((0,[])) (⟨κ _,Z⟩) (AR t [900] Z Z ⟨Z,Z,Z,Z,trivial⟩) ?_))))))));rintro ⟨k,a⟩ ⟨r,h⟩;dsimp only at r h⊢;refine AD (AD (AF (cl Z Z (cl Z Z (J (BW Z No Z) (J (At Z Z Z) (AC (A4 Z (λf=>?_) (λf=>?_)))))))))
 .have b:k<S.length:=BG f;refine AU (AD (AX (AD ?_)));have u:a.length<=1000:=by rw[h,χ];exact jq (lB _ _) (by rw[θ];omega)
  refine AF ?_;refine cl Z Z (cl Z Z (cl Z Z (J (Al (k) Z Z (Z) (AP b) No Z CP Z) (J (IJ Z ST Z Z Z) (J (BZ Z Z Ag Z) (J (Ak (DG l S[k].id (by omega)) Z Z) (AC (A4 Z (λc=>?_) (λc=>?_)))))))))
  .refine AF (cl Z Z (cl Z Z (cl Z Z (J (Al (k) Z Z (Z) (AP b) No Z CP Z) (J (IJ Z ST Z Z Z) (J (BZ Z Z Ag Z) ?_))))));refine V (CB 30 Ap Z Z Z Z Z Z Z Z) (V (DQ (a) ([S[k].id]) Z Z Z Z Z Z Z Z Ap (by simp only[η];omega) Z Z Z Z) (AB Z Z (AC (AF (cl Z Z (J (Ac Z Z (AJ (k+1) (by omega)) Z) (AB Z Z (AC ?_))))))));exact ⟨(k+1,a++ [S[k].id]),⟨by show k+1<=_;omega,by show _=((S.take (k+1)).filter _).map dr.id;rw[ψ b,mB,kA,h];simp[c]⟩,by show S.length-(k+1)<S.length-k;omega,AR t [900] Z (Z) ⟨Z,Z,Z,Z,trivial⟩⟩
  .refine AU (AF (cl Z Z (J (Ac Z Z (AJ (k+1) (by omega)) Z) (AB Z Z (AC ?_)))));exact ⟨(k+1,a),⟨by show k+1<=_;omega,by show _=((S.take (k+1)).filter _).map dr.id;rw[ψ b,mB,kA,h];simp[c]⟩,by show S.length-(k+1)<S.length-k;omega,AR t [900] Z (Z) ⟨Z,Z,Z,Z,trivial⟩⟩
 .refine Aq (AD ?_);have o:k=S.length:=by have:=f;omega
  rw[o,kW] at h;refine Fi (emb:=AE) 5 900 a Z Z Z Z Z Z Z ?_;rw[h];refine AF (cl Z Z (AB Z Z (AC (A5 ?_))));exact ⟨_,[],[],A2 Z,Z,Z,Z,Z⟩
theorem LX(p:iB)(id:Int)(f:p.it.length<=1000)(c:id∈p.it.map dr.id):AI prog 108 [.d (BM p),.d (AE id)] (Ah (hG p id)):=by
 obtain ⟨g,i,h,_⟩:=Zf c;rw[h];have a:=Pg p id (by omega);rw[i] at a
 obtain ⟨k,b⟩:∃k,(p.it.map dr.id).idxOf id=k:=⟨_,Z⟩
 simp only[b] at g a⊢;refine Av func108 Z Z ntmps108 Z Z Z λF j=>(AD (AF (V (Ba 1 Z Z Z Z Z Z Z) (V (CF 2 Tt Z Z Z Z) (AC (AD (Bm [[],[0],[],[],[2,3],rg 5,rg 6,rg 7] mixed Z (BY ?_))))))));refine AK [2] Z (AL Z JS Z Z Z) (Ay [5] Z Z (λ_=>A9 (AQ Z Z Z DE Z)) (Ay [2] Z Z (λ_=>A9 (Ar Z Z Bx Z Z Z)) (A7 1 Z Z (AK [7,8] Z (Ak (a) Z Z) (BR 5 Z Z Z (AZ 6 Z Z (J (Al (k) Z Z (Z) (AP g) No Z CP Z) (AC ⟨Z,?_⟩))))))));refine AZ 7 Z Z (J (CT Z Z Ev Z) (AC ⟨Z,?_⟩));refine AZ 8 Z Z (V (Bc Z Z Z Z Z Z Z CP) (AC ⟨Z,?_⟩));refine Bb (A5 ?_);exact ⟨_,[],[],A2 Z,Z,Z,Z,Z⟩
theorem Jc{id:Int}(h:id∈c.it.map dr.id):hG c id∈c.it/\(hG c id).id=id:=by
 obtain ⟨b,_,a,f⟩:=Zf h
 grind
theorem Zu(p:iB)(O:Ad p=0)(C:CY p)(a b:Int)(S:a∈p.it.map dr.id)(R:b∈p.it.map dr.id):AI prog 85 [.d (BM p),.d (AE a),.d (AE b)] (Aj (decide (YA (jf p) (hG p a) (hG p b)))):=by
 obtain ⟨z,Y⟩:=Jc S;obtain ⟨w,H⟩:=Jc R;have Q:=C.i;have E:=C.r;have M:=xH (HZ O).2.1 _ z;have L:=xH (HZ O).2.1 _ w;have g:=cb (UW O) M L;rw[H] at g;have K:=C.x _ z;have I:=C.x _ w;have s:=LX p a (by omega) S;have l:=LX p b (by omega) R;have B:=λr=>sQ (hG p a) r (by omega) (by omega) (by omega);have A:=λr=>sQ (hG p b) r (by omega) (by omega) (by omega)
 obtain ⟨x,U⟩:∃x,hG p a=x:=⟨_,Z⟩
 obtain ⟨y,T⟩:∃y,hG p b=y:=⟨_,Z⟩
 simp only[U,T] at g K I s l B A⊢;refine Av func85 Z Z ntmps85 Z Z Z λF N=>(AD (AF ?_));refine V (Ba 1 Z Z Z Z Z Z Z) (AB Z Z (AC (AD (Bm [[],[],[0,1],[],[],rg 5,[],[],rg 8,rg 9] mixed Z (BY (A1 [3] [1] Z Z (λ_=>A9 (Ar Z Z Bx Z Z Z)) (A7 1 Z Z (AK [11,12] Z (Ak (s) Z Z) ?_))))))));refine A1 [3] [1] Z Z (λ_=>A9 (Ar Z Z Bx Z Z Z)) (A7 2 Z Z (AK [14,15] Z (Ak (l) Z Z) (Cq [] [7] [(7,_)] Z Z (λ_=>Cd (CF 7 Tt Z Z Z Z)) (.inr ⟨7,_,Z,Z,Z,Z,Z⟩) Z Z Z Z Z (Cq [] [8] [(8,_)] Z Z (λ_=>Cd (CF 8 Tt Z Z Z Z)) (.inr ⟨8,_,Z,Z,Z,Z,Z⟩) Z Z Z Z Z (BR 8 Z Z Z (AZ 9 Z Z (V (Bc Z Z Z Z Z Z Z CP) (AC ⟨Z,?_⟩))))))));refine AZ 10 Z Z (V (Bc Z Z Z Z Z Z Z CP) (AC ⟨Z,?_⟩));refine Bb ?_;refine AD (AD (AF (J (AL Z Tk Z Z Z) (J (AQ Z Z Z BJ Z) (cl Z Z (J (Ak (DG x.af b (by omega)) Z Z) (AC (A4 Z (λv=>?_) (λv=>?_)))))))))
 .refine AD (AF (AB Z Z (AC (A5 ?_))));exact ⟨_,[],[],A2 Z,Z,Z,by rw[Υ (g.2 (.inl v))],Z⟩
 .refine AU (AD (AD (AF (AB Z Z (AC (AX (BC (α:=Nat) (λk=>⟨44,[(3,(.ptr 1 0 0)),(7,(.ptr 7 0 0)),(8,(.ptr 8 0 0)),(9,(.d (AE (k:Int))))],[(1,[.blk 25 [.d (.sl none (p.ro.map BT)),.d (.sl none (p.it.map Ah))]]),(7,[.blk 93 [.d (AE x.id),.d (AE x.pr),.d (AE x.sq),.d (.sl none (x.po.map B9)),.d (.sl none (x.pa.map Co)),.d (.sl none (x.af.map AE))]]),(8,[.blk 93 [.d (AE y.id),.d (AE y.pr),.d (AE y.sq),.d (.sl none (y.po.map B9)),.d (.sl none (y.pa.map Co)),.d (.sl none (y.af.map AE))]])]⟩) (λk=>k<=p.ro.length/\∀o∈p.ro.take k,¬(BN x o.r<0/\0<BN y o.r)) (λk=>p.ro.length-k) (0) (⟨κ _,by simp⟩) (AR N [1,7,8] Z Z ⟨Z,Z,Z,Z,trivial⟩) ?_)))))));rintro k ⟨hk,D⟩;refine AD ?_;refine AD (AF (cl Z Z (J (AL Z Kj Z Z Z) (J (AQ Z Z Z Dy Z) (J (BW Z F0 Z) (J (At Z Z Z) (AC (A4 Z (λu=>?_) (λu=>?_)))))))))
  .refine AU (AD (AX (AD ?_)));have c:k<p.ro.length:=BG u;refine AF (J (AL Z Kj Z Z Z) (J (AQ Z Z Z Dy Z) (cl Z Z (J (Al (k) Z Z (Z) (AP c) F0 Z Bd Z) (J (Jy Z QS Z Z Z) (J (CT Z Z C4 Z) (V (CF 10 SZ Z Z Z Z) (V (Bc Z Z Z Z Z Z Z KN) ?_))))))));refine AC (AD (AF (J (Ar Z Z Ev Z Z Z) (J (Ar Z Z C4 Z Z Z) (J (Ak (B p.ro[k].r) Z Z) (J (At Z Z Z) (cl Z Z (C5 38 Z (λj=>?_) (λj=>?_)))))))))
   .refine AT Z Z Z (J (Ar Z Z Ev Z Z Z) ?_);refine AT Z Z Z (J (Ar Z Z C4 Z Z Z) (AT Z Z Z (J (Ak (A p.ro[k].r) Z Z) (AT Z Z Z (J (H1 Z Z Z) (J (B4 Z Z Z Z) (AC (A4 Z (λi=>?_) (λi=>?_)))))))))
    .refine AD (AF (AB Z Z (AC (A5 ?_))));exact ⟨_,[],[],A2 Z,Z,Z,by rw[Υ (g.2 (.inr ⟨_,mo (f:=gf.r) (ϑ c),j,i⟩))],Z⟩
    .refine AU (AF (cl Z Z (J (Ac Z Z (AJ (k+1) (by omega)) Z) (AB Z Z (AC ?_)))));exact ⟨k+1,⟨c,λo t=>by rw[ψ c] at t;exact (ν.1 t).elim (D o) λe=>by rw[ξ.1 e];first | exact λh=>j h.1 | exact λh=>i h.2⟩,by omega,AR N [1,7,8] Z (Z) ⟨Z,Z,Z,Z,trivial⟩⟩
   .refine AN Z Z Z Z (AN Z Z Z Z (AN Z Z Z Z (AN Z Z Z Z ?_)));refine J (Br Z Z Z Z) (AC (Cr Z Z (AU (AF (cl Z Z (J (Ac Z Z (AJ (k+1) (by omega)) Z) (AB Z Z (AC ?_))))))));exact ⟨k+1,⟨c,λo t=>by rw[ψ c] at t;exact (ν.1 t).elim (D o) λe=>by rw[ξ.1 e];first | exact λh=>j h.1 | exact λh=>i h.2⟩,by omega,AR N [1,7,8] Z (Z) ⟨Z,Z,Z,Z,trivial⟩⟩
  .refine Aq (AD ?_);have G:k=p.ro.length:=by have:=u;omega
   rw[G,kW] at D;refine AF (AB Z Z (AC (A5 ?_)));exact ⟨_,[],[],A2 Z,Z,Z,by rw[kD λW=>(g.1 W).elim v λ⟨r,X,h⟩=>by obtain ⟨o,t,e⟩:=Γ.1 X;rw[<-e] at h;exact D o t h],Z⟩
theorem Sv(p:iB)(R:Ad p=0)(D:CY p)(a b:Int)(U:a∈p.it.map dr.id)(T:b∈p.it.map dr.id):AI prog 58 [.d (BM p),.d (AE a),.d (AE b)] (Aj (decide (Km (jf p) (hG p a) (hG p b)))):=by
 obtain ⟨A,K⟩:=Jc U;obtain ⟨z,I⟩:=Jc T;have S:=D.i;have G:=D.r;have O:=xH (HZ R).2.1 _ A;have N:=xH (HZ R).2.1 _ z;have c:=pB (UW R) O N;rw[I,K] at c;have M:=D.x _ A;have L:=D.x _ z;have u:=LX p a (by omega) U;have t:=LX p b (by omega) T;have C:=λr=>sQ (hG p a) r (by omega) (by omega) (by omega);have B:=λr=>sQ (hG p b) r (by omega) (by omega) (by omega)
 obtain ⟨x,X⟩:∃x,hG p a=x:=⟨_,Z⟩
 obtain ⟨y,W⟩:∃y,hG p b=y:=⟨_,Z⟩
 simp only[X,W] at c M L u t C B⊢;refine Av func58 Z Z ntmps58 Z Z Z λF Q=>(AD (AF ?_));refine V (Ba 1 Z Z Z Z Z Z Z) (AB Z Z (AC (AD (Bm [[],[],[0,1],[],[],rg 5,[],[],rg 8,rg 9] mixed Z (BY (A1 [3] [1] Z Z (λ_=>A9 (Ar Z Z Bx Z Z Z)) (A7 1 Z Z (AK [11,12] Z (Ak (u) Z Z) ?_))))))));refine A1 [3] [1] Z Z (λ_=>A9 (Ar Z Z Bx Z Z Z)) (A7 2 Z Z (AK [14,15] Z (Ak (t) Z Z) (Cq [] [7] [(7,_)] Z Z (λ_=>Cd (CF 7 Tt Z Z Z Z)) (.inr ⟨7,_,Z,Z,Z,Z,Z⟩) Z Z Z Z Z (Cq [] [8] [(8,_)] Z Z (λ_=>Cd (CF 8 Tt Z Z Z Z)) (.inr ⟨8,_,Z,Z,Z,Z,Z⟩) Z Z Z Z Z (BR 8 Z Z Z (AZ 9 Z Z (V (Bc Z Z Z Z Z Z Z CP) (AC ⟨Z,?_⟩))))))));refine AZ 10 Z Z (V (Bc Z Z Z Z Z Z Z CP) (AC ⟨Z,?_⟩));refine Bb ?_;refine AD (AD (AF (J (AL Z Tk Z Z Z) (J (AQ Z Z Z BJ Z) (cl Z Z (J (Ak (DG x.af b (by omega)) Z Z) (cl Z Z (C5 21 Z (λs=>?_) (λs=>?_)))))))))
 .refine AN Z Z Z Z (AN Z Z Z Z (AN Z Z Z Z ?_));refine AN Z Z Z Z (J (B4 Z Z Z Z) (AC (CM Z Z (AD (AF (AB Z Z (AC (A5 ?_))))))));exact ⟨_,[],[],A2 Z,Z,Z,by rw[Υ (c.2 (.inl (by first | exact .inl s | exact .inr l)))],rfl⟩
 .refine AT Z Z Z (J (AL Z Tk Z Z Z) ?_);refine AT Z Z Z (J (AQ Z Z Z BJ Z) (AT Z Z Z (cl Z Z (AT Z Z Z (J (Ak (DG y.af a (by omega)) Z Z) (J (Br Z Z Z Z) (AC (A4 Z (λl=>?_) (λl=>?_)))))))))
  .refine AD (AF (AB Z Z (AC (A5 ?_))));exact ⟨_,[],[],A2 Z,Z,Z,by rw[Υ (c.2 (.inl (by first | exact .inl s | exact .inr l)))],rfl⟩
  .refine AU (AD (AD (AF (AB Z Z (AC (AX (BC (α:=Nat) (λk=>⟨50,[(3,(.ptr 1 0 0)),(7,(.ptr 7 0 0)),(8,(.ptr 8 0 0)),(9,(.d (AE (k:Int))))],[(1,[.blk 25 [.d (.sl none (p.ro.map BT)),.d (.sl none (p.it.map Ah))]]),(7,[.blk 93 [.d (AE x.id),.d (AE x.pr),.d (AE x.sq),.d (.sl none (x.po.map B9)),.d (.sl none (x.pa.map Co)),.d (.sl none (x.af.map AE))]]),(8,[.blk 93 [.d (AE y.id),.d (AE y.pr),.d (AE y.sq),.d (.sl none (y.po.map B9)),.d (.sl none (y.pa.map Co)),.d (.sl none (y.af.map AE))]])]⟩) (λk=>k<=p.ro.length/\∀o∈p.ro.take k,¬(BN x o.r≠0/\BN y o.r≠0)) (λk=>p.ro.length-k) (0) (⟨κ _,by simp⟩) (AR Q [1,7,8] Z Z ⟨Z,Z,Z,Z,trivial⟩) ?_)))))));rintro k ⟨hk,E⟩;refine AD ?_;refine AD (AF (cl Z Z (J (AL Z Kj Z Z Z) (J (AQ Z Z Z Dy Z) (J (BW Z F0 Z) (J (At Z Z Z) (AC (A4 Z (λw=>?_) (λw=>?_)))))))))
   .refine AU (AD (AX (AD ?_)));have g:k<p.ro.length:=BG w;refine AF (J (AL Z Kj Z Z Z) (J (AQ Z Z Z Dy Z) (cl Z Z (J (Al (k) Z Z (Z) (AP g) F0 Z Bd Z) (J (Jy Z QS Z Z Z) (J (CT Z Z C4 Z) (V (CF 10 SZ Z Z Z Z) (V (Bc Z Z Z Z Z Z Z KN) ?_))))))));refine AC (AD (AF (J (Ar Z Z Ev Z Z Z) (J (Ar Z Z C4 Z Z Z) (J (Ak (C p.ro[k].r) Z Z) (J (DP Z Z Z) (cl Z Z (C5 44 Z (λj=>?_) (λj=>?_)))))))))
    .refine AT Z Z Z (J (Ar Z Z Ev Z Z Z) ?_);refine AT Z Z Z (J (Ar Z Z C4 Z Z Z) (AT Z Z Z (J (Ak (B p.ro[k].r) Z Z) (AT Z Z Z (J (DP Z Z Z) (J (B4 Z Z Z Z) (AC (A4 Z (λi=>?_) (λi=>?_)))))))))
     .refine AD (AF (AB Z Z (AC (A5 ?_))));exact ⟨_,[],[],A2 Z,Z,Z,by rw[Υ (c.2 (.inr ⟨_,mo (f:=gf.r) (ϑ g),j,i⟩))],Z⟩
     .refine AU (AF (cl Z Z (J (Ac Z Z (AJ (k+1) (by omega)) Z) (AB Z Z (AC ?_)))));exact ⟨k+1,⟨g,λo v=>by rw[ψ g] at v;exact (ν.1 v).elim (E o) λe=>by rw[ξ.1 e];first | exact λh=>j h.1 | exact λh=>i h.2⟩,by omega,AR Q [1,7,8] Z (Z) ⟨Z,Z,Z,Z,trivial⟩⟩
    .refine AN Z Z Z Z (AN Z Z Z Z (AN Z Z Z Z (AN Z Z Z Z ?_)));refine J (Br Z Z Z Z) (AC (Cr Z Z (AU (AF (cl Z Z (J (Ac Z Z (AJ (k+1) (by omega)) Z) (AB Z Z (AC ?_))))))));exact ⟨k+1,⟨g,λo v=>by rw[ψ g] at v;exact (ν.1 v).elim (E o) λe=>by rw[ξ.1 e];first | exact λh=>j h.1 | exact λh=>i h.2⟩,by omega,AR Q [1,7,8] Z (Z) ⟨Z,Z,Z,Z,trivial⟩⟩
   .refine Aq (AD ?_);have H:k=p.ro.length:=by have:=w;omega
    rw[H,kW] at E;refine AF (AB Z Z (AC (A5 ?_)));exact ⟨_,[],[],A2 Z,Z,Z,by rw[kD λY=>(c.1 Y).elim (λh=>h.elim s l) λ⟨r,hr,h⟩=>by obtain ⟨o,v,e⟩:=Γ.1 hr;rw[<-e] at h;exact E o v h],Z⟩
def DM(p:iB)(l:List Int):List (dr×Nat):=((fl p.it).filter λi=>decide (i.id∈l)).map λi=>(i,0)
theorem GN(p:iB)(l:List Int):(DM p l).map Prod.fst=(fl p.it).filter λi=>decide (i.id∈l):=by unfold DM;rw[jy];exact List.map_id _
theorem OP(k:Nat):D4 E k=(E.map Prod.fst).getD k ey:=by grind[D4]
theorem Xl{E':List (dr×Nat)}(h:E.map Prod.fst=E'.map Prod.fst):jx a E=jx a E':=by
 have c:D4 E=D4 E':=funext λk=>by rw[OP,OP,h]
 have b:E.length=E'.length:=by rw[<-χ (f:=Prod.fst),h,χ]
 have g:ta a E=ta a E':=by unfold ta;rw[c,b]
 simp[*,jx,Cn,An]
def Jw(E:List (dr×Nat))(k:Nat):Int:=(D4 E k).id
theorem EV(c:cO E)(b:∀j∈S,j<E.length)(a:k<E.length):Jw E k∈An E S↔k∈S:=by grind[An,cO,Jw]
theorem SU(E:List (dr×Nat))(S:List Nat):(An E S).length=S.length:=χ _
structure PG (rs:List AW) (E:List (dr×Nat)) (i:Nat) (S:List Nat):Prop where
 nd:S.Nodup
 ini:i∈S
 con:∀j∈S,j<E.length/\Cn rs E i j
theorem PG.zero(c:i<E.length):PG a E i [i]:=⟨by simp,by simp,λj b=>by rw[ξ.1 b];exact ⟨c,.refl i⟩⟩
theorem PG.add(h:PG a E i S)(l:G∈S)(g:k<E.length)(o:k∉S)(r:Km a (D4 E G) (D4 E k)):PG a E i (S++ [k]):=by
 refine ⟨mc.2 ⟨h.nd,by simp,λc t b s e=>o (by rw[ξ.1 s] at e;rw[<-e];exact t)⟩,mP _ h.ini,λx f=>?_⟩;rcases ν.1 f with f | f
 .exact h.con x f
 .rw[ξ.1 f];exact ⟨g,(h.con G l).2.trans (Rh.one (Eo.2 ⟨(h.con G l).1,g,r⟩))⟩
theorem PG.len{i:Nat}(h:PG a E i S):S.length<=E.length:=by
 have:=h.nd.length_le_of_subset (l₂:=List.range E.length) λy b=>Ω.2 (h.con y b).1
 grind
def xP(rs:List AW)(E:List (dr×Nat))(S:List Nat)(k:Nat):Prop:=k∈S\/∀m∈S,¬Km rs (D4 E m) (D4 E k)
structure PK (rs:List AW) (E:List (dr×Nat)) (i:Nat) (S0:List Nat) (k:Nat) (S:List Nat) (g:Bool):Prop where
 pg:PG rs E i S
 no:g=false->S=S0/\∀k',k'<k->xP rs E S k'
 yes:g=true->S0.length<S.length
theorem PK.zero(h:PG a E i S):PK a E i S 0 S false:=⟨h,λ_=>⟨Z,λb c=>by omega⟩,λe=>by cases e⟩
theorem PK.le(h:PK a E i t k S w):t.length<=S.length:=by
 cases hg:w with
 | false=>rw[(h.no hg).1];exact Θ _
 | true=>exact Nat.le_of_lt (h.yes hg)
theorem PK.pass(h:PK a E i t k S w)(f:xP a E S k):PK a E i t (k+1) S w:=
 ⟨h.pg,λe=>⟨(h.no e).1,λb j=>(Nat.decEq b k).byCases (λc=>by rw[c];exact f) λc=>(h.no e).2 b (by omega)⟩,h.yes⟩
theorem PK.hit{b:Nat}(h:PK a E i t k S w)(c:PG a E i (S++ [k])):PK a E i t b (S++ [k]) true:=
 ⟨c,λe=>(by cases e),λ_=>by rw[Δ,η];exact Nat.lt_succ_of_le h.le⟩
theorem PG.fin(h:PG a E i S)(j:∀k,k<E.length->xP a E S k)(s:k<E.length):k∈S↔Cn a E i k:=by
 refine ⟨λg=>(h.con k g).2,λl=>?_⟩;refine Rh.clos (p:=λx=>x∈S) (λv c y b=>?_) l h.ini;obtain ⟨_,r,o⟩:=Eo.1 b;exact (j y r).resolve_right λf=>f v c o
noncomputable def lT(n i:Nat)(C:Nat->Nat->Prop):List (List Nat):=((List.range i).filter λk=>dec (∀j,j<k->¬C k j)).map λk=>(List.range n).filter λj=>dec (C k j)
theorem ia(h:∀j,j<i->¬o i j):lT I (i+1) o=lT I i o++ [(List.range I).filter λj=>dec (o i j)]:=by grind[lT,ki,SA]
theorem bj(h:¬∀j,j<i->¬o i j):lT I (i+1) o=lT I i o:=by grind[lT,ki,Z1]
theorem i9(n i:Nat)(C:Nat->Nat->Prop):(lT n i C).length<=i:=by grind[lT]
theorem am(b:((fl c.it).map dr.id).Nodup)(o:∀j∈S,j<(DM c h).length):XR c (An (DM c h) S)=An (DM c h) ((List.range (DM c h).length).filter λj=>decide (j∈S)):=by
 have s:cO (DM c h):=L0 b (GN c h);have r:=GN c h
 obtain ⟨E,v⟩:∃E,DM c h=E:=⟨_,Z⟩
 rw[v] at o s r⊢
 have z:((fl c.it).filter λi=>decide (i.id∈An E S))=(E.map Prod.fst).filter λi=>decide (i.id∈An E S):=by
  rw[r,List.filter_filter];refine l5 λi A=>?_
  by_cases a:i.id∈An E S
  .have g:i.id∈h:=by
    obtain ⟨j,u,e⟩:=Γ.1 a;have t:D4 E j∈E.map Prod.fst:=by rw[DL (o j u)];exact mo (ϑ _)
    rw[r] at t;have w:=lG (Φ.1 t).2;rw[<-e];exact w
   rw[Υ a,Υ g];rfl
  .rw[kD a];simp
 have y:E.map Prod.fst=(List.range E.length).map (D4 E):=by
  refine ld (by simp) λk x B=>?_;have f:k<E.length:=by simpa using x
  rw[kR,kR,nV,DL f]
 unfold XR An;rw[show ((fl c.it).filter λi=>decide (i.id∈List.map (λk=>(D4 E k).id) S))=_ from z,y,List.filter_map,jy];refine congr (jr _ Z) (l5 λk f=>?_);exact decide_eq_decide.2 (EV s o (Ω.1 f))
theorem pf{D:List Nat}(c:∀k,k<E.length->(k∈D↔∃j,j<i/\Cn a E j k))(b:∀k,k<E.length->(k∈S↔Cn a E i k)):∀k,k<E.length->(k∈D++S↔∃j,j<i+1/\Cn a E j k):=by grind
theorem pj{D:List Nat}(l:i<E.length)(c:∀k,k<E.length->(k∈D↔∃j,j<i/\Cn a E j k))(h:i∈D):∀k,k<E.length->(k∈D↔∃j,j<i+1/\Cn a E j k):=λk g=>by
 rw[c k g]
 constructor
 .rintro ⟨j,s,b⟩;exact ⟨j,by omega,b⟩
 .rintro ⟨j,s,b⟩
  by_cases e:j=i
  .subst e;obtain ⟨f,r,o⟩:=(c j l).1 h;exact ⟨f,r,o.trans b⟩
  .exact ⟨j,by omega,b⟩
theorem SK{D:List Nat}(f:i<E.length)(g:∀k,k<E.length->(k∈D↔∃j,j<i/\Cn a E j k)):i∉D↔∀j,j<i->¬Cn a E i j:=by
 rw[g i f];exact ⟨λh j b c=>h ⟨j,b,c.symm⟩,λh ⟨j,b,c⟩=>h j b c.symm⟩
theorem ZO{E:List (dr×Nat)}{S:List Nat}{m:Nat}(a:m<S.length):((An E S).map AE)[m]? =some (AE (Jw E S[m])):=by
 unfold An;rw[jy,ς,ω a]
 rfl
theorem Rl(b:Ad c=0)(a:k<(DM c h).length):Jw (DM c h) k∈c.it.map dr.id/\hG c (Jw (DM c h) k)=D4 (DM c h) k:=by grind[DL,mo,ϑ,GN,KI,K5,Jw]
theorem Un:XR c h=An (DM c h) (List.range (DM c h).length):=by
 unfold XR An;rw[<-GN];refine ld (by simp) λk b a=>?_
 grind[DL]
def kO(S:List Nat)(k:Nat)(h:Bool):List Nat:=if h=true then S++ [k] else S
theorem PK.next{c:Bool}(h:PK a E i t k S w)(b:c=true->PG a E i (S++ [k]))(f:c=false->xP a E S k):PK a E i t (k+1) (kO S k c) (if c=true then true else w):=by
 cases c with
 | false=>exact h.pass (f Z)
 | true=>exact h.hit (b Z)
theorem uL{hh:Bool}(b:∀j∈S,j<E.length)(a:k<E.length):∀j∈kO S k hh,j<E.length:=by grind[kO]
theorem ga(S:List Nat)(k:Nat)(a:Bool):(kO S k a).length<=S.length+1:=by grind[kO]
theorem a9(p:iB)(l:List Int)(hE:Ad p=0)(hf:CY p)(hl:l.length<=100000):AI prog 19 [.d (BM p),.d (FW l)] (XZ (jx (jf p) (DM p l))):=by
 have hi30:=hf.i;have y:((fl p.it).map dr.id).Nodup:=by have:=En hE;rwa [show hY p=fl p.it from ϱ hE] at this
 have X:cO (DM p l):=L0 y (GN p l);have C:=λ{k:Nat} (U:k<(DM p l).length)=>Rl hE U;have hel:(DM p l).length<=30:=by have h1:(DM p l).length<=(fl p.it).length:=(by unfold DM;rw[χ];exact lB _ _);rw[O2] at h1;omega
 have M:=J6 p l (by omega) (by omega);rw[Un] at M;have z:=λ{S:List Nat} (hS:∀j∈S,j<(DM p l).length)=>am y hS
 obtain ⟨E,hEE⟩:∃E,DM p l=E:=⟨_,Z⟩
 simp only[hEE] at X C hel M z⊢
 obtain ⟨n,Y⟩:∃n,E.length=n:=⟨_,Z⟩
 rw[Y] at M hel
 have v:∀{k:Nat},k<n->((An E (List.range n)).map AE)[k]? =some (AE (Jw E k)):=λ{k} U=>by
  have:=ZO (E:=E) (S:=List.range n) (m:=k) (by simpa using U)
  simpa using this
 have hll:(An E (List.range n)).length=n:=by rw[SU,kj]
 refine Av func19 Z Z ntmps19 Z Z Z λF w=>(AD (AF ?_));refine V (Ba 1 Z Z Z Z Z Z Z) (AB Z Z (AC (AD (AF (J (Ar Z Z Bx Z Z Z) (cl Z Z (J (Ak (M) Z Z) (AB Z Z ?_))))))));refine AC (AD (AF (AB Z Z (AC (AD (AF (AB Z Z (AC ?_))))))));refine AD (AD (IY 7 901 Ap Z Z Z Z (AF (AB Z Z (AC (AX (IY 6 900 Kw Z Z Z Z (BC (α:=Nat×List (List Int)×List Nat) (λq=>⟨88,[(2,(.ptr 1 0 0)),(5,(.d (FW (An E (List.range n))))),(6,(.own 900 0 q.2.1.length)),(7,(.own 901 0 (An E q.2.2).length)),(8,(.d (AY q.1)))],[(1,[.blk 25 [.d (.sl none (p.ro.map BT)),.d (.sl none (p.it.map Ah))]]),(900,[.rowD 28 1 (q.2.1.map FW)]),(901,[.rowD 3 1 ((An E q.2.2).map AE)])]⟩) (λq=>q.1<=n/\q.2.1=(lT n q.1 (Cn (jf p) E)).map (An E)/\q.2.2.length<=30*q.1/\(∀j∈q.2.2,j<E.length)/\∀k,k<E.length->(k∈q.2.2↔∃j,j<q.1/\Cn (jf p) E j k)) (λq=>n-q.1) ((0,[],[])) (⟨κ _,Z,κ _,(λj L=>by cases L),λk U=>⟨λh=>(by cases h),λ⟨j,L,_⟩=>by omega⟩⟩) (AR w [1,900,901] Z Z ⟨Z,Z,Z,Z,Z,trivial⟩) ?_))))))));rintro ⟨i,T,D⟩ ⟨hi,hT,hDl,G,hD⟩;dsimp only at hi hT hDl G hD⊢;refine AD (AD (AF (cl Z Z (cl Z Z (J (IR Z (by rw[χ,hll]) E0 Z) (J (At Z Z Z) (AC (A4 Z (λh19=>?_) (λh19=>?_)))))))))
 .refine AU (AD (AX (AD (AD ?_))));have O:i<n:=BG h19;have u:i<E.length:=by omega
  refine AF (cl Z Z (cl Z Z (cl Z Z (J (Al (i) Z Z (Z) (v O) E0 Z BE Z) (J (BZ Z Z Ag Z) (J (qp [901] (DG (An E D) (Jw E i) (by rw[SU];omega)) (by exact ⟨.inr ⟨_,_,Z,.own Z Z (by simp) (ζ (by simp)),Z⟩,.inl Z,trivial⟩) Z Z) (AC (A4 Z (λh27=>?_) (λh27=>?_)))))))))
  .have Q:i∈D:=(EV X G u).1 h27;refine Aq (AF (cl Z Z (J (Ac Z Z (AJ (i+1) (by omega)) Z) (AB Z Z (AC ?_)))));exact ⟨(i+1,T,D),⟨O,by show T=(lT n (i+1) _).map _;rw[bj λh=>(SK u hD).2 h Q];exact hT,by show D.length<=30*(i+1);omega,G,pj u hD Q⟩,by show n-(i+1)<n-i;omega,AR w [1,900,901] Z (Z) ⟨Z,Z,Z,Z,Z,trivial⟩⟩
  .have Q:i∉D:=λh=>h27 ((EV X G u).2 h);refine AU (AD (AF (cl Z Z (cl Z Z (J (Al (i) Z Z (Z) (v O) E0 Z BE Z) (J (BZ Z Z Ag Z) (V (CB 902 Ap Z Z Z Z Z Z Z Z) ?_)))))));refine AB Z Z (AC (AD (AD (AF (AB Z Z (AC (AX (BC (α:=List Nat×Bool) (λq=>⟨88,[(2,(.ptr 1 0 0)),(5,(.d (FW (An E (List.range n))))),(6,(.own 900 0 T.length)),(7,(.own 901 0 (An E D).length)),(8,(.d (AY i))),(9,(.own 902 0 (An E q.1).length)),(10,(.d (Aj q.2)))],[(1,[.blk 25 [.d (.sl none (p.ro.map BT)),.d (.sl none (p.it.map Ah))]]),(900,[.rowD 28 1 (T.map FW)]),(901,[.rowD 3 1 ((An E D).map AE)]),(902,[.rowD 3 1 ((An E q.1).map AE)])]⟩) (λq=>PG (jf p) E i q.1/\(q.2=false->∀k,k<E.length->xP (jf p) E q.1 k)) (λq=>2*(E.length-q.1.length)+(if q.2 then 1 else 0)) (([i],true)) (⟨PG.zero u,λe=>by cases e⟩) (AR w [1,900,901,902] Z Z ⟨Z,Z,Z,Z,Z,Z,Z,trivial⟩) ?_))))))));rintro ⟨K,gr⟩ ⟨s,hC0⟩;dsimp only at s hC0⊢;refine AD (AD (AF (cl Z Z (AC (Jo Z (λh33=>?_) (λh33=>?_))))))
   .refine AU (AX (AD ?_));refine AF (AB Z Z (AC (AD (AF (AB Z Z (AC (AX (BC (α:=Nat×List Nat×Bool) (λq=>⟨88,[(2,(.ptr 1 0 0)),(5,(.d (FW (An E (List.range n))))),(6,(.own 900 0 T.length)),(7,(.own 901 0 (An E D).length)),(8,(.d (AY i))),(9,(.own 902 0 (An E q.2.1).length)),(10,(.d (Aj q.2.2))),(11,(.d (AY q.1)))],[(1,[.blk 25 [.d (.sl none (p.ro.map BT)),.d (.sl none (p.it.map Ah))]]),(900,[.rowD 28 1 (T.map FW)]),(901,[.rowD 3 1 ((An E D).map AE)]),(902,[.rowD 3 1 ((An E q.2.1).map AE)])]⟩) (λq=>q.1<=n/\PK (jf p) E i K q.1 q.2.1 q.2.2) (λq=>n-q.1) ((0,K,false)) (⟨κ _,PK.zero s⟩) (AR w [1,900,901,902] Z Z ⟨Z,Z,Z,Z,Z,Z,Z,Z,trivial⟩) ?_))))))));rintro ⟨k,S,g⟩ ⟨U,o⟩;dsimp only at U o⊢;refine AD (AD (AF (cl Z Z (cl Z Z (J (IR Z (by rw[χ,hll]) E0 Z) (J (At Z Z Z) (AC (A4 Z (λh37=>?_) (λh37=>?_)))))))))
    .refine AU (AD (AX (AD (AD ?_))));have r:k<n:=BG h37;have c:k<E.length:=by omega
     have f:∀j∈S,j<E.length:=λj L=>(o.pg.con j L).1;have hSl:=o.pg.len;refine AF (cl Z Z (cl Z Z (cl Z Z (J (Al (k) Z Z (Z) (v r) E0 Z BE Z) (J (BZ Z Z Ag Z) (J (qp [902] (DG (An E S) (Jw E k) (by rw[SU];omega)) (by exact ⟨.inr ⟨_,_,Z,.own Z Z (by simp) (ζ (by simp)),Z⟩,.inl Z,trivial⟩) Z Z) (AC (A4 Z (λh45=>?_) (λh45=>?_)))))))))
     .have hkS:k∈S:=(EV X f c).1 h45;refine Aq ?_
      first | have b:=o.next a (λe=> .inr λx hx=>by subst e;obtain ⟨R,B,rfl⟩:=mE.1 hx;exact (A Z).2 R (by have t:=I;rw[SU] at t;have h6:¬(m:Int)<(S.length:Int):=t;omega) B) | have b:=o.next a (λe=> .inl (by subst e;have t:Jw E k∈An E (kO S k false):=(by simpa using H);exact (EV X f c).1 t)) | skip
      refine AF (cl Z Z (J (Ac Z Z (AJ (k+1) (by omega)) Z) (AB Z Z (AC ?_))));exact ⟨(k+1,S,g),⟨r,o.pass (.inl hkS)⟩,by show n-(k+1)<n-k;omega,AR w [1,900,901,902] Z (Z) ⟨Z,Z,Z,Z,Z,Z,Z,Z,trivial⟩⟩
     .have hkS:k∉S:=λh=>h45 ((EV X f c).2 h);refine AU (AD (AF (AB Z Z (AC (AX (BC (α:=Nat×Bool) (λq=>⟨88,[(2,(.ptr 1 0 0)),(5,(.d (FW (An E (List.range n))))),(6,(.own 900 0 T.length)),(7,(.own 901 0 (An E D).length)),(8,(.d (AY i))),(9,(.own 902 0 (An E (kO S k q.2)).length)),(10,(.d (Aj (if q.2=true then true else g)))),(11,(.d (AY k))),(12,(.d (AY q.1)))],[(1,[.blk 25 [.d (.sl none (p.ro.map BT)),.d (.sl none (p.it.map Ah))]]),(900,[.rowD 28 1 (T.map FW)]),(901,[.rowD 3 1 ((An E D).map AE)]),(902,[.rowD 3 1 ((An E (kO S k q.2)).map AE)])]⟩) (λq=>q.1<=S.length+1/\(q.2=false->q.1<=S.length/\∀m,m<q.1->∀hm:m<S.length,¬Km (jf p) (D4 E S[m]) (D4 E k))/\(q.2=true->PG (jf p) E i (S++ [k]))) (λq=>if q.2 then 0 else S.length-q.1+1) ((0,false)) (⟨κ _,λ_=>⟨κ _,λm hm=>by omega⟩,λe=>by cases e⟩) (AR w [1,900,901,902] Z Z ⟨Z,Z,Z,Z,Z,Z,Z,Z,Z,trivial⟩) ?_))))));rintro ⟨m,hh⟩ ⟨hm,A,a⟩;dsimp only at hm A a⊢;refine AD (AD ?_);have hSr2:=uL (hh:=hh) f c;have hSl2:=ga S k hh;refine AF (cl Z Z (cl Z Z (J (QT Z E0 Z) (J (At Z Z Z) (cl Z Z (C5 50 Z (λI=>?_) (λI=>?_)))))))
      .refine AT Z Z Z (cl Z Z (AT Z Z Z (cl Z Z (AT Z Z Z (cl Z Z (AT Z Z Z (J (Al (k) Z Z (Z) (v r) E0 Z BE Z) ?_)))))));refine AT Z Z Z (J (BZ Z Z Ag Z) (AT Z Z Z (J (qp [902] (DG (An E (kO S k hh)) (Jw E k) (by rw[SU];omega)) (by exact ⟨.inr ⟨_,_,Z,.own Z Z (by simp) (ζ (by simp)),Z⟩,.inl Z,trivial⟩) Z Z) (AT Z Z Z (J (JQ Z Z) (J (B4 Z Z Z Z) (AC (A4 Z (λH=>?_) (λH=>?_)))))))))
       .refine AU (AD (AX (AD ?_)));have hn58:Jw E k∉An E (kO S k hh):=by simpa using H
        have hhf:hh=false:=Bool.eq_false_iff.2 λe=>hn58 (by rw[e];exact Γ.2 ⟨k,mG _ (ξ.2 Z),Z⟩);subst hhf;have hmL:m<(An E (kO S k false)).length:=BG I;have N:m<S.length:=by rw[SU] at hmL;exact hmL
        have W:=Sv p hE hf (Jw E S[m]) (Jw E k) (C (f _ (ϑ N))).1 (C c).1;rw[(C (f _ (ϑ N))).2,(C c).2] at W;refine Bm [[],[],[],[1,2],[1,2,3],[],[],[5,6],[5,6,7],rg 9] mixed Z (BY (A1 [2] [1] Z Z (λ_=>A9 (Ar Z Z Bx Z Z Z)) (A7 9 Z Z (A7 12 Z Z (Ay [62,63] Z Z (λ_=>A9 (DO (m) Z Z (Z) (hmL) Z E0 BE Z)) ?_)))));refine A1 [64] [902] Z Z (λ_=>A9 (ED Z Z (ZO (S:=kO S k false) N) Z Ag Z)) (A7 5 Z Z (A7 11 Z Z (AK [66,67] Z (Al (k) Z Z (Z) (v r) E0 Z BE Z) (AK [68] Z (BZ Z Z Ag Z) (BR 9 Z Z Z (AZ 10 Z Z (J (Ak (W) Z Z) (AC ⟨Z,?_⟩))))))));refine Bb (A4 Z (λh70=>?_) (λh70=>?_))
        .refine AD (AF ?_);refine cl Z Z (cl Z Z (cl Z Z (J (Al (k) Z Z (Z) (v r) E0 Z BE Z) (J (BZ Z Z Ag Z) (V (CB 30 Ap Z Z Z Z Z Z Z Z) (V (DQ ((An E (kO S k false))) ([Jw E k]) Z Z Z Z Z Z Z Z Ap (by simp only[η];rw[SU];omega) Z Z Z Z) (AB Z Z (AC ?_))))))));rw[show An E (kO S k false)++ [Jw E k]=An E (kO S k true) by unfold An kO;rw[ϱ Z,υ (by decide),kA];rfl];refine AF (AB Z Z (AC (AF (cl Z Z (J (Ac Z Z (AJ (m+1) (by omega)) Z) (AB Z Z (AC ?_)))))));exact ⟨(m+1,true),⟨by show m+1<=_;omega,(λe=>by cases e),λ_=>o.pg.add (ϑ N) c hkS h70⟩,by show (if true=true then 0 else S.length-(m+1)+1)<(if false=true then 0 else S.length-m+1);simp,AR w [1,900,901,902] Z (Z) ⟨Z,Z,Z,Z,Z,Z,Z,Z,Z,trivial⟩⟩
        .refine AU (AF (cl Z Z (J (Ac Z Z (AJ (m+1) (by omega)) Z) (AB Z Z (AC ?_)))));exact ⟨(m+1,false),⟨by show m+1<=_;omega,λ_=>⟨by show m+1<=_;omega,λR h1 h2=>(Nat.decEq R m).byCases (λe=>by subst e;exact h70) λe=>(A Z).2 R (by omega) h2⟩,λe=>by cases e⟩,by show (if false=true then 0 else S.length-(m+1)+1)<(if false=true then 0 else S.length-m+1);simp;omega,AR w [1,900,901,902] Z (Z) ⟨Z,Z,Z,Z,Z,Z,Z,Z,Z,trivial⟩⟩
       .refine Aq ?_
        first | have b:=o.next a (λe=> .inr λx hx=>by subst e;obtain ⟨R,B,rfl⟩:=mE.1 hx;exact (A Z).2 R (by have t:=I;rw[SU] at t;have h6:¬(m:Int)<(S.length:Int):=t;omega) B) | have b:=o.next a (λe=> .inl (by subst e;have t:Jw E k∈An E (kO S k false):=(by simpa using H);exact (EV X f c).1 t)) | skip
        refine AF (cl Z Z (J (Ac Z Z (AJ (k+1) (by omega)) Z) (AB Z Z (AC ?_))));exact ⟨(k+1,kO S k hh,(if hh=true then true else g)),⟨r,b⟩,by show n-(k+1)<n-k;omega,AR w [1,900,901,902] Z (Z) ⟨Z,Z,Z,Z,Z,Z,Z,Z,trivial⟩⟩
      .refine AN Z Z Z Z (AN Z Z Z Z ?_);refine AN Z Z Z Z (AN Z Z Z Z (AN Z Z Z Z (AN Z Z Z Z (AN Z Z Z Z (J (Br Z Z Z Z) (AC (Cr Z Z (Aq ?_))))))))
       first | have b:=o.next a (λe=> .inr λx hx=>by subst e;obtain ⟨R,B,rfl⟩:=mE.1 hx;exact (A Z).2 R (by have t:=I;rw[SU] at t;have h6:¬(m:Int)<(S.length:Int):=t;omega) B) | have b:=o.next a (λe=> .inl (by subst e;have t:Jw E k∈An E (kO S k false):=(by simpa using H);exact (EV X f c).1 t)) | skip
       refine AF (cl Z Z (J (Ac Z Z (AJ (k+1) (by omega)) Z) (AB Z Z (AC ?_))));exact ⟨(k+1,kO S k hh,(if hh=true then true else g)),⟨r,b⟩,by show n-(k+1)<n-k;omega,AR w [1,900,901,902] Z (Z) ⟨Z,Z,Z,Z,Z,Z,Z,Z,trivial⟩⟩
    .refine Aq ?_;exact ⟨(S,g),⟨o.pg,λe k' hk'=>(o.no e).2 k' (by have:=h37;omega)⟩,by have h1:=o.pg.len;have h2:=o.le;show 2*(E.length-S.length)+(if g then 1 else 0)<2*(E.length-K.length)+(if gr then 1 else 0);rw[show gr=true from h33];cases hgr:g with | false=>rw[(o.no hgr).1];simp | true=>have h3:=o.yes hgr;simp;omega,AR w [1,900,901,902] Z (Z) ⟨Z,Z,Z,Z,Z,Z,Z,trivial⟩⟩
   .refine Aq (AD ?_);have hcl:=hC0 (by simpa using h33);have hSl0:=s.len;have hfl:(List.range n).filter (λj=>decide (j∈K))=(List.range n).filter λj=>dec (Cn (jf p) E i j):=l5 λj L=>Xg (s.fin hcl (by have:=Ω.1 L;omega));have hpo:=J6 p (An E K) (by omega) (by rw[SU];omega);rw[z λj L=>(s.con j L).1,Y,hfl] at hpo;have hTl:T.length<=30:=by rw[hT,χ];have:=i9 n i (Cn (jf p) E);omega
    refine Fi (emb:=AE) 9 902 (An E K) Z Z Z Z Z Z Z (AF (cl Z Z (cl Z Z (V (JR ((An E D)) ((An E K)) Z Z Z Z Z Z (λ_=>rfl) Ap (by rw[SU,SU];omega) Z Z Z Z) (AB Z Z (AC ?_))))));rw[show An E D++An E K=An E (D++K) by unfold An;rw[kA]];refine AF (cl Z Z (J (Ar Z Z Bx Z Z Z) (cl Z Z (J (Ak (hpo) Z Z) ?_))));refine V (CB 31 Kw Z Z Z Z Z Z Z Z) (V (DQ (T) ([An E ((List.range n).filter λj=>dec (Cn (jf p) E i j))]) Z Z Z Z Z Z Z Z Kw (by simp only[η];omega) Z Z Z Z) (AB Z Z (AC (AF (cl Z Z (J (Ac Z Z (AJ (i+1) (by omega)) Z) (AB Z Z (AC ?_))))))));exact ⟨(i+1,T++ [_],D++K),⟨O,by show _=(lT n (i+1) _).map _;rw[ia ((SK u hD).1 Q),kA,hT];rfl,by show (D++K).length<=30*(i+1);rw[Δ];omega,λj L=>(ν.1 L).elim (G j) λh=>(s.con j h).1,pf hD λk U=>s.fin hcl U⟩,by show n-(i+1)<n-i;omega,AR w [1,900,901] Z (Z) ⟨Z,Z,Z,Z,Z,trivial⟩⟩
 .refine Aq (AD ?_);have hie:i=n:=by have:=h19;omega
  refine Fi (emb:=FW) 6 900 T Z Z Z Z Z Z Z ?_;rw[show T=jx (jf p) E by rw[hT,hie];unfold jx;rw[Y];rfl];refine AF (cl Z Z (AB Z Z (AC (A5 ?_))));exact ⟨_,[],[],A2 Z,Z,Z,Z,Z⟩
theorem u7(p:iB)(l:List Int)(g:CY p)(f:l.length<=100000)(h:EZ p l=0)(b:Ad p=0)(c:l.Nodup):AI prog 23 [.d (BM p),.d (FW l)] (.tup [XZ (jx (jf p) (DM p l)),AE 0]):=
 (u8 p l g f h b c).mono λr k ⟨E,a,j,i⟩=>⟨by rw[j,Xl (E':=DM p l) (by rw[a,GN,show hY p=fl p.it from ϱ b])],i⟩
theorem b9{rs:List AW}{E E':List (dr×Nat)}(h:E.map Prod.fst=E'.map Prod.fst):lJ rs E=lJ rs E'/\An E=An E'/\E.length=E'.length:=by
 have c:D4 E=D4 E':=funext λk=>by rw[OP,OP,h]
 have b:E.length=E'.length:=by rw[<-χ (f:=Prod.fst),h,χ]
 refine ⟨?_,by funext S;unfold An;rw[c],b⟩;have g:∀E:List (dr×Nat),lJ rs E=(E.map Prod.fst).map λa=>mA rs E a E.length:=λE=>by unfold lJ;rw[jy];rfl
 simp[*,mA]
theorem sg{b:dr}:∀k∈mA a E b I,k<I:=λk c=>Ω.1 (Φ.1 c).1
def rW(ids:List Int)(m k:Nat):List Int:=((List.range k).filter λj=>decide (m / 2^j % 2=1)).map λj=>ids.getD j 0
def yj(p:iB)(ids:List Int)(M:Nat)(x:Int):Prop:=∃m,m<M/\D0 p (rW ids m ids.length)/\x∈rW ids m ids.length
noncomputable instance (p:iB) (ids:List Int) (M:Nat) (x:Int):Decidable (yj p ids M x):=Classical.propDecidable _
theorem Sm(b:(y.map dr.id).Nodup)(a:Nat->Bool):BU y a y.length=(y.map dr.id).filter λx=>decide (x∈BU y a y.length):=by
 obtain ⟨l,c⟩:∃l,BU y a y.length=l:=⟨_,Z⟩
 have f:y.map dr.id=(List.range y.length).map λi=>(y.getD i ey).id:=by
  conv=>lhs;rw[HR y]
  rw[jy];rfl
 grind[l5,Mc,BU]
theorem jH(h:Cb K L B A N H){x:Nd}(b:N.nd[i]? =some x):AO prog 146 [.d (pD (B i) 0)] (HN H) λr c=>r= .d (Aj x.on)/\c=HN H:=by
 have a:=h.n i x b;refine Av func146 Z Z ntmps146 Z Z Z λF g=>(AD (AF (AB Z Z (AC ?_))));refine AD (AF (cl Z Z (J (EB Z Z) (J (Cs Z F6 Z Z Z) (J (Eh (f:=40) Z Z (a) Z tO Z) (AB Z Z (AC (A5 ?_))))))));exact ⟨_,[40],_,A2 Z,Z,Z,Z,Z⟩
theorem jF(h:Cb K L B A N H)(e:Nat×Int){y:Po}(b:N.po[e.1]? =some y)(c: -1000000000000000000<=y.room/\y.room<=1000000000000000000)(f: -2000000000000000000<=e.2/\e.2<=2000000000000000000):AO prog 149 [.d (iK A e)] (HN H) λr g=>r= .d (Aj (Q2 y e.2))/\g=HN H:=by
 have a:=NY h b e.2 c f;refine Av func149 Z Z ntmps149 Z Z Z λF i=>(AD (AF (V (Ba 1 Z Z Z Z Z Z Z) (AB Z Z (AC (AD ?_))))));refine AF (J (AL Z TP Z Z Z) (J (AQ Z Z Z cj Z) (J (AL Z TO Z Z Z) (J (AQ Z Z Z FK Z) (V (F8 a Z [40] ⟨Z,trivial⟩ Z Z Z Z Z Z Z Z Z) (AB Z Z (AC (A5 ?_))))))));exact ⟨_,[40],_,A2 Z,Z,Z,Z,Z⟩
abbrev sZ(wb mv:Nat)(bs:Option (List Nat×Nat))(L:List (Int×Value))(M:MF):Hp:=(910,[.blk 171 [.d (pD wb 0)]])::HW mv bs L M
theorem jG(s:Option (List Nat×Nat))(h:Cb K L B A N H)(t:(Bh N).Nodup){id:Int}(k:id∈Bh N):AO prog 147 [.d (AE id),.ptr 910 0 0] (sZ K L s (Ga B (Bh N)) H) λr u=>r= .d (Aj (!je N id))/\u=sZ K L s (Ga B (Bh N)) H:=by
 have i:=h.w;have a:=my k;have b:(Bh N).idxOf id<N.nd.length:=by unfold Bh at a⊢;rw[χ] at a;exact a
 obtain ⟨z,o⟩:∃z,N.nd[(Bh N).idxOf id]? =some z:=⟨_,ω b⟩
 have l:N.nd.getD ((Bh N).idxOf id) CV=z:=by rw[Ψ,o];rfl
 have g:=h.n _ z o;have c:=Te (nb:=B) t a;rw[nJ a] at c;have j:(!je N id)=z.on:=by unfold je;rw[l,Bool.not_not]
 refine Av func147 Z Z ntmps147 Z Z Z λF v=>(AD ?_);refine AF (AB Z Z (AC (AD (AF (J (AQ Z Z Z Yl Z) (J (EB Z Z) (J (Cs Z OT Z Z Z) (J (Eh (f:=40) Z Z (i) Z Yj Z) ?_))))))));refine EP 7 51 0 Z Z (cl Z Z (J (I4 (Ga B (Bh N)) id (.pointer none) (pV (B ((Bh N).idxOf id)) 0) Z Z Z Yx I2 YF c Z) (J (EB Z Z) (J (Cs Z F6 Z Z Z) (J (Eh (f:=40) Z Z (g) Z tO Z) (AB Z Z (AC (A5 ?_))))))));exact ⟨_,[910,40,50,51],_,A2 Z,Z,Z,by rw[j],Z⟩
section
variable{P:Program}{F:Fr}{s:AS}{d:Nat}{x hi:Operand}{T E:TypeId}{ty:TypeId}{pos:String}{aft:Array Edge}{g:Option (Nat×Bool)}
theorem UL{b n a c:Nat}(h:Nat){k:IntKind}{i:Int}(l:s.ev x=some (.d (.raw (sV b n a))))(f:s.ev hi=some (.d (.raw (.int k i))))(o:i=(h:Int))(v:h<=a)(t:P.underlying T=some (.slice E))(u:A3 P E c=true)(r:Nat.blt d s.n=true):
  AA P F ⟨some d,.slice T x none (some hi) none,ty,pos,aft,g⟩ s d (.d (.raw (sV b h a))):=
 DD _ r λ_ y w j=>by
  have e:=j.raw l;subst o;refine ⟨.slice (if a=0 then some ⟨b,0,none⟩ else (some (⟨b,0,none⟩:Addr)).map (·.add (0*c))) (h-0) (a-0),by simp only[execOp,e,l0,m9,j.raw f,Sem.run_bind,He t (Zl u) v,Result.andThen_ok,Sem.run_pure],?_⟩
  have:Value.slice (if a=0 then some ⟨b,0,none⟩ else (some (⟨b,0,none⟩:Addr)).map (·.add (0*c))) (h-0) (a-0)=sV b h a:=by
   split<;>simp[Addr.add]
  rw[this];exact .d (.raw Z)
end
variable{a c:Nat->Nat}{N:ji}{M:MF}{f g:Nat}{h:List Nat}{i:Hd}{j:Nat}{x:Nd}
def QR{α:Type}(p:α->Bool)(l:List α):Int:=match l.findIdx? p with
 | some k=>k
 | none=> -1
theorem uI{H K:Nat}{E I:Nat->Nat}{N:ji}{M:MF}(h:Cb H K E I N M){t:Hd}{q:List Nat}(v:B1 M t 176 1 (q.map λi=>B5 (E i)))(u:∀i∈q,i<N.nd.length)(m:Nat)(X:m<=q.length)(R:q.length<=100000):
  AO prog 97 [.d (jj t m),.d (.raw (.func (.func 146) #[] #[]))] (HN M) λr T=>r= .d (AE (QR (kV N) (q.take m)))/\T=HN M:=by
 have L:t=none->m=0:=λe=>by have:=WZ v e;omega
 have Q:(q.take m).length=m:=by rw[θ];omega
 refine Av func97 Z Z ntmps97 Z Z Z λF G=>(AD (AF (AB Z Z (AC ?_))));refine AD (AD (AF (cl Z Z (J (Xv L Z S1 Z) (cl Z Z (AC (AX (BC (α:=Nat) (λk=>⟨19,[(0,.d (jj t m)),(1,.d (.raw (.func (.func 146) #[] #[]))),(7,(.d (AE (m:Int)))),(8,(.d (AE (k:Int))))],HN M⟩) (λk=>k<=m/\∀x∈(q.take m).take k,kV N x=false) (λk=>m-k) (0) (⟨κ _,by simp⟩) (AR G [40] Z Z ⟨Z,Z,Z,Z,trivial⟩) ?_))))))));rintro k ⟨S,A⟩;refine AD (AF (J (At Z Z Z) (AC (AD (A4 Z (λD=>?_) (λD=>?_))))))
 .have w:k<m:=BG D;refine AU (AD (AX (AD ?_)));have a:k<q.length:=by omega
  have s:k<(q.take m).length:=by omega
  obtain ⟨W,U,l⟩:=Wb v a;have j:=Tq v l;have B:=u _ (ϑ a)
  obtain ⟨z,c⟩:∃z,N.nd[q[k]]? =some z:=⟨_,ω B⟩
  have C:=jH h c;have o:kV N q[k]=z.on:=by unfold kV;rw[Ψ,c];rfl
  refine AF (cl Z Z (AB Z Z (AC (AD ?_))));refine AF (cl Z Z (cl Z Z (cl Z Z (J (Xz l (k) Z Z Z w S1 NQ Z) (J (qq (f:=40) (e:=k) (off:=0) Z (by omega) Z (j) (AP a) Z PN Z) (V (cQ C Z [40] ⟨Z,trivial⟩ Z Z Z Z Z Z Z Z Z) (AC (Jo Z (λb=>?_) (λb=>?_)))))))))
  .refine AD (AF (cl Z Z (AB Z Z (AC (A5 ?_)))));exact ⟨_,[40],_,A2 Z,Z,Z,Ae (by unfold QR;rw[Hz s A (by rw[List.getElem_take,o];simpa using b)]),Z⟩
  .refine AU (AF (J (Ac Z Z (AJ (k+1) (by omega)) Z) (cl Z Z (AC ?_))));exact ⟨k+1,⟨by show k+1<=_;omega,by rw[ψ s];intro y g;rcases ν.1 g with g | g;exact A y g;rw[ξ.1 g,List.getElem_take];rw[o];simpa using b⟩,by show m-(k+1)<m-k;omega,AR G [40] Z (Z) ⟨Z,Z,Z,Z,trivial⟩⟩
 .refine Aq (AD (AF (AB Z Z (AC (A5 ?_)))));exact ⟨_,[40],_,A2 Z,Z,Z,Ae (by unfold QR;rw[Ji (λx O=>A x (by rw[ζ (by have h:=D;omega)];exact O))]),Z⟩
theorem X4{a:Type}{p:a->Bool}{l:List a}:(QR p l>=0)↔l.any p=true:=by grind[QR]
theorem qA(j:Cb f g c a N M)(o:B1 M i 176 1 (h.map λb=>B5 (c b)))(k:∀b∈h,b<N.nd.length)(m:Nat)(s:m<=h.length)(l:h.length<=100000):
  AO prog 145 [.d (jj i m),.d (.raw (.func (.func 146) #[] #[]))] (HN M) λr t=>r= .d (Aj ((h.take m).any (kV N)))/\t=HN M:=by
 refine Av func145 Z Z ntmps145 Z Z Z λF u=>(AD (AF (AB Z Z (AC ?_))));refine AD (AF (cl Z Z (cl Z Z (V (F8 (uI j o k m s l) Z [40] ⟨Z,trivial⟩ Z Z Z Z Z Z Z Z Z) (J (EH Z Z Z) (AB Z Z (AC (A5 ?_))))))));exact ⟨_,[40],_,A2 Z,Z,Z,RK (by rw[nH,lh];exact X4),Z⟩
theorem uG{D H:Nat}{G E:Nat->Nat}{N:ji}{M:MF}(h:Cb D H G E N M)(u:lV N){i:Nat}{x:Nd}(B:N.nd[i]? =some x):
  AO prog 197 [.d (jj x.eh x.ef.length),.d (.raw (.func (.func 149) #[] #[]))] (HN M) λr R=>r= .d (AE (QR (λe:Nat×Int=>Q2 (N.po.getD e.1 Ce) e.2) x.ef))/\R=HN M:=by
 obtain ⟨K,g,_⟩:=h.nn i x B;have c:=ϖ B;have O:=(u.l x c).1;have I:=WZ g;refine Av func197 Z Z ntmps197 Z Z Z λF C=>(AD (AF (AB Z Z (AC ?_))));refine AD (AD (AF (cl Z Z (J (Xv I Z underlying181 Z) (cl Z Z (AC (AX (BC (α:=Nat) (λk=>⟨19,[(0,.d (jj x.eh x.ef.length)),(1,.d (.raw (.func (.func 149) #[] #[]))),(7,(.d (AE (x.ef.length:Int)))),(8,(.d (AE (k:Int))))],HN M⟩) (λk=>k<=x.ef.length/\∀e∈x.ef.take k,(λe:Nat×Int=>Q2 (N.po.getD e.1 Ce) e.2) e=false) (λk=>x.ef.length-k) (0) (⟨κ _,by simp⟩) (AR C [40] Z Z ⟨Z,Z,Z,Z,trivial⟩) ?_))))))));rintro k ⟨L,v⟩;refine AD (AF (J (At Z Z Z) (AC (AD (A4 Z (λA=>?_) (λA=>?_))))))
 .have a:k<x.ef.length:=BG A;refine AU (AD (AX (AD ?_)));obtain ⟨T,S,b⟩:=Wb g a;have o:=Tq g b;have w:=(h.e x c).1 _ (ϑ a)
  obtain ⟨y,t⟩:∃y,N.po[x.ef[k].1]? =some y:=⟨_,ω w⟩
  have s:N.po.getD x.ef[k].1 Ce=y:=by rw[Ψ,t];rfl
  have Q:=u.e x c _ (ϑ a);have z:=jF h x.ef[k] t (u.rm y (ϖ t)) ⟨by omega,by omega⟩;refine AF (cl Z Z (AB Z Z (AC (AD ?_))));refine AF (cl Z Z (cl Z Z (cl Z Z (J (Xz b (k) Z Z Z a underlying181 UG Z) (J (E4 (f:=40) (e:=k) Z (Z) Z (o) (AP a) Z dt Z) (V (cQ z Z [40] ⟨Z,trivial⟩ Z Z Z Z Z Z Z Z Z) (AC (A4 Z (λl=>?_) (λl=>?_)))))))))
  .refine AD (AF (cl Z Z (AB Z Z (AC (A5 ?_)))));exact ⟨_,[40],_,A2 Z,Z,Z,Ae (by unfold QR;rw[Hz a v (by show Q2 (N.po.getD x.ef[k].1 Ce) x.ef[k].2=true;rw[s];unfold Q2;exact Υ l)]),Z⟩
  .refine AU (AF (J (Ac Z Z (AJ (k+1) (by omega)) Z) (cl Z Z (AC ?_))));exact ⟨k+1,⟨by show k+1<=_;omega,by rw[ψ a];intro e j;rcases ν.1 j with j | j;exact v e j;rw[ξ.1 j];show Q2 (N.po.getD x.ef[k].1 Ce) x.ef[k].2=false;rw[s];unfold Q2;exact kD l⟩,by show x.ef.length-(k+1)<x.ef.length-k;omega,AR C [40] Z (Z) ⟨Z,Z,Z,Z,trivial⟩⟩
 .refine Aq (AD (AF (AB Z Z (AC (A5 ?_)))));exact ⟨_,[40],_,A2 Z,Z,Z,Ae (by unfold QR;rw[Ji (λe j=>v e (by rw[ζ (by have h:=A;omega)];exact j))]),Z⟩
theorem py(h:Cb f g c a N M)(k:lV N)(b:N.nd[j]? =some x):
  AO prog 148 [.d (jj x.eh x.ef.length),.d (.raw (.func (.func 149) #[] #[]))] (HN M) λr l=>r= .d (Aj (x.ef.any λe:Nat×Int=>Q2 (N.po.getD e.1 Ce) e.2))/\l=HN M:=by
 refine Av func148 Z Z ntmps148 Z Z Z λF o=>(AD (AF (AB Z Z (AC ?_))));refine AD (AF (cl Z Z (cl Z Z (V (F8 (uG h k b) Z [40] ⟨Z,trivial⟩ Z Z Z Z Z Z Z Z Z) (J (EH Z Z Z) (AB Z Z (AC (A5 ?_))))))));exact ⟨_,[40],_,A2 Z,Z,Z,RK (by rw[nH,lh];exact X4),Z⟩
theorem uH(o:Option (List Nat×Nat))(h:Cb f g c a N M)(y:(Bh N).Nodup)(l:List Int)(D:l.length<=100000)(t:∀id∈l,id∈Bh N):
  AO prog 138 [.d (.sl none (l.map AE)),.fn 147 [.ptr 910 0 0]] (sZ f g o (Ga c (Bh N)) M) λr C=>r= .d (AE (QR (λid=>!je N id) l))/\C=sZ f g o (Ga c (Bh N)) M:=by
 obtain ⟨L,B⟩:∃L,Ga c (Bh N)=L:=⟨_,Z⟩
 have v:=λid A=>jG (id:=id) o h y A;rw[B] at v⊢;refine Av func138 Z Z ntmps138 Z Z Z λF w=>(AD (AF (AB Z Z (AC ?_))));refine AD (AD (AF (cl Z Z (J (BW Z E0 Z) (cl Z Z (AC (AX (BC (α:=Nat) (λk=>⟨19,[(0,.d (.sl none (l.map AE))),(1,.fn 147 [.ptr 910 0 0]),(7,(.d (AE (l.length:Int)))),(8,(.d (AE (k:Int))))],sZ f g o L M⟩) (λk=>k<=l.length/\∀x∈l.take k,(λid=>!je N id) x=false) (λk=>l.length-k) (0) (⟨κ _,by simp⟩) (AR w [910,40,50,51] Z Z ⟨Z,Z,Z,Z,trivial⟩) ?_))))))));rintro k ⟨z,s⟩;refine AD (AF (J (At Z Z Z) (AC (AD (A4 Z (λu=>?_) (λu=>?_))))))
 .have b:k<l.length:=BG u;refine AU (AD (AX (AD (AF (cl Z Z (AB Z Z (AC (AD ?_))))))));refine AF (cl Z Z (cl Z Z (cl Z Z (J (Al (k) Z Z (Z) (AP b) E0 Z BE Z) (J (BZ Z Z Ag Z) (V (cQ (v l[k] (t _ (ϑ b))) Z [910,40,50,51] ⟨Z,Z,Z,Z,trivial⟩ Z Z Z Z Z Z Z Z Z) (AC (Jo Z (λj=>?_) (λj=>?_)))))))))
  .refine AD (AF (cl Z Z (AB Z Z (AC (A5 ?_)))));exact ⟨_,[910,40,50,51],_,A2 Z,Z,Z,Ae (by unfold QR;rw[Hz b s (by simpa using j)]),Z⟩
  .refine AU (AF (J (Ac Z Z (AJ (k+1) (by omega)) Z) (cl Z Z (AC ?_))));exact ⟨k+1,⟨by show k+1<=_;omega,by rw[ψ b];intro x i;rcases ν.1 i with i | i;exact s x i;rw[ξ.1 i];simpa using j⟩,by show l.length-(k+1)<l.length-k;omega,AR w [910,40,50,51] Z (Z) ⟨Z,Z,Z,Z,trivial⟩⟩
 .refine Aq (AD (AF (AB Z Z (AC (A5 ?_)))));exact ⟨_,[910,40,50,51],_,A2 Z,Z,Z,Ae (by unfold QR;rw[Ji (λx i=>s x (by rw[ζ (by have h:=u;omega)];exact i))]),Z⟩
theorem pz(i:Option (List Nat×Nat))(h:Cb f g c a N M)(j:(Bh N).Nodup)(l:List Int)(k:l.length<=100000)(b:∀id∈l,id∈Bh N):
  AO prog 130 [.d (.sl none (l.map AE)),.fn 147 [.ptr 910 0 0]] (sZ f g i (Ga c (Bh N)) M) λr o=>r= .d (Aj (l.any λid=>!je N id))/\o=sZ f g i (Ga c (Bh N)) M:=by
 refine Av func130 Z Z ntmps130 Z Z Z λF s=>(AD (AF (AB Z Z (AC ?_))));refine AD (AF (cl Z Z (cl Z Z (V (F8 (uH i h j l k b) Z [910,40,50,51] ⟨Z,Z,Z,Z,trivial⟩ Z Z Z Z Z Z Z Z Z) (J (EH Z Z Z) (AB Z Z (AC (A5 ?_))))))));exact ⟨_,[910,40,50,51],_,A2 Z,Z,Z,RK (by rw[nH,lh];exact X4),Z⟩
section
variable{P:Program}{F:Fr}{s:AS}{d:Nat}{x hi:Operand}{T E:TypeId}{ty:TypeId}{pos:String}{aft:Array Edge}{g:Option (Nat×Bool)}
theorem UM{h:Hd}{b n a i:Nat}(o:h=some (b,a))(m:Nat){j:IntKind}{f:Int}(k:s.ev x=some (.d (jj h n)))(c:s.ev hi=some (.d (.raw (.int j f))))(l:f=(m:Int))(v:m<=a)(t:P.underlying T=some (.slice E))(u:A3 P E i=true)(r:Nat.blt d s.n=true):
  AA P F ⟨some d,.slice T x none (some hi) none,ty,pos,aft,g⟩ s d (.d (jj h m)):=by
 subst o;exact UL m k c l v t u r
end
variable{a:List dr}{c:List gf}{f:Nat->Bool}{R:Int->Int->Prop}{g:iB}{N:ji}{h:List Int}{i:Nat}{x:Nd}{j:List gf}{k:dr}{Y:List gf}{o s:Nat->Nat}{t:List Po}{M:MF}{u w y:Nat}{z:Int}{A:Nat}{B:Po}
def W7(N:ji)(e:Nat×Nat):Bool:=((N.po.getD e.1 Ce).q.take e.2).any (kV N)
def DN(N:ji)(x:Nd):Bool:=!(x.pl.any (W7 N)) &&(!(x.it.af.any λid=>!je N id) && !(x.ef.any λe:Nat×Int=>Q2 (N.po.getD e.1 Ce) e.2))
theorem xE(h:x.pl.any (W7 N)=true):DN N x=false:=by unfold DN;rw[h];rfl
theorem xG(a:x.pl.any (W7 N)=false)(h:(x.it.af.any λid=>!je N id)=true):DN N x=false:=by unfold DN;rw[a,h];rfl
theorem xF(a:x.pl.any (W7 N)=false)(h:(x.it.af.any λid=>!je N id)=false):DN N x=!(x.ef.any λe:Nat×Int=>Q2 (N.po.getD e.1 Ce) e.2):=by unfold DN;rw[a,h];simp
theorem q7(Q:Option (List Nat×Nat))(h:Cb u w s o N M)(C:lV N)(W:N.nd[i]? =some x):
  AO prog 99 [.d (pD u 0),.d (pD (s i) 0)] (HW w Q (Ga s (Bh N)) M) λr H'=>r= .d (Aj (DN N x))/\H'=HW w Q (Ga s (Bh N)) M:=by
 have b:=ϖ W;obtain ⟨g,hre,j⟩:=h.nn i x W;have X:=WZ j;obtain ⟨_,hpl,hafl⟩:=C.l x b;have U:=h.e x b;have T:=C.p x b;have O:=pz Q h C.i x.it.af (by omega) (C.a x b);have hc3:=py h C W
 obtain ⟨L,hL⟩:∃L,Ga s (Bh N)=L:=⟨_,Z⟩
 rw[hL] at O⊢;refine Av func99 Z Z ntmps99 Z Z Z λF hF=>(AD (AF (V (Ba 910 Z Z Z Z Z Z Z) (AB Z Z (AC (AD (AD (AF ?_))))))));refine cl Z Z (J (EB Z Z) (J (Cs Z Ld Z Z Z) (J (Eh (f:=40) Z Z (g) Z Yh Z) (J (Xv X Z underlying182 Z) (cl Z Z (AC (AX (BC (α:=Nat) (λk=>⟨39,[(1,.d (pD (s i) 0)),(2,(.ptr 910 0 0)),(10,(.d (jj x.ph x.pl.length))),(11,(.d (AE (x.pl.length:Int)))),(12,(.d (AE (k:Int))))],sZ u w Q L M⟩) (λk=>k<=x.pl.length/\∀e∈x.pl.take k,W7 N e=false) (λk=>x.pl.length-k) (0) (⟨κ _,by simp⟩) (AR hF [910,40,50,51] Z Z ⟨Z,Z,Z,Z,Z,trivial⟩) ?_))))))));rintro k ⟨hk0,l⟩;refine AD (AF (J (At Z Z Z) (AC (AD (A4 Z (λB=>?_) (λB=>?_))))))
 .have a:k<x.pl.length:=BG B;refine AU (AD (AX (AD ?_)));obtain ⟨eb,ec,K⟩:=Wb j a;have E:=Tq j K;have Y:x.pl[k].1<N.po.length:=U.2 _ (ϑ a)
  obtain ⟨y,S⟩:∃y,N.po[x.pl[k].1]? =some y:=⟨_,ω Y⟩
  have t:N.po.getD x.pl[k].1 Ce=y:=by rw[Ψ,S];rfl
  have D:=ϖ S;obtain ⟨R,c⟩:=h.pp _ y S;have H:=T _ (ϑ a);rw[t] at H;obtain ⟨qb,qc,G⟩:=Wb c H.1;have hqc:y.q.length<=qc:=by have h1:=c;rw[G] at h1;have h2:=h1.1;rw[χ] at h2;exact h2
  have hcn:=qA h c (h.q y D) x.pl[k].2 (by omega) (by have h1:=C.ql y D;omega);refine AF (J (Xz K (k) Z Z Z a underlying182 Qn Z) ?_);refine J (E4 (f:=40) (e:=k) Z (Z) Z (E) (AP a) Z dp Z) (V (CF 911 YE Z Z Z Z) (V (Bc Z Z Z Z Z Z Z Qn) (AC (AD (Bm [[],[0],[0,1],[0,1,2],[0,1,2,3],[],[5],rg 7,rg 8] mixed Z (BY (AK [6] Z (AL Z IA Z Z Z) (A1 [16] [911] Z Z (λ_=>A9 (AQ Z Z Z cj Z)) ?_))))))));refine AK [17] Z (EB Z Z) (AK [18] Z (Cs Z IB Z Z Z) (A1 [19] [40] Z Z (λ_=>A9 (Eh (f:=40) Z Z (R) Z HO Z)) (AK [6] Z (AL Z TM Z Z Z) (A1 [21] [911] Z Z (λ_=>A9 (AQ Z Z Z Ag Z)) (BR 7 Z Z Z (AZ 8 Z Z (J (UM G x.pl[k].2 Z Z Z (by omega) S1 NQ Z) (AC ⟨Z,?_⟩))))))));refine AZ 9 Z Z (V (F8 hcn Z [40] ⟨Z,trivial⟩ Z Z Z Z Z Z Z Z Z) (AC ⟨Z,?_⟩));refine Bb (Jo Z (λA=>?_) (λA=>?_))
  .refine AD (AF (AB Z Z (AC (A5 ?_))));exact ⟨_,[40,50,51],_,A2 Z,Z,Z,by rw[xE (List.any_eq_true.2 ⟨_,ϑ a,by unfold W7;rw[t];simpa using A⟩)],Z⟩
  .refine AU (AF (J (Ac Z Z (AJ (k+1) (by omega)) Z) (cl Z Z (AC ?_))));exact ⟨k+1,⟨by show k+1<=_;omega,by rw[ψ a];intro e v;rcases ν.1 v with v | v;exact l e v;rw[ξ.1 v];unfold W7;rw[t];simpa using A⟩,by show x.pl.length-(k+1)<x.pl.length-k;omega,AR hF [910,40,50,51] Z (Z) ⟨Z,Z,Z,Z,Z,trivial⟩⟩
 .refine Aq (AD (AD ?_));have I:x.pl.any (W7 N)=false:=by rw[List.any_eq_false];intro e v;have e1:k=x.pl.length:=(by have h:=B;omega);rw[e1,kW] at l;rw[l e v];simp
  refine AF ?_;refine cl Z Z (J (EB Z Z) (J (Cs Z G6 Z Z Z) (J (Cs Z GL Z Z Z) (J (Eh (f:=40) Z Z (g) Z BJ Z) (J (ut Z Z) (V (F8 O Z [910,40,50,51] ⟨Z,Z,Z,Z,trivial⟩ Z Z Z Z Z Z Z Z Z) (AC (Jo Z (λz=>?_) (λz=>?_)))))))))
  .refine AD (AF (AB Z Z (AC (A5 ?_))));exact ⟨_,[40,50,51],_,A2 Z,Z,Z,by rw[xG I (by simpa using z)],Z⟩
  .refine AU (AD (AF ?_));refine cl Z Z (J (EB Z Z) (J (Cs Z Lg Z Z Z) (J (Eh (f:=40) Z Z (g) Z Yi Z) (V (F8 hc3 Z [40] ⟨Z,trivial⟩ Z Z Z Z Z Z Z Z Z) (J (QV Z Z) (AB Z Z (AC (A5 ?_))))))));exact ⟨_,[40,50,51],_,A2 Z,Z,Z,by rw[xF I (by simpa using z)],Z⟩
abbrev HG(wb mv:Nat)(bs:Option (List Nat×Nat))(L:List (Int×Value))(M:MF):Hp:=(920,[.blk 171 [.d (pD wb 0)]])::HW mv bs L M
theorem gi(g:Option (List Nat×Nat))(h:Cb u w s o N M)(k:lV N){i:Nat}{x:Nd}(j:N.nd[i]? =some x):
  AO prog 98 [.d (pD (s i) 0),.ptr 920 0 0] (HG u w g (Ga s (Bh N)) M) λr t=>r= .d (Aj (x.on && DN N x))/\t=HG u w g (Ga s (Bh N)) M:=by
 have b:=h.n i x j;have a:=q7 g h k j
 obtain ⟨L,l⟩:∃L,Ga s (Bh N)=L:=⟨_,Z⟩
 rw[l] at a⊢;refine Av func98 Z Z ntmps98 Z Z Z λF v=>(AD (AF (AB Z Z ?_)));refine AC (AD (AF (cl Z Z (J (EB Z Z) (J (Cs Z F6 Z Z Z) (J (Eh (f:=40) Z Z (b) Z tO Z) (cl Z Z (PS 8 Z (λc=>?_) (λc=>?_)))))))));refine AT Z Z Z (J (AQ Z Z Z Yl Z) (AT Z Z Z (cl Z Z (AT Z Z Z (V (F8 a Z [40,50,51] ⟨Z,Z,Z,trivial⟩ Z Z Z Z Z Z Z Z Z) (J (B4 Z Z Z Z) ?_))))))
 rotate_left
 refine AN Z Z Z Z (AN Z Z Z Z (AN Z Z Z Z (J (Br Z Z Z Z) ?_)))
 all_goals
  refine AB Z Z (AC (A5 ?_));exact ⟨_,[920,40,50,51],_,A2 Z,Z,Z,by rcases Bool.eq_false_or_eq_true x.on with e | e<;>rw[e] at c⊢<;>first | rfl | (simp at c),rfl⟩
def Ka(N:ji)(i:Nat):Bool:=(N.nd.getD i CV).on && DN N (N.nd.getD i CV)
theorem uE(C:Option (List Nat×Nat))(h:Cb u w s o N M)(I:lV N):
  AO prog 97 [.d (jj N.nh N.nd.length),.fn 98 [.ptr 920 0 0]] (HG u w C (Ga s (Bh N)) M) λr U=>r= .d (AE (QR (Ka N) (List.range N.nd.length)))/\U=HG u w C (Ga s (Bh N)) M:=by
 have b:B1 M N.nh en 1 ((List.range N.nd.length).map λi=>B5 (s i)):=h.rs.1 .n;have Q:N.nh=none->N.nd.length=0:=λe=>by have O:=WZ b e;rw[kj] at O;exact O
 have R:=I.n.1;have B:=λi x D=>gi (i:=i) (x:=x) C h I D
 obtain ⟨L,T⟩:∃L,Ga s (Bh N)=L:=⟨_,Z⟩
 rw[T] at B⊢;refine Av func97 Z Z ntmps97 Z Z Z λF K=>(AD (AF (AB Z Z (AC ?_))));refine AD (AD (AF (cl Z Z (J (Xv Q Z S1 Z) (cl Z Z (AC (AX (BC (α:=Nat) (λk=>⟨19,[(0,.d (jj N.nh N.nd.length)),(1,.fn 98 [.ptr 920 0 0]),(7,(.d (AE (N.nd.length:Int)))),(8,(.d (AE (k:Int))))],HG u w C L M⟩) (λk=>k<=N.nd.length/\∀x∈(List.range N.nd.length).take k,Ka N x=false) (λk=>N.nd.length-k) (0) (⟨κ _,by simp⟩) (AR K [920,40,50,51] Z Z ⟨Z,Z,Z,Z,trivial⟩) ?_))))))));rintro k ⟨S,E⟩;refine AD (AF (J (At Z Z Z) (AC (AD (A4 Z (λH=>?_) (λH=>?_))))))
 .have a:k<N.nd.length:=BG H;refine AU (AD (AX (AD ?_)));have c:k<(List.range N.nd.length).length:=by rw[kj];exact a
  obtain ⟨X,W,v⟩:=Wb b c;have t:=Tq b v
  obtain ⟨z,j⟩:∃z,N.nd[k]? =some z:=⟨_,ω a⟩
  have G:=B k z j;have A:Ka N k=(z.on && DN N z):=by unfold Ka;rw[Ψ,j];rfl
  refine AF (cl Z Z ?_);refine AB Z Z (AC (AD (AF (cl Z Z (cl Z Z (cl Z Z (J (Xz v (k) Z Z Z a S1 NQ Z) (J (qq (f:=40) (e:=k) (off:=0) Z (by omega) Z (t) ((by rw[ς,m7 a];rfl)) Z PN Z) ?_))))))));refine V (cQ G Z [920,40,50,51] ⟨Z,Z,Z,Z,trivial⟩ Z Z Z Z Z Z Z Z Z) (AC (Jo Z (λg=>?_) (λg=>?_)))
  .refine AD (AF (cl Z Z (AB Z Z (AC (A5 ?_)))));exact ⟨_,[920,40,50,51],_,A2 Z,Z,Z,Ae (by unfold QR;rw[Hz c E (by rw[nV,A];simpa using g)]),Z⟩
  .refine AU (AF (J (Ac Z Z (AJ (k+1) (by omega)) Z) (cl Z Z (AC ?_))));exact ⟨k+1,⟨by show k+1<=_;omega,by rw[ψ c];intro y l;rcases ν.1 l with l | l;exact E y l;rw[ξ.1 l,nV,A];simpa using g⟩,by show N.nd.length-(k+1)<N.nd.length-k;omega,AR K [920,40,50,51] Z (Z) ⟨Z,Z,Z,Z,trivial⟩⟩
 .refine Aq (AD (AF (AB Z Z (AC (A5 ?_)))));exact ⟨_,[920,40,50,51],_,A2 Z,Z,Z,Ae (by unfold QR;rw[Ji (λx D=>E x (by rw[ζ (by rw[kj];have h:=H;omega)];exact D))]),Z⟩
theorem oa(N:ji):kV (BH N)=kV N:=funext λi=>by unfold kV;rw[GM];rfl
theorem aw(N:ji):je (BH N)=je N:=funext λe=>by unfold je;rw[GM,IC];rfl
theorem cF(N:ji)(x:Nd):DN (BH N) (FP x)=DN N x:=by
 have a:W7 (BH N)=W7 N:=funext λe=>by unfold W7;rw[JE,oa];rfl
 have b:(λe:Nat×Int=>Q2 ((BH N).po.getD e.1 Ce) e.2)=λe=>Q2 (N.po.getD e.1 Ce) e.2:=funext λe=>by rw[JE];rfl
 unfold DN;rw[a,aw]
 grind[FP]
theorem gj(N:ji):Ka (BH N)=Ka N:=funext λi=>by unfold Ka;rw[GM,cF];rfl
def Qe(po:List Po)(e:Nat×Int):List Po:=match po[e.1]? with
 | some y=>po.set e.1 {y with room:=y.room+e.2}
 | none=>po
theorem qa{e:Nat×Int}(h:t[e.1]? =some B):Qe t e=t.set e.1 {B with room:=B.room+e.2}:=by unfold Qe;rw[h]
theorem WT:∀(l:List (Nat×Int)) (a:List Po),(l.foldl Qe a).map Cv=l.foldl Qe (a.map Cv)
 | [],_=>rfl
 | e::l,a=>by
  rw[List.foldl_cons,List.foldl_cons,WT l]
  congr 1
  unfold Qe;rw[ς]
  cases a[e.1]? with
  | none=>rfl
  | some y=>show (a.set e.1 _).map Cv=_;rw[List.map_set];rfl
theorem cI(l:(c.map gf.r).Nodup)(f:gf->Po):∀(D:List (AW×Int)),(D.map Prod.fst).Nodup->(mL (c.map gf.r) D).foldl Qe (c.map f)=c.map λx=>{f x with room:=(f x).room+Du D x.r}:=by
 intro D
 induction D using cK with
 | h0=>
  intro _;show c.map f=_;refine kT λx _=>?_;show f x={f x with room:=(f x).room+0}
  rw[Int.add_zero]
 | h1 D d a=>
  intro g;rw[kA,mc] at g;have j:d.1∉D.map Prod.fst:=λh=>g.2.2 _ h _ (List.mem_singleton_self _) rfl;have a:=a g.1
  by_cases b:d.1∈c.map gf.r
  .rw[Xe b,List.foldl_append,a];obtain ⟨o,k⟩:=OQ b
   grind[Qe,TT,ET,EU,Dm]
  .rw[TY b,a];refine kT λx i=>?_;have:Du (D++ [d]) x.r=Du D x.r:=Dm λe=>b (e▸Γ.2 ⟨x,i,Z⟩);rw[this]
def ER(on:Nat->Bool):Nat->Bool:=λi=>!on i
def wC(ds:List (List (AW×Int)))(on:Nat->Bool)(x:gf):Po:=⟨x.r,x.n+E1 ds (ER on) x.r,E1 ds (λ_=>true) x.r,none,iX ds x.r,(iX ds x.r).length⟩
def jk(ros:List gf)(its:List dr)(on:Nat->Bool):ji:=⟨(List.range its.length).map (J8 (ros.map gf.r) its on),ros.map (wC (its.map ea) on),none,none⟩
theorem aG(b:List (List (AW×Int)))(r:AW):E1 b (ER λ_=>true) r=0:=by
 unfold E1 ER
 generalize List.range b.length=l
 induction l with
 | nil=>rfl
 | cons a l c=>rw[k7,lW,c];rfl
theorem fe(a:List gf)(b:List dr):jk a b (λ_=>true)=iL a b λ_=>true:=by grind[jk,iL,kT,wC,ej,aG,ZB]
theorem nl{a:List (List (AW×Int))}(h:i<a.length)(c:f i=true)(r:AW):E1 a (ER (BD f i)) r=E1 a (ER f) r+Du (a.getD i []) r:=by
 obtain ⟨B,b,g⟩:=J4 h;unfold E1;rw[b,kA,kA,k7,k7,mj,mj,lW,lW]
 grind[ER,kT,HC,J2]
def wo(N:ji)(i:Nat)(x:Nd):ji:={N with nd:=N.nd.set i (Ez x),po:=x.ef.foldl Qe N.po}
theorem yE(w:(c.map gf.r).Nodup)(h:BH N=jk c a f)(g:i<a.length)(v:f i=true)(u:N.nd[i]? =some x):BH (wo N i x)=jk c a (BD f i):=by
 have l:N.nd.map FP=(List.range a.length).map (J8 (c.map gf.r) a f):=jr ji.nd h;have k:N.po.map Cv=c.map (wC (a.map ea) f):=jr ji.po h
 have b:FP x=J8 (c.map gf.r) a f i:=by
  have s:(N.nd.map FP)[i]? =some (FP x):=by rw[ς,u];rfl
  grind
 have r:x.ef=mL (c.map gf.r) (ea (a.getD i ey)):=jr Nd.ef b;have kL:i<(a.map ea).length:=by simpa using g
 have o:(a.map ea).getD i []=ea (a.getD i ey):=by rw[EC [] kL,EC ey g,kR]
 unfold BH wo jk;dsimp only
 congr 1
 .rw[List.map_set,l]
  have:FP (Ez x)=J8 (c.map gf.r) a (BD f i) i:=by
   have s:FP (Ez x)=Ez (FP x):=rfl;rw[s,b];unfold J8 Ez BD;rw[ϱ rfl]
  rw[this];refine ma λj=>?_;rw[nF]
  by_cases e:i=j
  .subst e;rw[ϱ Z,ϱ (by simpa using g),ς,m7 g];rfl
  .rw[υ e,ς,ς]
   cases hj:(List.range a.length)[j]? with
   | none=>rfl
   | some z=>
    have t:=φ.1 hj;have:z=j:=by have:=t.2;simp at this;exact this.symm
    subst this;show some _=some _;unfold J8 BD;rw[υ (λh=>e h.symm)]
 .rw[WT,k,r,cI w _ _ (cR _)];refine kT λz _=>?_;unfold wC;dsimp only;rw[nl kL v,o,Int.add_assoc]
theorem yl(a:List gf)(b:List dr)(c:Nat->Bool)(j:Nat):((jk a b c).po.getD j Ce).q=((iL a b c).po.getD j Ce).q:=by
 show ((a.map _).getD j Ce).q=((a.map _).getD j Ce).q;rw[Ψ,Ψ,ς,ς]
 cases a[j]?<;>rfl
theorem yk(h:vN c a)(b:Nat->Bool):lV (jk c a b):=by
 have f:=y2 h b
 have k:∀y∈(jk c a b).po,y.q.length<=30/\y.mi<=30/\ -1000000000000000000<=y.room/\y.room<=1000000000000000000:=λy g=>by
  obtain ⟨x,i,e⟩:=Γ.1 g;subst e;have j:=LM (a.map ea) x.r;rw[χ] at j;have o:=h.l;have s:=sW h (ER b) x.r;have r:=h.n x i;refine ⟨by show (iX _ _).length<=_;omega,by show (iX _ _).length<=_;omega,?_,?_⟩
  .show _<=x.n+E1 (a.map ea) (ER b) x.r;omega
  .show x.n+E1 (a.map ea) (ER b) x.r<=_;omega
 refine ⟨f.i,f.a,f.l,f.e,λx i e l=>?_,λy g=>?_,λy g=>(k y g).2.2,?_,λy g=>?_⟩
 .rw[yl];exact f.p x i e l
 .grind
 .have j:=f.n
  grind[jk,iL]
 grind
theorem rA(h:BH N=jk c a f)(k:N.nd[i]? =some x):i<a.length/\x.on=f i/\x.it=a.getD i ey:=by
 have b:(N.nd.map FP)[i]? =some (FP x):=by rw[ς,k];rfl
 rw[show N.nd.map FP=(List.range a.length).map (J8 (c.map gf.r) a f) from jr ji.nd h] at b;have g:i<a.length:=by have:=(φ.1 b).1;simpa using this
 rw[ς,m7 g] at b;have j:FP x=J8 (c.map gf.r) a f i:=(Option.some.inj b).symm;exact ⟨g,jr Nd.on j,jr Nd.it j⟩
theorem s0(h:BH N=jk c a f):N.nd.length=a.length:=by grind[χ,BH,jk]
theorem s4(h:BH N=jk c a f):Bh N=a.map dr.id:=by
 rw[<-IC,h];exact QN c a f
def FT(ros:List gf)(its:List dr)(on:Nat->Bool):Option Nat:=(List.range its.length).findIdx? (Ka (jk ros its on))
def MV(ros:List gf)(its:List dr):Nat->(Nat->Bool)->List Int
 | 0,_=> []
 | f+1,on=>match FT ros its on with
  | none=> []
  | some i=>(its.getD i ey).id::MV ros its f (BD on i)
def Bp(p:iB):List Int:=MV (j8 p) (hY p) (hY p).length λ_=>true
theorem In(h:FT c a f=some i):i<a.length/\f i=true/\Ka (jk c a f) i=true:=by grind[FT,List.findIdx?_eq_some_iff_getElem,Ka,jk,J8]
theorem Fb{b:Nat}(h:FT c a f=none):MV c a b f=[]:=by
 cases b with
 | zero=>rfl
 | succ b=>unfold MV;rw[h]
theorem HD{b:List gf}{a:List dr}{f:Nat}{c:Nat->Bool}{i:Nat}(h:FT b a c=some i):MV b a (f+1) c=(a.getD i ey).id::MV b a f (BD c i):=by
 show (match FT b a c with | none=>_ | some i=>_)=_;rw[h]
def RJ(po:List Po)(b:Int):Prop:=∀y∈po,-b<=y.room/\y.room<=b
theorem aZ{b c:Int}(h:RJ t b)(g:b<=c)(f: -c<=B.room/\B.room<=c):RJ (t.set A B) c:=λz a=>by
 rcases nC a with a | rfl
 .have:=h z a;omega
 .exact f
theorem V3(p:iB)(hf:CY p)(hE:Ad p=0):AI prog 43 [.d (BM p)] (.tup [.sl none ((Bp p).map AE),AE 0]):=by
 have H:=WM p hf hE;have v:=Y1 hf hE;unfold Bp;rw[fb,<-fe] at H
 obtain ⟨a,hits⟩:∃a,hY p=a:=⟨_,Z⟩
 obtain ⟨c,W⟩:∃c,j8 p=c:=⟨_,Z⟩
 rw[hits,W] at H v⊢;have hl:=v.l;refine Av func43 Z Z ntmps43 Z Z Z λF hF=>?_;refine AD (AF (V (Ba 1 Z Z Z Z Z Z Z) (AB Z Z (AB Z Z (AC (AD (AF (J (Ar Z Z CG Z Z Z) ?_))))))));refine Cy (Zi H Z [40,50,51] ⟨Z,Z,Z,trivial⟩ Z Z Z Z (λr H' ⟨_,_,_,_,_,_,_,e1,e2,_⟩=>by subst e1 e2;exact ⟨Z,Z,Z⟩) Z) Z ?_;rintro _ ⟨r,H',⟨L,O,A,pb,N,M,bs,rfl,rfl,t,u⟩,rfl⟩;refine cl Z Z (J (DI Z Z Z) (J (DI Z Z Z) (V (CF 920 vY Z Z Z Z) (V (Bc Z Z Z Z Z Z Z vl) (AB Z Z (AC ?_))))));refine AD (AD (AF (cl Z Z (J (DP Z Z Z) (AC (Cr Z (Z) (AU (AD ?_))))))));rw[s4 u];refine AF (AB Z Z (AC (AX (IY 6 900 Ap Z Z Z Z (BC (α:=(Nat->Bool)×ji×MF×List Int×Nat) (λq=>⟨66,[(4,(.ptr 920 0 0)),(6,(.own 900 0 q.2.2.2.1.length))],(900,[.rowD 3 1 (q.2.2.2.1.map AE)])::HG L O bs (Ga A (a.map dr.id)) q.2.2.1⟩) (λq=>Cb L O A pb q.2.1 q.2.2.1/\BH q.2.1=jk c a q.1/\EY a.length q.1<=q.2.2.2.2/\q.2.2.2.1.length+q.2.2.2.2<=a.length/\q.2.2.2.1++MV c a q.2.2.2.2 q.1=MV c a a.length λ_=>true) (λq=>q.2.2.2.2) ((λ_=>true,N,M,[],a.length)) (⟨t,u,i7 _ _,by simp,Z⟩) (AR hF [900,920,40,50,51] Z Z ⟨Z,Z,trivial⟩) ?_)))));rintro ⟨K,N,M,l,f⟩ ⟨t,u,hc,hal,w⟩;dsimp only at t u hc hal w⊢;refine AX (AD ?_);have hw:=sU (N:=N) (by rw[u];exact yk v K);have T:=t.w;have hnr:B1 M N.nh en 1 ((List.range N.nd.length).map λi=>B5 (A i)):=t.rs.1 .n;have z:=uE bs t hw;have hNl:=s0 u;have hixv:QR (Ka N) (List.range N.nd.length)=match FT c a K with | some k=>(k:Int) | none=> -1:=by rw[<-gj,u,s0 u];rfl
 rw[s4 u,hixv] at z;refine AF (J (AQ Z Z Z Yl Z) (J (EB Z Z) (J (Cs Z Jj Z Z Z) (J (Eh (f:=40) Z Z (T) Z HO Z) (J (ut Z Z) ?_)))))
 cases hne:FT c a K<;>rw[hne] at z
 .refine V (F8 z Z [920,40,50,51] ⟨Z,Z,Z,Z,trivial⟩ Z Z Z Z Z Z Z Z Z) (AB Z Z ?_);refine AC (AD (AD (AF (cl Z Z (J (At Z Z Z) (AC (CM Z (Z) (AD ?_))))))));rw[Fb hne,kZ] at w;refine Fi (emb:=AE) 6 900 l Z Z Z Z Z Z Z (AF (cl Z Z (AB Z Z (AB Z Z (AC (A5 ?_))))));exact ⟨_,[],[],A2 Z,Z,Z,by rw[w],Z⟩
 .refine V (F8 z Z [920,40,50,51] ⟨Z,Z,Z,Z,trivial⟩ Z Z Z Z Z Z Z Z Z) (AB Z Z (AC ?_));refine AD (AD (AF (cl Z Z (J (At Z Z Z) (AC (Cr Z ((kD (by show ¬((_:Nat):Int)<0;omega))) (AU (AD ?_))))))))
  rename_i i
  obtain ⟨G,hoi,hgr⟩:=In hne;have g:i<N.nd.length:=by rw[hNl];exact G
  obtain ⟨x,C⟩:∃x,N.nd[i]? =some x:=⟨_,ω g⟩
  obtain ⟨_,hon,hit⟩:=rA u C;obtain ⟨rb,rc,X⟩:=Wb hnr (j:=i) (by rw[kj];exact g);have U:=Tq hnr X;have hcn:=HY G hoi
  obtain ⟨f2,rfl⟩:∃f2,f=f2+1:=⟨f-1,by omega⟩
  have hrs:=HD (f:=f2) hne;have B:=ϖ C;have hxb:=(t.nn i x C).1;have hez:=WZ (t.nn i x C).2.1;have hrx:=(t.nn i x C).2.1;have hxe:=t.e x B;have h1:=t.setNd (x':=Ez x) C Z Z Z Z;have S:(N.nd.set i (Ez x))[i]? =some (Ez x):=by rw[List.getElem?_set_self g]
  have he:=hw.e x B;have hel:=(hw.l x B).1;have hrB:RJ N.po 1000000000000000000:=hw.rm;refine AF (J (AQ Z Z Z Yl Z) (J (EB Z Z) (J (Cs Z Jj Z Z Z) (J (Eh (f:=40) Z Z (T) Z HO Z) (cl Z Z (J (Xz X (i) Z Z Z g S1 NQ Z) (J (qq (f:=40) (e:=i) (off:=0) Z (by omega) Z (U) ((by rw[ς,m7 g];rfl)) Z PN Z) ?_)))))));refine AB Z Z (AC (AD ?_));refine AF (cl Z Z (J (EB Z Z) (J (Cs Z F6 Z Z Z) (V (Qh (f:=40) Z Z Z Z (hxb) ((by show _<9;omega)) Z vc) (AC (AD (AD (AF ?_))))))));refine cl Z Z (J (EB Z Z) (J (Cs Z Lg Z Z Z) (J (Eh (f:=40) Z Z ((Fj _ _ _)) Z Yi Z) (J (Xv hez Z underlying181 Z) (cl Z Z (AC (AX (BC (α:=Nat×List Po×MF) (λq=>⟨66,[(4,(.ptr 920 0 0)),(6,(.own 900 0 l.length)),(8,(.d (pD (A i) 0))),(41,(.d (jj x.eh x.ef.length))),(42,(.d (AE (x.ef.length:Int)))),(43,(.d (AE (q.1:Int))))],(900,[.rowD 3 1 (l.map AE)])::HG L O bs (Ga A (a.map dr.id)) q.2.2⟩) (λq=>q.1<=x.ef.length/\q.2.1=(x.ef.take q.1).foldl Qe N.po/\Cb L O A pb {N with nd:=N.nd.set i (Ez x),po:=q.2.1} q.2.2/\RJ q.2.1 (1000000000000000000+100000000000000000*(q.1:Int))/\q.2.1.length=N.po.length) (λq=>x.ef.length-q.1) ((0,N.po,Bf M (A i) (W8 (Ez x)))) (⟨κ _,Z,h1,by show RJ N.po (1000000000000000000+100000000000000000*((0:Nat):Int));simpa using hrB,Z⟩) (AR hF [900,920,40,50,51] Z Z ⟨Z,Z,Z,Z,Z,Z,trivial⟩) ?_))))))));rintro ⟨k,po,M2⟩ ⟨hk0,E,b,hS,s⟩;dsimp only at hk0 E b hS s⊢;refine AD (AF (J (At Z Z Z) (AC (AD (A4 Z (λI=>?_) (λI=>?_))))))
  .have o:k<x.ef.length:=BG I;refine AU (AD (AX (AD ?_)));obtain ⟨eb,ec,hee⟩:=Wb hrx o;have D:=Tq (b.nn i (Ez x) S).2.1 hee;have hjl:x.ef[k].1<po.length:=by rw[s];exact hxe.1 _ (ϑ o)
   obtain ⟨y,hy⟩:∃y,po[x.ef[k].1]? =some y:=⟨_,ω hjl⟩
   have Q:=b.p _ y hy;have hys:=hS y (ϖ hy);have heb:=he _ (ϑ o);refine AF ?_;refine J (Xz hee (k) Z Z Z o underlying181 UG Z) (J (E4 (f:=40) (e:=k) Z (Z) Z (D) (AP o) Z dt Z) (V (CF 2 c8 Z Z Z Z) (V (Bc Z Z Z Z Z Z Z UG) (AC (Bm [[],[0],[0,1],[0,1,2],[0,1,2,3],[],[5],rg 7,rg 8,rg 9,rg 10] mixed Z (BY (AK [10] Z (AL Z TP Z Z Z) (A1 [47] [2] Z Z (λ_=>A9 (AQ Z Z Z cj Z)) ?_))))))));refine AK [48] Z (EB Z Z) (AK [49] Z (Cs Z TN Z Z Z) (A1 [50] [40] Z Z (λ_=>A9 (Eh (f:=40) Z Z (Q) Z FK Z)) (AK [10] Z (AL Z TO Z Z Z) (A1 [52] [2] Z Z (λ_=>A9 (AQ Z Z Z FK Z)) (BR 7 Z Z Z (AZ 8 Z Z (J (Ac Z Z (Ξ _ (by omega)) Z) (AC ⟨Z,?_⟩))))))));refine AZ 9 Z Z (J (EB Z Z) (AC ⟨Z,?_⟩));refine AZ 10 Z Z (J (Cs Z TN Z Z Z) (AC ⟨Z,?_⟩));refine AZ 11 Z Z (V (Qh (f:=40) Z Z Z Z (Q) ((by show _<10;omega)) Z x5) (AC ⟨Z,?_⟩));refine Bb (AF (J (Ac Z Z (AJ (k+1) (by omega)) Z) (cl Z Z (AC ?_))));exact ⟨(k+1,po.set x.ef[k].1 {y with room:=y.room+x.ef[k].2},Bf M2 (pb x.ef[k].1) (W6 {y with room:=y.room+x.ef[k].2})),⟨by show k+1<=_;omega,by show po.set _ _=_;rw[Mt o,<-E,qa hy],b.setPo hy Z Z,by show RJ _ (1000000000000000000+100000000000000000*((k+1:Nat):Int));exact aZ hS (by omega) (by show _<=y.room+x.ef[k].2/\y.room+x.ef[k].2<=_;omega),by show (po.set _ _).length=_;rw[kq];exact s⟩,by show x.ef.length-(k+1)<x.ef.length-k;omega,AR hF [900,920,40,50,51] Z (Z) ⟨Z,Z,Z,Z,Z,Z,trivial⟩⟩
  .refine Aq ?_;have Y:po=x.ef.foldl Qe N.po:=by rw[E,ζ (by have h:=I;omega)]
   have hR2:Cb L O A pb (wo N i x) M2:=by unfold wo;rw[<-Y];exact b
   have R:=(b.nn i (Ez x) S).1;refine AF (cl Z Z ?_);refine cl Z Z (J (EB Z Z) (J (Cs Z G6 Z Z Z) (J (Cs Z QU Z Z Z) (J (Eh (f:=40) Z Z (R) Z Ag Z) (V (CB 3 Ap Z Z Z Z Z Z Z Z) (V (DQ (l) ([x.it.id]) Z Z Z Z Z Z Z Z Ap (by simp only[η];omega) Z Z Z Z) (AB Z Z (AC ?_))))))));exact ⟨(BD K i,wo N i x,M2,l++ [x.it.id],f2),⟨hR2,yE v.r u G hoi C,by show EY a.length (BD K i)<=f2;omega,by show (l++ [x.it.id]).length+f2<=_;rw[Δ];simp;omega,by show (l++ [x.it.id])++MV c a f2 (BD K i)=_;rw[lm,<-w,hrs,hit];rfl⟩,by show f2<f2+1;omega,AR hF [900,920,40,50,51] Z (Z) ⟨Z,Z,trivial⟩⟩
def WU(a:List UInt8):W3:=⟨a,0,[67,65,83,72]⟩
def Q1(id:Int)(a b:List UInt8)(n:Int):dr:=⟨id,0,id,[⟨WU a,0-n⟩,⟨WU b,n⟩],[],[]⟩
deriving instance DecidableEq for I1
theorem I1.eq_iff{x y:I1}:x=y↔x.id=y.id/\x.re=y.re/\x.r=y.r/\x.by_=y.by_:=by cases x;cases y;simp
def oO(a:UInt8):AW:=⟨0,WU [a],[],[]⟩
def w2:List (List UInt8):=[[65],[66],[67]]
def Se:List gf:=[⟨oO 65,0⟩,⟨oO 66,0⟩,⟨oO 67,0⟩]
theorem wz(a:List gf)(b:List dr)(c:Nat->Bool):BH (iL a b c)=iL a b c:=by
 unfold BH iL;dsimp only;rw[jy,jy]
 rfl
theorem SG(n:Nat):EY n (λ_=>true)=n:=by
 unfold EY;rw[rE.2 λ_ _=>rfl,kj]
theorem oD(u:(a.map dr.id).Nodup):∀(f:Nat) (b:Nat->Bool),(FG c a f b).1.length+EY a.length (FG c a f b).2=EY a.length b:=by
 intro f
 induction f with
 | zero=>intro b;show 0+_=_;rw[lY];rfl
 | succ f s=>
  intro b
  cases hn:Dl (iL c a b) with
  | none=>rw[Kz hn];show 0+_=_;rw[lY]
  | some e=>
   obtain ⟨i,x,t,j,o⟩:=OK hn;obtain ⟨g,h,k⟩:=ME (wz c a b) t;rw[j] at h;have l:i<(a.map dr.id).length:=by rw[χ];exact g
   have r:(a.map dr.id)[i]=e.id:=by rw[o,k,kR,EC ey g]
   rw[Kx hn,<-r,Fe u l];have w:=s (BD b i);have v:=HY g h.symm;show (FG c a f (BD b i)).1.length+1+EY a.length (FG c a f (BD b i)).2=EY a.length b;omega
theorem bL(p:iB):(gg p).length=EY (hY p).length (JD p).2:=by
 unfold gg BU EY;rw[χ]
theorem hZ(a:Ad g=0):(JD g).1.length+(gg g).length=g.it.length:=by grind[hY,oD,En,SG,bL,JD,O2]
theorem Hn(a:Ad g=0):gg g=((hY g).map dr.id).filter λx=>decide (x∈gg g):=Sm (En a) _
theorem Rj(b:Ad g=0)(a:z∈gg g):z∈g.it.map dr.id:=by grind[hY,Hn,KI]
theorem G3(a:Ad g=0):(gg g).Nodup:=by
 rw[Hn a];exact (En a).sublist lp
theorem Ec(a:Ad g=0):(gg g).length<=g.it.length:=by have:=hZ a;omega
theorem vL{c b:Type}(f:c->b)(q:b->Bool):∀l:List c,(l.map f).filter q=(l.filter λa=>q (f a)).map f
 | []=>rfl
 | a::l=>by
  rw[k7,lg,lg,vL f q l]
  split<;>rfl
theorem Ir{b:Type}{f g:b->Int}:∀{l:List b},(∀x∈l,f x=g x)->(l.map f).sum=(l.map g).sum
 | [],_=>rfl
 | a::l,h=>by
  rw[k7,k7,lW,lW,h a k8,Ir λx c=>h x (kx _ c)]
structure QP (R:Int->Int->Prop) (l Y:List gf):Prop where
 len:Y.length=l.length
 at_:∀(j:Nat) x y,l[j]? =some x->Y[j]? =some y->y.r=x.r/\ -4*Mx<=y.n/\y.n<=4*Mx/\R x.n y.n
theorem QP.start(h:∀o∈j,-4*Mx<=o.n/\o.n<=4*Mx/\R o.n o.n):QP R j j:=
 ⟨Z,λa x y c b=>by
  rw[c] at b;injection b with b;subst b
  have:=h x (ϖ c)
  exact ⟨Z,this⟩⟩
theorem QP.set(h:QP R j Y)(g:y<Y.length){n:Int}(i: -4*Mx<=n/\n<=4*Mx)(o:∀x,R x Y[y].n->R x n):QP R j (Y.set y ⟨Y[y].r,n⟩):=
 ⟨by rw[kq];exact h.len,λb x a f c=>by
  rw[nF] at c
  split at c
  .rename_i e;subst e
   first | (rw[ϱ g] at c;injection c with c;subst c) | (injection c with c;subst c)
   have:=h.at_ y x _ f (ω g);exact ⟨this.1,i.1,i.2,o _ this.2.2.2⟩
  .exact h.at_ b x a f c⟩
theorem QP.map(h:QP R j Y):Y.map gf.r=j.map gf.r:=by
 refine ld (by rw[χ,χ,h.len]) λa c b=>?_;rw[χ] at c b;rw[kR,kR];exact (h.at_ a _ _ (ω b) (ω c)).1
theorem QP.mem(h:QP R j Y):∀y∈Y,∃x∈j,y.r=x.r/\ -4*Mx<=y.n/\y.n<=4*Mx/\R x.n y.n:=λy f=>by
 obtain ⟨a,c,rfl⟩:=mE.1 f;have b:a<j.length:=by rw[<-h.len];exact c
 exact ⟨j[a],ϑ b,h.at_ a _ _ (ω b) (ω c)⟩
theorem QP.b(h:QP R j Y)(a:y<Y.length): -4000000000000000<=Y[y].n/\Y[y].n<=4000000000000000:=by
 obtain ⟨x,_,_,c,b,_⟩:=h.mem _ (ϑ a)
 grind
theorem Uz(b:h.Nodup)(c:A<h.length):h[A]∉h.take A:=λa=>by
 obtain ⟨i,f,e⟩:=nD.1 a;rw[List.Nodup,lc] at b;exact b i A (by omega) c (by omega) e
theorem QL:Nu k=0↔(∀x∈k.af,(0<=x/\x<=1000000000)/\x≠k.id)/\k.af.Nodup:=by
 unfold Nu;rw[Tr]
 constructor
 .intro h
  have f:∀c (g:c<k.af.length),(0<=k.af[c]/\k.af[c]<=1000000000)/\k.af[c]≠k.id/\k.af[c]∉k.af.take c:=λc g=>by
   have:=h c (Ω.2 g)
   grind[NK]
  refine ⟨λx j=>?_,?_⟩
  .obtain ⟨c,g,rfl⟩:=mE.1 j
   grind
  .rw[List.Nodup,lc];intro a b r l o e;exact (f b l).2.2 (nD.2 ⟨a,by omega,e⟩)
 grind[ϑ,NK,Uz]
theorem Td(l:List Int)(h:Az k=0):Az (GZ l k)=0:=by
 obtain ⟨a,y,w,v,r,o,j,g,f⟩:=FD h
 have c:Nu (GZ l k)=0:=by
  obtain ⟨t,s⟩:=QL.1 j;exact QL.2 ⟨λx b=>t x (Φ.1 b).1,List.Nodup.sublist lp s⟩
 have u:(Q9 l k.af).length<=k.af.length:=lB _ _;have B:=a.po;have A:=a.pa;have z:=a.af;unfold Az;rw[υ (by show ¬(¬(0<=k.id/\k.id<=1000000000)\/¬(0<=k.sq/\k.sq<=1000000000)\/¬(0<=k.pr/\k.pr<=2));omega),υ (by show ¬(256<k.po.length\/256<k.pa.length\/256<(Q9 l k.af).length);omega)];show BP [Fy k,LG k,Nu (GZ l k),Lz k,NG k]=0;rw[r,o,c,g,f];rfl
theorem XW{j:dr}:j∈EI h a↔∃i∈a,i.id∉h/\GZ h i=j:=by grind[EI,Jv]
theorem Wv(l:List Int)(a:List dr):(EI l a).map dr.id=(a.map dr.id).filter λx=>!decide (x∈l):=by
 unfold EI;rw[jy,vL];rfl
theorem Wu(l:List Int)(a:List dr):(EI l a).map dr.sq=(a.filter λi=>!Jv l i).map dr.sq:=by
 unfold EI;rw[jy];rfl
theorem Gi{x:Int}:x∈(EI h a).map dr.id↔x∈a.map dr.id/\x∉h:=by
 rw[Wv,Φ];simp
def sP(p:iB)(l:List Int):iB:=⟨Jr p l,EI l p.it⟩
theorem VU(c:Ad g=0)(b:z∈(sP g h).it.map dr.id):hG (sP g h) z=GZ h (hG g z):=by
 have f:=Xy (HZ c).2.1;obtain ⟨o,_,r,w⟩:=Zf b
 have j:hG (sP g h) z∈EI h g.it:=by
  rw[r];exact ϑ o
 obtain ⟨i,s,_,v⟩:=XW.1 j;have a:z∈g.it.map dr.id:=(Gi.1 b).1;obtain ⟨k,_,u,t⟩:=Zf a
 grind[OR,ϑ,GZ]
theorem Kh(l:List Int)(h:Az k=0)(r:AW):BN (GZ l k) r=BN k r:=by
 unfold BN;rw[Td l h,h];rfl
theorem Y0(l:List Int)(a:Ad g=0):fl (sP g l).it=((fl g.it).filter λi=>!Jv l i).map (GZ l):=by
 have b:=(HZ a).2.1;refine (Sl ?_ ?_ ?_).symm
 .show ((EI l g.it).map dr.sq).Nodup;rw[Wu];exact List.Nodup.sublist (List.filter_sublist.map _) (Iv b)
 .exact ((KI g.it).filter _).map _
 .rw[lA];exact (List.Pairwise.sublist lp (Ku g.it)).imp λh=>h
theorem oQ(l:List Int)(b:Ad g=0)(r:AW):iC (fl (sP g l).it) r=(iC (fl g.it) r).filter λx=>!decide (x∈l):=by
 rw[Y0 l b];unfold iC;rw[vL,jy,vL,List.filter_filter,List.filter_filter];have a:(dr.id∘GZ l)=dr.id:=rfl;rw[a]
 congr 1
 refine l5 λi f=>?_;have c:i∈g.it:=(KI g.it).mem_iff.1 f;rw[Kh l (G4 (HZ b).2.1 i c)];exact Bool.and_comm _ _
def lx(i:Int)(q:List Int):List Int:=if i∈q then q.takeWhile λa=>decide (a≠i) else []
theorem Z8{id:Int}:B7 g h id=none↔(∀x∈g.ro,∀a∈lx id (iC (fl g.it) x.r),a∈h)/\∀a∈(hG g id).af,a∈h:=by grind[kH,lx,qn,B7,Option.map_eq_none_iff]
theorem gy:D0 g h↔(∀id∈h,(∀x∈g.ro,∀a∈lx id (iC (fl g.it) x.r),a∈h)/\∀a∈(hG g id).af,a∈h)/\∀x∈g.ro,0<=CO g.it x h:=by
 unfold D0;exact ⟨λb=>⟨λid c=>Z8.1 (b.1 id c),λx f=>by have:=b.2 x f;omega⟩,λb=>⟨λid c=>Z8.2 (b.1 id c),λx f=>by have:=b.2 x f;omega⟩⟩
theorem UH(u S:List Int)(k:∀x∈S,x∉u)(f:dr->Int):∀b:List dr,((b.filter λi=>decide (i.id∈u++S)).map f).sum=((b.filter λi=>decide (i.id∈u)).map f).sum+((b.filter λi=>!decide (i.id∈u) && decide (i.id∈S)).map f).sum
 | []=>rfl
 | a::l=>by
  have j:=UH u S k f l;rw[lg,lg,lg]
  by_cases c:a.id∈u
  .rw[Υ (show a.id∈u++S from ν.2 (.inl c)),Υ c];simp only[if_true,Bool.not_true,Bool.false_and,Bool.false_eq_true,if_false,k7,lW];omega
  .by_cases g:a.id∈S
   .rw[Υ (show a.id∈u++S from ν.2 (.inr g)),kD c,Υ g];simp only[if_true,Bool.not_false,Bool.true_and,Bool.false_eq_true,if_false,k7,lW];omega
   .rw[kD (show ¬a.id∈u++S from λh=>(ν.1 h).elim c g),kD c,kD g];simp only[Bool.not_false,Bool.and_false,Bool.false_eq_true,if_false];exact j
theorem Vq(b:Ad g=0)(c:k∈g.it){r:AW}(a:Bs r=0):BN k r=Ai (jt k) r:=by
 unfold BN;rw[ϱ ⟨G4 (HZ b).2.1 k c,a⟩]
section
variable{P:Program}{F:Fr}{s:AS}{d:Nat}{ty:TypeId}{pos:String}{aft:Array Edge}{g:Option (Nat×Bool)}{at_:Array TypeId}
end
variable{a:List dr}{c:iB}{f:List gf}{g:Nat->Bool}{u:List Int}{i:Nat}{G:List Int}{h:Bool}{j k:List Int}{o:Nat}{s:Type}{t:List s}{w:iB}{x:Nat}{y:gf}{z:Int}
def jh(p:iB):List Int:=(fl p.it).map dr.id
def nX(id:Int)(y:dr):dr:=⟨y.id,y.pr,y.sq,y.po,y.pa,BS y.af id⟩
def EJ(id:Int)(its:List dr):List dr:=(its.filter λy=>decide (y.id≠id)).map (nX id)
def Sd(p:iB)(id:Int):iB:=⟨p.ro.map λx=>⟨x.r,x.n+BN (hG p id) x.r⟩,EJ id p.it⟩
theorem Oq{id:Int}(b:x<a.length):EJ id (a.take (x+1))=EJ id (a.take x)++if a[x].id=id then [] else [nX id a[x]]:=by grind[EJ,cT]
theorem Qy(id:Int)(a:List dr):(EJ id a).length<=a.length:=by
 unfold EJ
 grind
theorem n5{b:Type}{f:s->b}(c:x<t.length){a:List b}(h:a=(t.take x).map f):a++ [f t[x]]=(t.take (x+1)).map f:=by
 rw[ψ c,kA,h];rfl
theorem sz(p:iB)(A:CY p)(D:∀x∈p.ro,-100000000000000000<=x.n/\x.n<=100000000000000000)(id:Int)(E:id∈p.it.map dr.id):AI prog 56 [.d (BM p),.d (AE id)] (BM (Sd p id)):=by
 have N:=A.i;have M:=A.r;obtain ⟨t,G,u,I⟩:=Zf E;have v:=Pg p id (by omega);rw[G] at v;have B:hG p id∈p.it:=by rw[u];exact ϑ t
 have s:(p.it.map Ah)[List.idxOf id (p.it.map dr.id)]? =some (Ah (hG p id)):=by rw[AP t,u]
 have C:=A.x _ B;have o:Sd p id=⟨p.ro.map λx=>⟨x.r,x.n+BN (hG p id) x.r⟩,EJ id p.it⟩:=rfl;rw[o]
 obtain ⟨X,Q⟩:∃X,hG p id=X:=⟨_,Z⟩
 rw[Q] at s C⊢;refine Av func56 Z Z ntmps56 Z Z Z λF z=>(AD (AF ?_));refine V (Ba 1 Z Z Z Z Z Z Z) (V (CF 2 vR Z Z Z Z) (AC (AD (Bm [[],[0],[],[],[2,3],rg 5,rg 6,[],rg 8] mixed Z (BY (AK [2] Z (AL Z JS Z Z Z) (A1 [10] [1] Z Z (λ_=>A9 (AQ Z Z Z DE Z)) (A1 [2] [1] Z Z (λ_=>A9 (Ar Z Z Bx Z Z Z)) ?_))))))));refine A7 1 Z Z (AK [12,13] Z (Ak (v) Z Z) (AK [11,14] Z (Al (List.idxOf id (p.it.map dr.id)) Z Z (Z) (s) No Z CP Z) (AK [15] Z (CT Z Z Ev Z) (Cq [] [3] [(5,_)] Z Z (λ_=>Cd (CF 3 Tt Z Z Z Z)) (.inr ⟨5,_,Z,Z,Z,Z,Z⟩) Z Z Z Z Z (BR 8 Z Z Z (AZ 9 Z Z (V (Bc Z Z Z Z Z Z Z CP) (AC ⟨Z,?_⟩))))))));refine Bb (AD (AF (V (CF 4 vR Z Z Z Z) ?_)));refine AC (AD (AD (D3 4 0 0 901 Fv Z Z Z Z Z Z Z (AF (AB Z Z (AC (AX (BC (α:=Nat×List gf) (λq=>⟨79,[(1,.d (AE id)),(2,(.ptr 1 0 0)),(4,(.ptr 2 0 0)),(5,(.ptr 3 0 0)),(6,(.ptr 4 0 0)),(7,(.d (AE (q.1:Int))))],[(901,[.rowD 100 7 (q.2.map BT)]),(1,[B3 25 p]),(2,[.blk 25 [Gg,Gg]]),(3,[pA 93 X]),(4,[.blk 25 [.own 901 0 q.2.length,Gg]])]⟩) (λq=>q.1<=p.ro.length/\q.2=(p.ro.take q.1).map λx=>⟨x.r,x.n+BN X x.r⟩) (λq=>p.ro.length-q.1) ((0,[])) (⟨κ _,Z⟩) (AR z [901,1,2,3,4] Z Z ⟨Z,Z,Z,Z,Z,Z,trivial⟩) ?_))))))));rintro ⟨k,b⟩ ⟨g,c⟩;dsimp only at g c⊢;refine AD ?_;refine AD (AF (cl Z Z (J (AL Z Kj Z Z Z) (J (AQ Z Z Z Dy Z) (J (BW Z F0 Z) (J (At Z Z Z) (AC (A4 Z (λl=>?_) (λl=>?_)))))))))
 .have a:k<p.ro.length:=BG l;refine AU (AD (AX ?_));have H:b.length<=100:=by rw[c,χ,θ];omega
  have O:=Ls X p.ro[k].r;have K:=D _ (ϑ a);refine Bm [[],[0],[],[2],[],[2,3,4],[2,3,4,5],[2,3,4,5,6],[],[8],[],[8,9,10],[8,9,10,11],[8,9,10,11,12],[],[],[15],[],[15,16,17],[15,16,17,18],[15,16,17,18,19],[14,15,16,17,18,19,20],[8,9,10,11,12,13,14,15,16,17,18,19,20,21],[2,3,4,5,6,7,8,9,10,11,12,13,14,15,16,17,18,19,20,21,22],[2,3,4,5,6,7,8,9,10,11,12,13,14,15,16,17,18,19,20,21,22,23],rg 25,rg 26,rg 27] mixed Z (BY (AK [6] Z (AL Z Kj Z Z Z) (A1 [24] [4] Z Z (λ_=>A9 (AQ Z Z Z Dy Z)) ?_)));refine AK [2] Z (AL Z Kj Z Z Z) (A1 [26] [1] Z Z (λ_=>A9 (AQ Z Z Z Dy Z)) (A7 7 Z Z (AK [27,28] Z (Al (k) Z Z (Z) (AP a) F0 Z Bd Z) (AK [29] Z (Jy Z QS Z Z Z) (AK [30] Z (CT Z Z C4 Z) (AK [2] Z (AL Z Kj Z Z Z) (A1 [32] [1] Z Z (λ_=>A9 (AQ Z Z Z Dy Z)) (A7 7 Z Z ?_))))))));refine AK [33,34] Z (Al (k) Z Z (Z) (AP a) F0 Z Bd Z) (AK [35] Z (IJ Z Jl Z Z Z) (AK [36] Z (BZ Z Z FK Z) (A1 [5] [3] Z Z (λ_=>A9 (Ar Z Z Ev Z Z Z)) (AK [2] Z (AL Z Kj Z Z Z) (A1 [39] [1] Z Z (λ_=>A9 (AQ Z Z Z Dy Z)) (A7 7 Z Z (AK [40,41] Z (Al (k) Z Z (Z) (AP a) F0 Z Bd Z) (AK [42] Z (Jy Z QS Z Z Z) ?_))))))));refine AK [43] Z (CT Z Z C4 Z) (AK [38,44] Z (Ak (sQ X p.ro[k].r (by omega) (by omega) (by omega)) Z Z) (AK [37,45] Z (Ac Z Z (Ξ _ (by omega)) Z) (AK [31,46] Z (Dx v0 wP Z Z Z) (Cq [47] [50] [(48,_)] Z Z (λ_=>Cd (CB 50 Fv Z Z Z Z Z Z Z Z)) (.inr ⟨48,_,Z,Z,Z,Z,Z⟩) Z Z Z Z Z (BR 25 Z Z Z (AZ 26 Z Z (V (DQ (b) ([⟨p.ro[k].r,p.ro[k].n+BN X p.ro[k].r⟩]) Z Z Z Z Z Z Z Z Fv (by simp only[η];omega) Z Z Z Z) (AC ⟨Z,?_⟩))))))));refine AZ 27 Z Z (J (AL Z Kj Z Z Z) (AC ⟨Z,?_⟩));refine AZ 28 Z Z (V (Bc Z Z Z Z Z Z Z x4) (AC ⟨Z,?_⟩));refine Bb (AF (cl Z Z (J (Ac Z Z (AJ (k+1) (by omega)) Z) (AB Z Z (AC ?_)))));exact ⟨(k+1,b++ [⟨p.ro[k].r,p.ro[k].n+BN X p.ro[k].r⟩]),⟨by show k+1<=_;omega,n5 (f:=λx=>(⟨x.r,x.n+BN X x.r⟩:gf)) a c⟩,by show p.ro.length-(k+1)<p.ro.length-k;omega,AR z [901,1,2,3,4] Z (Z) ⟨Z,Z,Z,Z,Z,Z,trivial⟩⟩
 .refine Aq (AD (AD ?_));have w:b=p.ro.map λx=>⟨x.r,x.n+BN X x.r⟩:=by rw[c,ζ (by have h:=l;omega)]
  subst w;refine qk (ys:=(p.ro.map λx=>(⟨x.r,x.n+BN X x.r⟩:gf)).map BT) 4 0 0 901 Z Z Z (by simp) (ζ (by simp)) Z Z Z Z Z Z (D3 4 0 1 902 MR Z Z Z Z Z Z Z (AF (AB Z Z (AC (AX (BC (α:=Nat×List dr) (λq=>⟨79,[(1,.d (AE id)),(2,(.ptr 1 0 0)),(4,(.ptr 2 0 0)),(6,(.ptr 4 0 0)),(8,(.d (AE (q.1:Int))))],[(902,[.rowD 93 6 (q.2.map Ah)]),(1,[B3 25 p]),(2,[.blk 25 [Gg,Gg]]),(4,[.blk 25 [.d (.sl none ((p.ro.map λx=>(⟨x.r,x.n+BN X x.r⟩:gf)).map BT)),.own 902 0 q.2.length]])]⟩) (λq=>q.1<=p.it.length/\q.2=EJ id (p.it.take q.1)) (λq=>p.it.length-q.1) ((0,[])) (⟨κ _,Z⟩) (AR z [902,1,2,4] Z Z ⟨Z,Z,Z,Z,Z,trivial⟩) ?_))))));rintro ⟨k,b⟩ ⟨g,c⟩;dsimp only at g c⊢;refine AD ?_;refine AD (AF (cl Z Z (J (AL Z JS Z Z Z) (J (AQ Z Z Z DE Z) (J (BW Z No Z) (J (At Z Z Z) (AC (A4 Z (λj=>?_) (λj=>?_)))))))))
  .have a:k<p.it.length:=BG j;refine AU (AD (AX (AD ?_)));have H:b.length<=30:=by rw[c];have:=Qy id (p.it.take k);rw[θ] at this;omega
   have L:=A.x _ (ϑ a);refine AF (J (AL Z JS Z Z Z) (J (AQ Z Z Z DE Z) (cl Z Z (J (Al (k) Z Z (Z) (AP a) No Z CP Z) (J (CT Z Z Ev Z) (V (CF 6 Tt Z Z Z Z) (V (Bc Z Z Z Z Z Z Z CP) ?_)))))));refine AC (AD (AF (J (AL Z ST Z Z Z) (J (AQ Z Z Z Ag Z) (cl Z Z (J (DP Z Z Z) (AC (A4 Z (λi=>?_) (λi=>?_)))))))))
   .refine AD (AF (J (AL Z Tk Z Z Z) (J (AQ Z Z Z BJ Z) (cl Z Z ?_))));refine J (Ak (Ql p.it[k].af id (by omega)) Z Z) (J (AL Z Tk Z Z Z) (V (Bc Z Z Z Z Z Z Z D8) (AC (AF (J (AL Z JS Z Z Z) (J (AQ Z Z Z DE Z) (J (Ar Z Z Ev Z Z Z) (V (CB 51 MR Z Z Z Z Z Z Z Z) ?_))))))));refine V (DQ (b) ([nX id p.it[k]]) Z Z Z Z Z Z Z Z MR (by simp only[η];omega) Z Z Z Z) (J (AL Z JS Z Z Z) (V (Bc Z Z Z Z Z Z Z x3) (AC (AF (cl Z Z (J (Ac Z Z (AJ (k+1) (by omega)) Z) (AB Z Z (AC ?_))))))));exact ⟨(k+1,b++ [nX id p.it[k]]),⟨by show k+1<=_;omega,by show _=EJ id (p.it.take (k+1));rw[Oq a,υ (by simpa using i),c]⟩,by show p.it.length-(k+1)<p.it.length-k;omega,AR z [902,1,2,4] Z (Z) ⟨Z,Z,Z,Z,Z,trivial⟩⟩
   .refine AU (AF (cl Z Z (J (Ac Z Z (AJ (k+1) (by omega)) Z) (AB Z Z (AC ?_)))));exact ⟨(k+1,b),⟨by show k+1<=_;omega,by show _=EJ id (p.it.take (k+1));rw[Oq a,ϱ (by simpa using i),kZ,c]⟩,by show p.it.length-(k+1)<p.it.length-k;omega,AR z [902,1,2,4] Z (Z) ⟨Z,Z,Z,Z,Z,trivial⟩⟩
  .refine Aq (AD ?_);have y:b=EJ id p.it:=by rw[c,ζ (by have h:=j;omega)]
   subst y;refine qk (ys:=(EJ id p.it).map Ah) 4 0 1 902 Z Z Z (by simp) (ζ (by simp)) Z Z Z Z Z Z (AF (J (Ar Z Z Bx Z Z Z) (V (Bc Z Z Z Z Z Z Z vf) (AC (A5 ?_)))));exact ⟨_,[],[],A2 Z,Z,Z,Z,Z⟩
structure xM (p:iB) (b:Int):Prop where
 f:CY p
 r:(p.ro.map gf.r).Nodup
 n:∀x∈p.ro,-b<=x.n/\x.n<=b
theorem xM.set{b:Int}(h:xM c b)(id:Int):xM (Sd c id) (b+1000000000000000):=by
 refine ⟨⟨?_,?_,λx g=>?_⟩,?_,λx g=>?_⟩
 .have:=Qy id c.it;have a:=h.f.i;show (EJ id c.it).length<=30;omega
 .show (c.ro.map _).length<=100;rw[χ];exact h.f.r
 .obtain ⟨y,f,rfl⟩:=Γ.1 g;have a:=h.f.x y (Φ.1 f).1;exact ⟨a.1,a.2.1,jq (lB _ _) a.2.2⟩
 .show ((c.ro.map _).map gf.r).Nodup;rw[jy];exact h.r
 .obtain ⟨y,f,rfl⟩:=Γ.1 g;have a:=h.n y f;have i:=Ls (hG c id) y.r
  grind
noncomputable def kM:Nat->iB->List Int
 | 0,_=> []
 | f+1,p=>match (jh p).find? λid=>decide (D0 p [id]) with
  | none=> []
  | some id=>id::kM f (Sd p id)
theorem aT{id:Int}(h:id∈jh c):(jh (Sd c id)).length+1<=(jh c).length:=by
 have a:id∈c.it.map dr.id:=((KI c.it).map dr.id).mem_iff.1 h;unfold jh;rw[χ,χ,O2,O2];show (EJ id c.it).length+1<=_;unfold EJ;rw[χ];obtain ⟨y,b,e⟩:=Γ.1 a
 have g:(c.it.filter λy=>decide (y.id≠id)).length≠c.it.length:=λf=>by
  simp_all
 grind
structure GI (G:List Int) (p:iB) (acc:List Int) (f:Nat) (ag:Bool):Prop where
 m:xM p (34000000000000000-1000000000000000*(f:Int))
 l:(jh p).length<=f
 a:acc.length+f<=30
 v:(ag=true->acc++kM f p=G)/\(ag=false->acc=G)
def GJ(p:iB)(acc:List Int)(i:Nat)(p2:iB)(acc2:List Int)(ag:Bool):Prop:=
 (ag=false/\p2=p/\acc2=acc/\∀id∈(jh p).take i,¬D0 p [id])\/(ag=true/\∃id,(jh p).find? (λid=>decide (D0 p [id]))=some id/\p2=Sd p id/\acc2=acc++ [id])
theorem Na{f:Nat}(h:(jh c).find? (λid=>decide (D0 c [id]))=none):kM f c=[]:=by
 cases f with
 | zero=>rfl
 | succ f=>unfold kM;rw[h]
theorem N9{id:Int}(h:(jh c).find? (λid=>decide (D0 c [id]))=some id):kM (o+1) c=id::kM o (Sd c id):=by
 show (match (jh c).find? (λid=>decide (D0 c [id])) with | none=>_ | some id=>_)=_;rw[h]
theorem gp(a:GI G c k o true)(y:GJ c k i w j h)(b:h=true\/¬i<(jh c).length):GI G w j (if h=true then o-1 else o) h:=by
 rcases y with ⟨rfl,rfl,rfl,t⟩ | ⟨rfl,id,u,rfl,rfl⟩
 .rcases b with b | b
  .cases b
  .rw[ζ (by omega)] at t;have z:=Na (f:=o) (HS (l:=jh w) (p:=λid=>decide (D0 w [id])) λx v=>kD (t x v));have r:=a.v.1 rfl;rw[z,kZ] at r;exact ⟨a.m,a.l,a.a,⟨λe=>(by cases e),λ_=>r⟩⟩
 .have s:=List.mem_of_find?_eq_some u;have C:=a.l;have A:=aT s
  obtain ⟨g,rfl⟩:∃g,o=g+1:=⟨o-1,by omega⟩
  have r:=a.v.1 rfl;rw[N9 u] at r;have B:=a.m.set id;have D:=a.a;refine ⟨?_,?_,?_,⟨λ_=>?_,λe=>(by cases e)⟩⟩
  all_goals (grind)
theorem sv(a:i<t.length):(t.drop i).take (i+1-i)=[t[i]]:=by
 rw[show i+1-i=1 by omega,mR a];rfl
theorem uP(a:GI G c k o true)(g:GJ c k i w j h)(l:h=true):0<o:=by
 rcases g with ⟨r,_⟩ | ⟨_,id,b,_,_⟩
 .grind
 .have:=List.length_pos_of_mem (List.mem_of_find?_eq_some b);have:=a.l;omega
theorem ZP(a:GI G c k o true)(b:GJ c k i w j h):2*(if h=true then o-1 else o)+(if h=true then 1 else 0)<2*o+1:=by
 rcases Bool.eq_false_or_eq_true h with e | e
 .have:=uP a b e
  grind
 .rw[e];simp
theorem b6(p:iB)(z:xM p 4000000000000000):AI prog 16 [.d (BM p)] (.sl none ((kM 30 p).map AE)):=by
 have D:(jh p).length<=30:=by unfold jh;rw[χ,O2];exact z.f.i
 obtain ⟨G,O⟩:∃G,kM 30 p=G:=⟨_,Z⟩
 rw[O];refine Av func16 Z Z ntmps16 Z Z Z λF u=>(AD (AF (V (Ba 1 Z Z Z Z Z Z Z) (AB Z Z (AC (AD (AF (AB Z Z ?_))))))));refine AC (AD (AD (IY 3 900 Ap Z Z Z Z (AF (AB Z Z (AC (AX (BC (α:=iB×List Int×Nat×Bool) (λq=>⟨41,[(1,(.ptr 1 0 0)),(3,(.own 900 0 q.2.1.length)),(4,(.d (Aj q.2.2.2)))],[(900,[.rowD 3 1 (q.2.1.map AE)]),(1,[B3 25 q.1])]⟩) (λq=>GI G q.1 q.2.1 q.2.2.1 q.2.2.2) (λq=>2*q.2.2.1+(if q.2.2.2=true then 1 else 0)) ((p,[],30,true)) (⟨⟨z.f,z.r,λx c=>by have:=z.n x c;show -(34000000000000000-1000000000000000*((30:Nat):Int))<=x.n/\x.n<=34000000000000000-1000000000000000*((30:Nat):Int);omega⟩,D,Θ _,⟨λ_=>O,λe=>(by cases e)⟩⟩) (AR u [900,1] Z Z ⟨Z,Z,Z,trivial⟩) ?_))))))));rintro ⟨p,a,f,Q⟩ b;dsimp only at b⊢;refine AD (AD (AF (cl Z Z (AC (Jo Z (λE=>?_) (λE=>?_))))))
 .refine AU (AX (AD ?_));have o:Q=true:=by simpa using E
  subst o;have S:=b.m.f.i;have co:AI prog 54 [.d (BM p)] (.sl none ((jh p).map AE)):=R0 p (by omega);have T:=b.a;have M:=λl I H=>TR p b.m.f b.m.r (λx c=>by have:=b.m.n x c;omega) l I H;have K:=λid h=>sz p b.m.f (λx c=>by have:=b.m.n x c;omega) id h;have U:=b.l;refine AF (AB Z Z (AC (AD (AF (J (Ar Z Z Bx Z Z Z) ?_)))));refine J (Ak (co) Z Z) (AB Z Z (AC (AD (AF (AB Z Z (AC (AX (BC (α:=Nat×iB×List Int×Bool) (λq=>⟨41,[(1,(.ptr 1 0 0)),(3,(.own 900 0 q.2.2.1.length)),(4,(.d (Aj q.2.2.2))),(5,(.d (.sl none ((jh p).map AE)))),(6,(.d (AE (q.1:Int))))],[(900,[.rowD 3 1 (q.2.2.1.map AE)]),(1,[B3 25 q.2.1])]⟩) (λq=>q.1<=(jh p).length/\GJ p a q.1 q.2.1 q.2.2.1 q.2.2.2) (λq=>(jh p).length-q.1) ((0,p,a,false)) (⟨κ _,.inl ⟨Z,Z,Z,by simp⟩⟩) (AR u [900,1] Z Z ⟨Z,Z,Z,Z,Z,trivial⟩) ?_))))))));rintro ⟨i,A,j,g⟩ ⟨C,t⟩;dsimp only at C t⊢;refine AD (AD (AF (cl Z Z (cl Z Z (J (BW Z E0 Z) (J (At Z Z Z) ?_))))))
  by_cases k:i<(jh p).length
  .refine cl Z Z (DK 14 Z ((Υ (by omega))) (AT Z Z Z (cl Z Z (AT Z Z Z (J (QV Z Z) (J (B4 Z Z Z Z) (AC (Jo Z (λs=>?_) (λs=>?_)))))))))
   .refine AU (AD (AX (AD ?_)));have w:g=false:=by simpa using s
    subst w;obtain ⟨B,y,N⟩:p=A/\a=j/\∀id∈(jh p).take i,¬D0 p [id]:=by rcases t with ⟨_,I,H,W⟩ | ⟨h,_⟩;exact ⟨I.symm,H.symm,W⟩;cases h
    subst B y;have v:(jh p)[i]∈p.it.map dr.id:=((KI p.it).map dr.id).mem_iff.1 (ϑ k);have L:AI prog 55 [.d (BM p),.d (.sl none ((((jh p).drop i).take (i+1-i)).map AE))] (Aj (decide (D0 p [(jh p)[i]]))):=by rw[sv k];exact M [(jh p)[i]] (by simp) (by intro id h;rw[ξ.1 h];exact v)
    refine Bm [[],[],[],[],[3],[1,2,3,4],rg 6] mixed Z (BY (Ay [1] Z Z (λ_=>A9 (Ar Z Z Bx Z Z Z)) ?_));refine A7 5 Z Z (A7 6 Z Z (A7 6 Z Z (AK [23] Z (Ac Z Z (AJ (i+1) (by omega)) Z) (AK [21,22,24] Z (Wo ((jh p)) (i) (i+1) Z Z Z Z (Z) (Z) (by omega) (by omega) E0 BE (λ_=>rfl) Z) (BR 6 Z Z Z (AZ 7 Z Z (J (Ak (L) Z Z) (AC ⟨Z,?_⟩))))))));refine Bb (A4 Z (λr=>?_) (λr=>?_))
    .refine Bm [[],[],[],[1,2],[1,2,3],[1,2,3,4],rg 6,[],[],[],[8,9],[8,9,10],rg 12,rg 13,rg 14,rg 15] mixed Z (BY (A7 3 Z Z (A7 5 Z Z (A7 6 Z Z (AK [28,29] Z (Al (i) Z Z (Z) (AP k) E0 Z BE Z) (AK [30] Z (BZ Z Z Ag Z) (Cq [31] [50] [(32,_)] Z Z (λ_=>Cd (CB 50 Ap Z Z Z Z Z Z Z Z)) (.inr ⟨32,_,Z,Z,Z,Z,Z⟩) Z Z Z Z Z (Cq [27,32] [900,50] [(33,_)] Z Z (λ_=>Cd (DQ (a) ([(jh p)[i]]) Z Z Z Z Z Z Z Z Ap (by simp only[η];omega) Z Z Z Z)) (.inr ⟨33,_,Z,Z,Z,Z,Z⟩) Z Z Z Z Z ?_))))))));refine A1 [1] [1] Z Z (λ_=>A9 (Ar Z Z Bx Z Z Z)) (A7 5 Z Z (A7 6 Z Z (AK [35,36] Z (Al (i) Z Z (Z) (AP k) E0 Z BE Z) (AK [37] Z (BZ Z Z Ag Z) (BR 12 Z Z Z (AZ 13 Z Z (J (Ak (K _ v) Z Z) (AC ⟨Z,?_⟩))))))));refine AZ 14 Z Z (AB Z Z (AC ⟨Z,?_⟩));refine AZ 15 Z Z (V (Bc Z Z Z Z Z Z Z vf) (AC ⟨Z,?_⟩));refine AZ 16 Z Z (AB Z Z (AC ⟨Z,?_⟩));refine Bb (AF (cl Z Z (J (Ac Z Z (AJ (i+1) (by omega)) Z) (AB Z Z (AC ?_)))));exact ⟨(i+1,Sd p (jh p)[i],a++ [(jh p)[i]],true),⟨by show i+1<=_;omega,.inr ⟨Z,(jh p)[i],Jh k (λx c=>kD (N x c)) (Υ r),Z,Z⟩⟩,by show (jh p).length-(i+1)<(jh p).length-i;omega,AR u [900,1] Z (Z) ⟨Z,Z,Z,Z,Z,trivial⟩⟩
    .refine AU (AF (cl Z Z (J (Ac Z Z (AJ (i+1) (by omega)) Z) (AB Z Z (AC ?_)))));exact ⟨(i+1,p,a,false),⟨by show i+1<=_;omega,.inl ⟨Z,Z,Z,by rw[ψ k];intro x c;rcases ν.1 c with c | c;exact N x c;rw[ξ.1 c];exact r⟩⟩,by show (jh p).length-(i+1)<(jh p).length-i;omega,AR u [900,1] Z (Z) ⟨Z,Z,Z,Z,Z,trivial⟩⟩
   .refine Aq ?_;exact ⟨(A,j,(if g=true then f-1 else f),g),gp b t (.inl (by simpa using s)),ZP b t,AR u [900,1] Z (Z) ⟨Z,Z,Z,trivial⟩⟩
  .refine cl Z Z (Il 14 Z ((kD (by omega))) (AN Z Z Z Z (AN Z Z Z Z (J (Br Z Z Z Z) (AC (Cr Z Z (Aq ?_)))))));exact ⟨(A,j,(if g=true then f-1 else f),g),gp b t (.inr k),ZP b t,AR u [900,1] Z (Z) ⟨Z,Z,Z,trivial⟩⟩
 .refine Aq (AD ?_);have o:Q=false:=by simpa using E
  have R:=b.v.2 o;refine Fi (emb:=AE) 3 900 a Z Z Z Z Z Z Z (AF (cl Z Z (AB Z Z (AC (A5 ?_)))));exact ⟨_,[],[],A2 Z,Z,Z,by rw[R],Z⟩
theorem cE{N:ji}{x:Nd}:DN N x=true↔(∀e∈x.pl,W7 N e=false)/\(∀a∈x.it.af,je N a=true)/\∀e∈x.ef,Q2 (N.po.getD e.1 Ce) e.2=false:=by
 unfold DN
 simp
theorem bx{B:List Int}:∀{A:List Int},z∉A->lx z (A++z::B)=A:=by
 intro A h;unfold lx;rw[ϱ (by simp)]
 induction A with
 | nil=>rw[kP,List.takeWhile_cons,υ (by simp)]
 | cons a A b=>
  grind[List.takeWhile_cons]
theorem jB{q:List Int}(h:z∉q):lx z q=[]:=υ h
theorem Pi(c:(a.map dr.id).Nodup){X:dr}(g:X∈a):a.filter (λy=>decide (y.id=X.id))=[X]:=by
 obtain ⟨A,B,rfl⟩:=List.append_of_mem g;rw[kA,mc,k7] at c;obtain ⟨_,f,h⟩:=c;rw[nE] at f;rw[mB,lg,ϱ (by simp)];have j:A.filter (λy=>decide (y.id=X.id))=[]:=List.filter_eq_nil_iff.2 λy b e=>h _ (Γ.2 ⟨y,b,Z⟩) _ k8 (lG e);have i:B.filter (λy=>decide (y.id=X.id))=[]:=List.filter_eq_nil_iff.2 λy b e=>f.1 (Γ.2 ⟨y,b,lG e⟩)
 grind
theorem XM(h:mZ c f a)(g:Nat->Bool)(i:y∈f):(jk f a g).po.getD ((f.map gf.r).idxOf y.r) Ce=wC (a.map ea) g y:=by
 obtain ⟨j,k,rfl⟩:=km i;have b:j<(f.map gf.r).length:=by simpa using k
 have e:(f.map gf.r).idxOf f[j].r=j:=by
  have:=Fe h.s.r b
  grind
 rw[e];show (f.map _).getD j Ce=_
 grind
def KJ(its:List dr)(on:Nat->Bool)(u:List Int):Prop:=∀j,j<its.length->(on j=true↔(its.getD j ey).id∉u)
theorem sf(h:mZ c f a)(w:KJ a g u)(r:y∈f):GS (c.it.filter (Jv u)) y.r=E1 (a.map ea) (ER g) y.r:=by
 have v:=Uk h (ER g) r;unfold CO at v;have t:((c.it.filter λi=>decide (i.id∈BU a (ER g) a.length)).map λi=>BN i y.r).sum=E1 (a.map ea) (ER g) y.r:=by omega
 rw[<-t]
 have e:c.it.filter (Jv u)=c.it.filter λi=>decide (i.id∈BU a (ER g) a.length):=l5 λb o=>by
  have l:b∈a:=by rw[<-h.hi];exact (KI c.it).mem_iff.2 o
  obtain ⟨j,s,rfl⟩:=km l;have z:=Mc h.s.i (ER g) s
  grind[Jv,ER,KJ]
 rw[e];unfold GS;refine Ir λb o=>?_;have k:=(Φ.1 o).1;exact (Vq h.e k (h.w y r)).symm
theorem uM{p:iB}{c:List gf}{b:List dr}(h:mZ p c b){f:Nat->Bool}{u:List Int}(T:KJ b f u){i:Nat}(L:i<b.length)(ho:f i=true):Ka (jk c b f) i=true↔D0 (sP p u) [(b.getD i ey).id]:=by
 obtain ⟨X,E⟩:∃X,b.getD i ey=X:=⟨_,Z⟩
 have A:X∈b:=by rw[<-E,EC ey L];exact ϑ L
 have F:X∈p.it:=by rw[<-h.hi] at A;exact (KI p.it).mem_iff.1 A
 have N:X.id∉u:=by have:=(T i L).1 ho;rwa [E] at this
 have hXq:X.id∈(sP p u).it.map dr.id:=Gi.2 ⟨Γ.2 ⟨X,F,Z⟩,N⟩
 have hiX:hG p X.id=X:=by
  obtain ⟨hk,_,g,v⟩:=Zf (p:=p) (id:=X.id) (Γ.2 ⟨_,F,Z⟩);exact OR (Xy (HZ h.e).2.1) (by rw[g];exact ϑ hk) F v
 have hiq:hG (sP p u) X.id=GZ u X:=by rw[VU h.e hXq,hiX]
 have kL:i<(b.map ea).length:=by simpa using L
 have Y:(b.map ea).getD i []=ea X:=by rw[EC [] kL,kR,<-E,EC ey L]
 have hnd:(jk c b f).nd.getD i CV=J8 (c.map gf.r) b f i:=by
  show ((List.range b.length).map _).getD i CV=_
  grind
 have D:∀j,j<b.length->kV (jk c b f) j=f j:=λj s=>by
  grind[kV,jk,J8]
 have W:∀{r:AW},Bs r=0->iC b r=(iX (b.map ea) r).map λj=>(b.getD j ey).id:=λhr=>eW h.v hr;have hpl:l7 (c.map gf.r) ((b.map ea).take i) (ea X)=(c.filter λx=>decide (Du (ea X) x.r<0)).map λx=>((c.map gf.r).idxOf x.r,(iX ((b.map ea).take i) x.r).length):=rl h _ X
 have hgr:Ka (jk c b f) i=true↔DN (jk c b f) (J8 (c.map gf.r) b f i)=true:=by
  unfold Ka;rw[hnd];show ((f i) && _)=true↔_;rw[ho,Bool.true_and]
 rw[hgr,cE,gy];have Q:(J8 (c.map gf.r) b f i).it=X:=E
 have O:(J8 (c.map gf.r) b f i).pl=(c.filter λx=>decide (Du (ea X) x.r<0)).map λx=>((c.map gf.r).idxOf x.r,(iX ((b.map ea).take i) x.r).length):=by
  rw[<-hpl,<-E];rfl
 have R:(J8 (c.map gf.r) b f i).ef=mL (c.map gf.r) (ea X):=by rw[<-E];rfl
 rw[Q,O,R,E]
 have t:∀y,y∈(sP p u).ro↔∃x∈c,y=⟨x.r,x.n+GS (p.it.filter (Jv u)) x.r⟩:=λy=>by
  show y∈Jr p u↔_;unfold Jr;rw[Γ];have I:∀x,x∈p.ro↔x∈c:=λx=>by rw[<-h.hr];exact (qn p).mem_iff.symm
  grind
 -- what stands before the item
 have hA:(∀e∈(c.filter λx=>decide (Du (ea X) x.r<0)).map (λx=>((c.map gf.r).idxOf x.r,(iX ((b.map ea).take i) x.r).length)),W7 (jk c b f) e=false)↔∀y∈(sP p u).ro,∀a∈lx X.id (iC (fl (sP p u).it) y.r),a∈ [X.id]:=by
  have C:∀x∈c,(Du (ea X) x.r<0->W7 (jk c b f) ((c.map gf.r).idxOf x.r,(iX ((b.map ea).take i) x.r).length)=false)↔∀a∈lx X.id (iC (fl (sP p u).it) x.r),a∈ [X.id]:=λx o=>by
   rw[oQ u h.e,h.hi,W (h.w x o)];obtain ⟨B,c1,c2,c3⟩:=LN kL x.r;rw[Y] at c1
   by_cases k:Du (ea X) x.r<0
   .rw[ϱ k] at c1
    have hp1:W7 (jk c b f) ((c.map gf.r).idxOf x.r,(iX ((b.map ea).take i) x.r).length)=(iX ((b.map ea).take i) x.r).any (kV (jk c b f)):=by
     unfold W7;dsimp only;rw[XM h f o];show ((iX (b.map ea) x.r).take _).any _=_;rw[c1,List.take_left']
     rfl
    have hA1:∀a∈((iX ((b.map ea).take i) x.r).map λj=>(b.getD j ey).id).filter (λz=>!decide (z∈u)),a≠X.id:=λa w e=>by
     obtain ⟨j,s,e2⟩:=Γ.1 (Φ.1 w).1;have V:=c2 j s;have:=Mn h.s.i (i:=j) (j:=i) (by omega) L (by rw[e2,e,E]);omega
    have hb:lx X.id (((iX (b.map ea) x.r).map λj=>(b.getD j ey).id).filter λz=>!decide (z∈u))=((iX ((b.map ea).take i) x.r).map λj=>(b.getD j ey).id).filter λz=>!decide (z∈u):=by
     rw[c1,kA,kA,mB,mB,List.map_singleton,E,lg,ϱ (by simpa using N),List.filter_nil,List.singleton_append];exact bx λI=>hA1 _ I rfl
    rw[hb,hp1,List.any_eq_false]
    constructor
    .intro l a w;obtain ⟨ha1,ha2⟩:=Φ.1 w;obtain ⟨j,s,rfl⟩:=Γ.1 ha1;have V:=c2 j s;have g:=l k j s;rw[D j (by omega)] at g;exact absurd ((T j (by omega)).2 (by simpa using ha2)) g
    .intro l _ j s;have V:=c2 j s;rw[D j (by omega)];intro hon;have H:(b.getD j ey).id∈((iX ((b.map ea).take i) x.r).map λj=>(b.getD j ey).id).filter (λz=>!decide (z∈u)):=Φ.2 ⟨Γ.2 ⟨j,s,Z⟩,by simpa using (T j (by omega)).1 hon⟩;exact hA1 _ H (ξ.1 (l _ H))
   .have hn:X.id∉((iX (b.map ea) x.r).map λj=>(b.getD j ey).id).filter λz=>!decide (z∈u):=λI=>by
     obtain ⟨j,s,e⟩:=Γ.1 (Φ.1 I).1;have U:=OL s;rw[χ] at U;have:=Mn h.s.i (i:=j) (j:=i) U L (by rw[e,E]);subst this;have g:=lG (Φ.1 s).2;rw[Y] at g;exact k g
    rw[jB hn];exact ⟨λ_ a w=>(by cases w),λ_ hc=>absurd hc k⟩
  constructor
  .intro l y hy;obtain ⟨x,o,rfl⟩:=(t y).1 hy;exact (C x o).1 λk=>l _ (Γ.2 ⟨x,Φ.2 ⟨o,Υ k⟩,Z⟩)
  .intro l e he;obtain ⟨x,o,rfl⟩:=Γ.1 he;obtain ⟨S,hx2⟩:=Φ.1 o;exact (C x S).2 (l ⟨x.r,x.n+GS (p.it.filter (Jv u)) x.r⟩ ((t _).2 ⟨x,S,Z⟩)) (lG hx2)
 -- what must settle before it
 have hB:(∀a∈X.af,je (jk c b f) a=true)↔∀a∈(hG (sP p u) X.id).af,a∈ [X.id]:=by
  rw[hiq]
  have G:∀a∈X.af,(je (jk c b f) a=true↔a∈u):=λa w=>by
   have I:=h.s.a _ A a w;have s:=my I;have J:=nJ s;unfold je;rw[show Bh (jk c b f)=b.map dr.id from QN c b f]
   generalize (b.map dr.id).idxOf a=j at s J⊢
   have K:j<b.length:=by simpa using s
   rw[kR] at J;have g:=T j K;rw[EC ey K,J] at g;have v:=D j K;unfold kV at v;rw[v]
   cases hoj:f j with
   | true=>simp[g.1 hoj]
   | false=>
    have:¬¬a∈u:=λhc=>by rw[g.2 hc] at hoj;cases hoj
    simp[Classical.not_not.1 this]
  constructor
  .intro l a w;obtain ⟨v,h4⟩:=Φ.1 w;have:=(G a v).1 (l a v)
   simp[vF,this] at h4
  .intro l a w;refine (G a w).2 (Classical.byContradiction λhc=>?_);have g:=l a (Φ.2 ⟨w,by simp[vF,hc]⟩);have v:=(QL.1 (FD (h.v X A)).2.2.2.2.2.2.1).1 a w;exact v.2 (ξ.1 g)
 -- what it overdraws
 have hC:(∀e∈mL (c.map gf.r) (ea X),Q2 ((jk c b f).po.getD e.1 Ce) e.2=false)↔∀y∈(sP p u).ro,0<=CO (sP p u).it y [X.id]:=by
  have C:∀x∈c,CO (sP p u).it ⟨x.r,x.n+GS (p.it.filter (Jv u)) x.r⟩ [X.id]=max (x.n+E1 (b.map ea) (ER f) x.r) 0+Du (ea X) x.r:=λx o=>by
   rw[sf h T o];unfold CO
   congr 1
   show (((EI u p.it).filter _).map _).sum=_;unfold EI;rw[vL,List.filter_filter,jy]
   have e3:p.it.filter (λa=>decide ((GZ u a).id∈ [X.id]) && !Jv u a)=[X]:=by
    rw[<-Pi (Xy (HZ h.e).2.1) F];refine l5 λy hy=>?_
    by_cases e:y.id=X.id
    .unfold Jv;show (decide (y.id∈ [X.id]) && !decide (y.id∈u))=_;rw[e,kD N];simp
    .show (decide (y.id∈ [X.id]) && _)=_;rw[kD (λI=>e (ξ.1 I)),kD e];rfl
   rw[e3];show BN (GZ u X) x.r+0=_;rw[Int.add_zero,Kh u (h.v X A),Ti (h.v X A) (h.w x o)]
  constructor
  .intro l y hy;obtain ⟨x,o,rfl⟩:=(t y).1 hy;rw[C x o]
   by_cases k:Du (ea X) x.r<0
   .have hk:x.r∈(ea X).map Prod.fst:=Classical.byContradiction λhn=>by
     have:Du (ea X) x.r=0:=EU hn;omega
    obtain ⟨d,hd,e⟩:=Γ.1 hk;have M:Du (ea X) d.1=d.2:=jT (cR X) hd;have g:=l ((c.map gf.r).idxOf d.1,d.2) (Γ.2 ⟨d,Φ.2 ⟨hd,Υ (by rw[e];exact Γ.2 ⟨x,o,Z⟩)⟩,Z⟩);dsimp only at g;rw[e] at g M;rw[XM h f o] at g;have v:=of_decide_eq_false g;unfold jL at v;have h4:¬(d.2<0/\max (x.n+E1 (b.map ea) (ER f) x.r) 0+d.2<0):=v;omega
   .omega
  .intro l e he;obtain ⟨d,hd,rfl⟩:=Γ.1 he;obtain ⟨hd1,hd2⟩:=Φ.1 hd;obtain ⟨x,o,e⟩:=Γ.1 (lG hd2);have M:Du (ea X) d.1=d.2:=jT (cR X) hd1;have g:=l _ ((t _).2 ⟨x,o,Z⟩);rw[C x o] at g;dsimp only;rw[<-e] at M⊢;rw[XM h f o];refine kD ?_;unfold jL;show ¬(d.2<0/\max (x.n+E1 (b.map ea) (ER f) x.r) 0+d.2<0);omega
 rw[hA,hB,hC]
 constructor
 .rintro ⟨l,g,v⟩;exact ⟨λid hid=>by rw[ξ.1 hid];exact ⟨l,g⟩,v⟩
 .rintro ⟨l,g⟩;have:=l X.id (List.mem_singleton_self _);exact ⟨this.1,this.2,g⟩
theorem tB(p:iB):sP p []=p:=by
 have b:Jr p []=p.ro:=by
  unfold Jr;have e:p.it.filter (Jv [])=[]:=List.filter_eq_nil_iff.2 λy _ h=>by unfold Jv at h;simp at h
  rw[e]
  conv=>rhs;rw[<-List.map_id p.ro]
  refine kT λx _=>?_;show (⟨x.r,x.n+0⟩:gf)=x;rw[Int.add_zero]
 have a:EI [] p.it=p.it:=by
  unfold EI;rw[rE.2 λy _=>by unfold Jv;simp]
  conv=>rhs;rw[<-List.map_id p.it]
  refine kT λy _=>?_;show (⟨y.id,y.pr,y.sq,y.po,y.pa,Q9 [] y.af⟩:dr)=y;rw[gL λx _=>by simp[vF]]
 unfold sP;rw[b,a]
theorem nw{id:Int}(f:Ad c=0)(g:id∈(sP c u).it.map dr.id):Sd (sP c u) id=sP c (u++ [id]):=by
 obtain ⟨o,h⟩:=Gi.1 g;obtain ⟨z,_,A,j⟩:=Zf o;have b:hG c id∈c.it:=by rw[A];exact ϑ z
 have B:((sP c u).ro.map λx=>(⟨x.r,x.n+BN (hG (sP c u) id) x.r⟩:gf))=Jr c (u++ [id]):=by
  show ((Jr c u).map _)=_;unfold Jr;rw[jy];refine kT λx t=>?_;have v:=U1 (HZ f).1 x t;show (⟨x.r,x.n+GS (c.it.filter (Jv u)) x.r+BN (hG (sP c u) id) x.r⟩:gf)=⟨x.r,x.n+GS (c.it.filter (Jv (u++ [id]))) x.r⟩
  rw[VU f g,Kh u (G4 (HZ f).2.1 _ b),Vq f b v]
  have s:GS (c.it.filter (Jv (u++ [id]))) x.r=GS (c.it.filter (Jv u)) x.r+Ai (jt (hG c id)) x.r:=by
   unfold GS;have k:=UH u [id] (λy l=>by rw[ξ.1 l];exact h) (λi=>Ai (jt i) x.r) c.it
   have r:(c.it.filter λi=>!decide (i.id∈u) && decide (i.id∈ [id]))=[hG c id]:=by
    rw[<-Pi (Xy (HZ f).2.1) b];refine l5 λy l=>?_;rw[j]
    by_cases e:y.id=id
    .rw[e,kD h];simp
    .rw[kD (λw=>e (ξ.1 w)),kD e,Bool.and_false]
   rw[r] at k;show ((c.it.filter λi=>decide (i.id∈u++ [id])).map _).sum=((c.it.filter λi=>decide (i.id∈u)).map _).sum+_;rw[k,List.map_singleton,lW,List.sum_nil,Int.add_zero]
  rw[s,Int.add_assoc]
 have k:EJ id (EI u c.it)=EI (u++ [id]) c.it:=by
  unfold EJ EI;rw[vL,List.filter_filter,jy]
  have s:c.it.filter (λa=>decide ((GZ u a).id≠id) && !Jv u a)=c.it.filter λi=>!Jv (u++ [id]) i:=l5 λy l=>by
   unfold Jv;show (decide (y.id≠id) && !decide (y.id∈u))=!decide (y.id∈u++ [id]);rw[nH]
   simp[and_comm]
  rw[s];refine kT λy _=>?_;show (⟨y.id,y.pr,y.sq,y.po,y.pa,BS (Q9 u y.af) id⟩:dr)=⟨y.id,y.pr,y.sq,y.po,y.pa,Q9 (u++ [id]) y.af⟩
  have r:BS (Q9 u y.af) id=Q9 (u++ [id]) y.af:=by
   unfold BS Q9;rw[List.filter_filter];refine l5 λx _=>?_;unfold vF;rw[nH]
   simp[and_comm]
  rw[r]
 show (⟨(sP c u).ro.map _,EJ id (sP c u).it⟩:iB)=⟨Jr c (u++ [id]),EI (u++ [id]) c.it⟩
 rw[B];show (⟨_,EJ id (EI u c.it)⟩:iB)=_;rw[k]
theorem XH(n:Nat)(g:Nat->Bool):(List.range n).findIdx? g=(List.range n).find? g:=by
 cases h:(List.range n).findIdx? g with
 | none=>
  grind
 | some i=>
  grind[List.findIdx?_eq_some_iff_getElem,Jh]
theorem tC(h:mZ c f a)(k:KJ a g u):jh (sP c u)=BU a g a.length:=by
 unfold jh BU;rw[Y0 u h.e,h.hi,jy]
 have e:a.filter (λi=>!Jv u i)=((List.range a.length).filter g).map λi=>a.getD i ey:=by
  conv=>lhs;rw[HR a]
  rw[List.filter_map]
  congr 1
  refine l5 λj l=>?_;have b:=Ω.1 l;have:=k j b;show (!decide ((a.getD j ey).id∈u))=g j
  grind
 rw[e,jy];rfl
theorem fZ(h:mZ c f a)(b:KJ a g u):((jh (sP c u)).find? λid=>decide (D0 (sP c u) [id]))=(FT f a g).map λi=>(a.getD i ey).id:=by
 unfold FT;rw[tC h b,XH];unfold BU
 grind[GH,Ka,jk,J8,EC,uM]
theorem KJ.off(c:(a.map dr.id).Nodup)(b:KJ a g u)(f:i<a.length):KJ a (BD g i) (u++ [(a.getD i ey).id]):=by grind[Mn,KJ,BD]
theorem bY(h:mZ c f a):∀(b k:Nat) (u:List Int) (j:Nat->Bool),KJ a j u->EY a.length j<=b->EY a.length j<=k->kM b (sP c u)=MV f a k j:=by
 intro b
 induction b with
 | zero=>
  intro k u j r w _
  have:FT f a j=none:=by
   cases hn:FT f a j with
   | none=>rfl
   | some i=>
    obtain ⟨o,s,_⟩:=In hn;have:=HY o s;omega
  rw[Fb this];rfl
 | succ b v=>
  intro k u j r w y;have l:=fZ h r
  cases hn:FT f a j with
  | none=>
   rw[hn] at l;rw[Fb hn,Na l]
  | some i=>
   rw[hn] at l;obtain ⟨o,s,_⟩:=In hn;have x:=HY o s
   obtain ⟨g,rfl⟩:∃g,k=g+1:=⟨k-1,by omega⟩
   have t:(a.getD i ey).id∈(sP c u).it.map dr.id:=((KI (sP c u).it).map dr.id).mem_iff.1 (List.mem_of_find?_eq_some l);rw[HD hn,N9 l,nw h.e t,v g _ _ (r.off h.s.i o) (by omega) (by omega)]
theorem bZ(b:Ad c=0)(a:CY c):Bp c=kM 30 c:=by
 have h:=eX b a;have g:hY c=fl c.it:=ϱ b;have i:=a.i;unfold Bp;rw[g];have k:=SG (fl c.it).length;have f:=O2 c.it;have:=bY h 30 (fl c.it).length [] (λ_=>true) (λj _=>by simp) (by omega) (by omega);rw[tB] at this;exact this.symm
theorem UV{ros:List gf}{its:List dr}:∀(f:Nat) (a:Nat->Bool),(MV ros its f a).length<=f
 | 0,_=>Θ _
 | f+1,a=>by
  cases hn:FT ros its a with
  | none=>rw[Fb hn];exact κ _
  | some i=>rw[HD hn];have:=UV (ros:=ros) (its:=its) f (BD a i);simp;exact this
theorem X1(a:Ad c=0):XR c (gg c)=gg c:=by
 have h:=Hn a;rw[show hY c=fl c.it from ϱ a,List.filter_map] at h;exact h.symm
theorem VO(p:iB)(b:Ad p=0)(f:CY p):AI prog 15 [.d (BM p)] (FW (gg p)):=by
 have c:=Vf p f b;rw[p9 b f] at c;dsimp only at c;have g:=f.i;have h:=Ec b;have a:=J6 p (gg p) (by omega) (by omega);rw[X1 b] at a;refine Av func15 Z Z ntmps15 Z Z Z λF i=>(AD (AF (V (Ba 1 Z Z Z Z Z Z Z) (AB Z Z (AC ?_)))));refine AD (AF (J (Ar Z Z Bx Z Z Z) (J (Ak (c) Z Z) (cl Z Z (J (DI Z Z Z) (J (DI Z Z Z) (AB Z Z (AB Z Z ?_))))))));refine AC (AD (AF (J (Ar Z Z Bx Z Z Z) (cl Z Z (J (Ak (a) Z Z) (AB Z Z (AC (A5 ?_))))))));exact ⟨_,[],[],A2 Z,Z,Z,Z,Z⟩
end Go.Proofs.YteifpcnphnhaoaaGreat
