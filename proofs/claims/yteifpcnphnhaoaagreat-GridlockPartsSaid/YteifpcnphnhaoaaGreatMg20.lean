import Derived.Test.YteifpcnphnhaoaaGreatMg19
import Derived.Shelf.SortG.Plain
import Derived.Shelf.SortG.SortNone
open Go.Proofs.Tryz
set_option maxHeartbeats 4000000
namespace Go.Proofs.YteifpcnphnhaoaaGreat
open Go.RowKit Go.Shelf
open Go.Sort (putRow Holds putCells)
def Cw(l:List Int):List Int:=l.mergeSort λx y=>decide (x<=y)
theorem DQ(l:List Int):(Cw l).Perm l:=List.mergeSort_perm l _
theorem FZ(l:List Int):(Cw l).length=l.length:=(DQ l).length_eq
theorem KZ(l:List Int):(Cw l).Pairwise (· <= ·):=by grind[List.pairwise_mergeSort,Cw]
abbrev zD(z:Int):D:= .raw (.int .i64 z)
variable{P:Program}{ρr:Ren}
theorem Su(L:SlLaysN.n53 P ρr){E:TypeId}{g53:FuncId}(k:List Int)(hsz:k.length<4611686018427387904){F:Fr}{s:AS}{d:Nat}{x:Operand}{ty:TypeId}{pos:String}{aft:Array Edge}{gd:Option (Nat×Bool)}{at_:Array TypeId}{f n:Nat}{S:List D}{O:Hp}(hg:ρr.f 53=g53)(C:s.ev x=some (.own f 0 n))(ho:ey s.hp f 0=some (.rowD E 1 S))(V:S=k.map zD)(hn:n=k.length)(hh:B6 s.hp f 0 (.rowD E 1 ((Cw k).map zD))=some O)(hd:Nat.blt d s.n=true):
  AG P F ⟨some d,.call {callee:= .value (.func g53),args:= #[x],argTypes:=at_},ty,pos,aft,gd⟩ s ⟨s.n,(d,.d (.tup []))::s.env,O⟩ (λ_ _=>true):=by
 subst hg V hn;intro ρ H w hs
 obtain ⟨fn6,hf1,hf2,hf3⟩:∃fn,P.funcs[ρr.f 53]? =some fn/\(fn.name== "runtime.NumGoroutine")=false/\fn.body.isSome=true:=by
  obtain ⟨nm,hn,hf⟩:=L.f53;exact ⟨_,hf,hn,Z⟩
 unfold Oper.wp;rw[show (#[x]:Array Operand)=[x].toArray from rfl,DG hf1 hf2 hf3,Oper.upon_enter]
 suffices J:Calls P (ρr.f 53) ([x].map H.eval).toArray w λe w'=>e= .returned (.tuple #[])/\SR F ⟨s.n,s.env,O⟩ ρ H w' by
  refine J.mono λe w' ⟨R,hsr⟩=>?_;subst R;exact ⟨ρ,hsr.put (IW hd) (.d (.tup Z λi c v hc=>by cases hc)),λ_ _ _=>rfl⟩
 have r0:=hs.ev C;have hg0:=ho;have h3:=hs.heap;have B:=BA hh;obtain ⟨us,q1,q2,q3⟩:=h3.sim f 0 _ hg0;show Calls P (ρr.f 53) #[H.eval x] w _
 generalize H.eval x=V0 at r0
 cases r0 with
 | own T hle=>
  rename_i N r a
  by_cases C:k=[]
  .subst C;refine (AnyG.slices_Sort_int_none L a r w).mono λe w' ⟨R,e2⟩=>?_;subst R e2;refine ⟨Z,hs.writeG f 0 _ _ ho B Z Z Z (Γ _) (Γ _) (λ_ _ _=>rfl) (λ_ _ e=>by cases e) λW=>?_⟩;have h0:Cw []=[]:=by simp[Cw]
   rw[h0];exact ⟨us,q1,⟨by simpa using q2.1,λx C=>(by cases C),λi x C=>by simp at C⟩,λx C=>(by cases C)⟩
  .have hn:0<k.length:=jf.2 C;have hul:us.length=k.length:=by have:=q2.1;rw[χ] at this;omega
   have G:∃b o,a=some ⟨b,0,none⟩/\w.heap[b]? =some (.cells o E (0,0))/\o.size=r/\k.length<=r/\r<=maxLen/\o.toList.take k.length=us/\N=k.length:=by
    rcases q1.2 with ⟨_,h⟩ | ⟨b,cap',o,R,_,e2,e3,e4,e5,e6⟩
    .grind
    grind
   obtain ⟨b,o,rfl,p1,p2,p3,p3',p4,rfl⟩:=G;have hb:Br (ρ f 0)=some b:=by rw[T];rfl
   have Y:b<w.heap.size:=(iq.1 p1).1
   have hus:∀i (hi:i<k.length),us[i]? =some (.int .i64 k[i]):=λi hi=>by
    have hm:(k.map zD)[i]? =some (zD k[i]):=by rw[ν,ω hi];rfl
    obtain ⟨u,hu,_,hr⟩:=q2.2.2 i _ hm 0 (zD k[i]) rfl;rw[jD,ib] at hu
    cases hr with
    | raw _=>exact hu
   have hH:Holds (Value.int .i64) w b 0 k.toArray:=by
    intro j hj
    grind[World.cell?,World.frozen?]
   have J:=AnyG.slices_Sort_int L b 0 r k w hH Y hsz;refine J.mono λe w' ⟨R,nd,os,hw⟩=>?_;subst R hw
   obtain ⟨z,K⟩:∃z,Cw k=z:=⟨_,Z⟩
   have U:(k.mergeSort λx y=>decide (x<=y))=z:=K;have M:z.length=k.length:=by rw[<-K,FZ]
   rw[K] at B hh;rw[U];refine ⟨Z,?_⟩;have A:((putRow (Value.int .i64) (Go.Sort.ahead w nd) b 0 z.toArray)).heap.size=w.heap.size:=by rw[Go.Sort.size_putRow];rfl
   have X:∀I,I<w.heap.size->I≠b->(Go.Sort.grow (putRow (Value.int .i64) (Go.Sort.ahead w nd) b 0 z.toArray) os).heap[I]? =w.heap[I]?:=λI hl hne=>by
    rw[Go.Sort.heap_grow_old _ _ (by rw[A];exact hl)];show (w.heap.modify b _)[I]? =_;rw[js,κ (Ne.symm hne)]
   refine hs.writeG f 0 _ _ ho B Z Z Z (by rw[Go.Sort.size_grow,A];exact Nat.le_add_right _ _) (Nat.le_add_right _ _) (λI hl hno=>X I hl (λe=>hno (by rw[e];exact hb))) (λ_ _ e=>by cases e) λW=>?_
   have Q:(Go.Sort.grow (putRow (Value.int .i64) (Go.Sort.ahead w nd) b 0 z.toArray) os).heap[b]? =some (.cells (putCells (Value.int .i64) 0 z.toArray o) E (0,0)):=by
    rw[Go.Sort.heap_grow_old _ _ (by rw[A];exact Y)];show (w.heap.modify b _)[b]? =_;rw[js,ς Z,p1];rfl
   have hcs:(putCells (Value.int .i64) 0 z.toArray o).size=r:=by simp only[putCells,Array.size_mapIdx];exact p2
   have l:(z.map zD).length=k.length:=by rw[χ,M]
   refine ⟨z.map (Value.int .i64),⟨by rw[χ,l,M,jD],.inr ⟨b,r,_,by rw[T,l],ζ _,Q,by rw[l];exact p3,p3',by omega,?_⟩⟩,⟨by rw[χ,l,M,jD],λx g=>?_,λi x g j c t=>?_⟩,λx g c t=>?_⟩
   .rw[l,jD]
    apply jk
    intro i
    by_cases hi:i<k.length
    .rw[jt hi,jH,ν,ω (by omega),iW (by omega)];simp only[putCells,Array.getElem_mapIdx];rw[ς ⟨ζ _,by simp;omega⟩];simp only[Nat.sub_zero,ij];rw[getElem!_pos _ i (by simp;omega)]
     simp
    .rw[j8 (by rw[ϱ];omega),j8 (by rw[χ];omega)]
   .obtain ⟨y,_,rfl⟩:=Θ.1 g;rfl
   .rw[ν] at g
    cases hyi:z[i]? with
    | none=>rw[hyi] at g;cases g
    | some y=>
     rw[hyi] at g;injection g with g;subst g
     have hj0:j=0:=by have:=(φ.1 t).1;simp[D.cells] at this;exact this
     subst hj0;simp only[D.cells,List.getElem?_cons_zero,Option.some.injEq] at t;subst t;exact ⟨.int .i64 y,by rw[jD,ib,ν,hyi];rfl,Z,.raw Z⟩
   .obtain ⟨y,_,rfl⟩:=Θ.1 g;simp only[D.cells,θ] at t;subst t;rfl
end Go.Proofs.YteifpcnphnhaoaaGreat
namespace Go.Proofs.YteifpcnphnhaoaaGreat
open Go.RowKit
set_option maxRecDepth 100000
section
variable{P:Program}{F:Fr}{s:AS}{α β:Type}[DecidableEq α]{eK:α->D}{eV:β->D}{K:TypeId}{kv:α->Value}{d:Nat}{ty T E:TypeId}{pos:String}{aft:Array Edge}{g:Option (Nat×Bool)}{x y z:Operand}{bs:Option (List Nat×Nat)}
variable{a:D}
theorem Sy(m:List (α×β))(b:α)(o v:β){f i:Nat}(S:s.ev x=some (.map f i))(W:ey s.hp f i=some (.map bs (B4 eK eV m)))(R:s.ev y=some (.d (eK b)))(L:Bm P T K E=true)(k:Bs P K eK kv)(Q:Cy P E=some (.d a))(U:∀w O v,AY w O a v->AY w O (eV o) v)(V:Ac m b o=v)(X:Nat.blt d s.n=true):
  AA P F ⟨some d,.lookup T x y false,ty,pos,aft,g⟩ s d (.d (eV v)):=
 Cv _ X λl G w I=>by
  obtain ⟨mb,arr,c,N,_,M,C,B,_⟩:=I.mapAt S W;have J:G.eval y=kv b:=(I.repD R).val (k.val b);obtain ⟨H,A,u⟩:=Eh Q w
  have t:∀r O l,A7 r O l (.d (eV o)) H:=λr O l=>by
   have:=u r O l
   cases this with
   | d h=>exact .d (U _ _ _ h)
  subst V;rcases gn k C B b o with ⟨D,_,Z,_⟩ | ⟨j,e,D,g2,_,_,_,_,Y⟩
  .refine ⟨H,?_,by rw[Z];exact t _ _ _⟩
   simp[execOp,Instr.lookup,run_underlying (Wi L),N,J,MapKept.run_getObj_map M,k.check,k.find w b _ _ (YT k C B),D,A,Result.andThen]
  .refine ⟨e.val,?_,.d Y⟩
   simp[execOp,Instr.lookup,run_underlying (Wi L),N,J,MapKept.run_getObj_map M,k.check,k.find w b _ _ (YT k C B),D,Result.andThen]
theorem OH(m:List (α×β))(b:α)(D:β){f i:Nat}(hx:s.ev x=some (.map f i))(ho:ey s.hp f i=some (.map bs (B4 eK eV m)))(hy:s.ev y=some (.d (eK b)))(W:Bm P T K E=true)(o:Bs P K eK kv)(hz:Cy P E=some (.d a))(hw:∀w O v,AY w O a v->AY w O (eV D) v)(hd:Nat.blt d s.n=true):
  AA P F ⟨some d,.lookup T x y true,ty,pos,aft,g⟩ s d (.tup [.d (eV (Ac m b D)),.d (.raw (.bool (Oa m b)))]):=
 Cv _ hd λk N w U=>by
  obtain ⟨mb,arr,c,Y,_,C,t,L,_⟩:=U.mapAt hx ho;have V:N.eval y=kv b:=(U.repD hy).val (o.val b);obtain ⟨S,J,I⟩:=Eh hz w
  have H:∀G O k,A7 G O k (.d (eV D)) S:=λG O k=>by
   have:=I G O k
   cases this with
   | d h=>exact .d (hw _ _ _ h)
  have l:∀{A u:Value} {R Q:AV},A7 w (F.O k s.hp) k R A->A7 w (F.O k s.hp) k Q u->A7 w (F.O k s.hp) k (.tup [R,Q]) (.tuple #[A,u]):=λ{A u R Q} C t=>by
   refine .tup (vs:=[A,u]) Z λi b v r B=>?_;rcases i with _ | _ | i
   .simp at r B;subst r B;exact C
   .simp at r B;subst r B;exact t
   .simp at r
  rcases gn o t L b D with ⟨M,X,g3,_⟩ | ⟨j,e,M,X,_,g4,_,_,g7⟩
  .refine ⟨.tuple #[S,.bool false],?_,l (by rw[g3];exact H _ _ _) (by rw[X];exact .d (.raw Z))⟩
   simp[execOp,Instr.lookup,run_underlying (Wi W),Y,V,MapKept.run_getObj_map C,o.check,o.find w b _ _ (YT o t L),M,J,Result.andThen]
  .refine ⟨.tuple #[e.val,.bool true],?_,l (.d g7) (by rw[g4];exact .d (.raw Z))⟩
   simp[execOp,Instr.lookup,run_underlying (Wi W),Y,V,MapKept.run_getObj_map C,o.check,o.find w b _ _ (YT o t L),M,Result.andThen]
end
theorem Hk:∀w O v,AY w O (.agg [AF 0,AF 0,AF 0,.sl (some true) [],.sl (some true) [],.sl (some true) []]) v->AY w O (Af Ag) v:=λw O v h=>h.aggMono Z (by simp[D.one]) λi c g b a v f=>by
 match i,b,a with
 | 0,b,a=>injection b with b;injection a with a;subst b a;exact f
 | 1,b,a=>injection b with b;injection a with a;subst b a;exact f
 | 2,b,a=>injection b with b;injection a with a;subst b a;exact f
 | 3,b,a=>injection b with b;injection a with a;subst b a;exact f.anyNil
 | 4,b,a=>injection b with b;injection a with a;subst b a;exact f.anyNil
 | 5,b,a=>injection b with b;injection a with a;subst b a;exact f.anyNil
def ll(l:List Ad):List Ad:=l.mergeSort λa b=>decide (Bk a.r b.r<=0)
theorem MI(l:List Ad):(ll l).Perm l:=List.mergeSort_perm l _
theorem dP(l:List Ad):(ll l).length=l.length:=(MI l).length_eq
theorem mj{a b c:AU}(g:Bk a b<=0)(f:Bk b c<=0):Bk a c<=0:=by
 by_cases i:Bk a b=0
 .rw[E3.1 i];exact f
 .by_cases h:Bk b c=0
  .rw[<-E3.1 h];exact g
  .have:=Pd.trans a b c (by omega) (by omega);omega
theorem Tt(l:List Ad):(ll l).Pairwise λa b=>¬Bk b.r a.r<0:=by
 have:=List.pairwise_mergeSort (le:=λa b:Ad=>decide (Bk a.r b.r<=0)) (λa b c g f=>by simp only[jP] at*;exact mj g f) (λa b=>by simp only[Bool.or_eq_true,jP];have:=Pd.anti a.r b.r;omega) l
 exact this.imp λ{a b} h=>by
  have i:Bk a.r b.r<=0:=by simpa using h
  have:=Pd.anti a.r b.r;omega
theorem lC{g:Type}(f:g->AU){l m i:List g}(c:(l.map f).Nodup)(s:m.Perm l)(j:m.Pairwise λa b=>¬Bk (f b) (f a)<0)(o:i.Perm l)(t:i.Pairwise λa b=>¬Bk (f b) (f a)<0):i=m:=by
 have r:∀{k:List g},(k.map f).Nodup->(k.Pairwise λa b=>¬Bk (f b) (f a)<0)->k.Pairwise λa b=>Bk (f a) (f b)<0:=λ{k} c h=>by
  rw[List.Nodup,ig] at c;refine (h.and c).imp λ{a b} ⟨v,u⟩=>?_;have o:=Pd.anti (f a) (f b);have t:Bk (f a) (f b)≠0:=λe=>u (E3.1 e);omega
 exact DP (R:=λa b=>Bk (f a) (f b)<0) (λx=>by rw[Pd.refl];omega) (λx y z=>Pd.trans _ _ _) (r ((o.map f).nodup_iff.2 c) t) (r ((s.map f).nodup_iff.2 c) j) λx=>by rw[o.mem_iff,s.mem_iff]
structure jZ where
 r:AU
 n:Int
 q:List Int
abbrev Oc(x:jZ):D:= .agg [AF x.r.k,An x.r.acc.o,AF x.r.acc.k,An x.r.acc.a,An x.r.f,An x.r.t,AF x.n,.sl none (x.q.map AF)]
theorem dT(x:jZ):∃a,Oc x= .agg a:=⟨_,Z⟩
def IZ(p:gB)(x:Ad):jZ:=⟨x.r,max x.n 0,K8 (gC p) x.r⟩
def fy(p:gB):List jZ:=(ll p.ro).map (IZ p)
theorem Ig(p:gB):(fy p).length=p.ro.length:=by unfold fy;rw[χ,dP]
theorem TP{l:List Ad}(h:Dn l=0):(l.map Ad.r).Nodup:=by
 have c:=VI.1 h;rw[List.Nodup,ig,ia];intro i j f a b e;have:=c j (Ψ.2 a)
 grind[J9,Gc]
theorem Xg{p:gB}(f:BB p=0){c:List jZ}(h:c.Perm (p.ro.map (IZ p)))(g:c.Pairwise λa b=>¬Bk b.r a.r<0):c=fy p:=by
 refine lC jZ.r (l:=p.ro.map (IZ p)) ?_ ((MI p.ro).map _) ?_ h g
 .rw[gw];exact TP (P6 f).1
 .unfold fy;rw[ig];exact Tt p.ro
theorem rL(a b:jZ):AL prog 175 [.d (Oc a),.d (Oc b)] (AF (Bk a.r b.r)):=by
 refine Av func175 Z Z ntmps175 Z Z Z λF c=>(AC (AE (V (Bh 1 Z Z Z Z Z Z Z) (V (Bh 2 Z Z Z Z Z Z Z) (AB Z Z (AD (AC ?_)))))));refine AE (J (AK Z LD Z Z Z) (J (Ay Z Z C9 Z Z Z) (J (AK Z LD Z Z Z) (J (Ay Z Z C9 Z Z Z) (J (Au (MZ a.r b.r) Z Z) (AB Z Z (AD (A2 ?_))))))));exact ⟨_,[],[],A0 Z,Z,Z,Z,Z⟩
def Co(l:List AJ):List (Int×AJ):=l.map λi=>(i.id,i)
theorem WR{l:List AJ}{i:AJ}(h:i.id∉l.map AJ.id):BX (Co l) i.id i=Co (l++ [i]):=by
 induction l with
 | nil=>rfl
 | cons a l b=>
  grind[BX,Co]
section
variable{β:Type}
end
variable{a:gB}{c:List (Int×Bool)}{k:Nat}{f:List Int}{g:Type}
def JD(p:gB):List Int:=(gC p).map AJ.id
abbrev HA(p:gB):Hp:=[(10,[.blk 229 [.map 11 0,.d (.sl none ((JD p).map AF)),.d (.sl none ((fy p).map Oc))]]),(11,[BY AF Af (Co p.it)])]
theorem tM(a:Int):(if 0>a then 0 else a)=max a 0:=by omega
theorem PY(p:gB)(t:E6 p)(C:BB p=0):AP prog 126 [.d (Bf p)] [] λr N=>r= .tup [.ptr 3 0 0,.d (AF 0)]/\N=[(3,[.blk 229 [.map 2 0,.d (.sl none ((JD p).map AF)),.d (.sl none ((fy p).map Oc))]]),(2,[BY AF Af (Co p.it)])]:=by
 have s:=HC p t;rw[C] at s;have B:=Da (P6 C).2.1;have w:=I9 p t;have I:=t.1;have H:=t.2.1;refine Av func126 Z Z ntmps126 Z Z Z λF u=>(AC (AE (V (Bh 1 Z Z Z Z Z Z Z) ?_)));refine AB Z Z (AB Z Z (AD (AC (AC (AE (J (Ay Z Z Bp Z Z Z) (J (Au (s) Z Z) (AB Z Z ?_))))))));refine AD (AC (AE (ek Z Z (J (C6 Z Z Z) (AD (Cr Z ((by decide)) (AW (AC ?_))))))));refine AE (V (Pc 2 Z Z Z Z) (J (Ay Z Z Bp Z Z Z) (J (Au (w) Z Z) (J (E5 rv sk Z Z Z) (V (Bh 3 Z Z Z Z Z Z Z) (AB Z Z (AD (AC ?_))))))));refine AC (AE (J (AK Z Cc Z Z Z) (J (AO Z Z Z IR Z) (J (BS Z No Z) (ek Z Z (AD (AZ (BM (α:=Nat) (λk=>⟨68,[(1,(.ptr 1 0 0)),(5,(.ptr 3 0 0)),(21,(.d (.sl none (p.it.map Af)))),(22,(.d (AF (p.it.length:Int)))),(23,(.d (AF (k:Int))))],[(1,[Do 39 p]),(3,[.blk 229 [.map 2 0,.d (.sl none ((JD p).map AF)),Ez]]),(2,[BY AF Af (Co (p.it.take k))])]⟩) (λk=>k<=p.it.length) (λk=>p.it.length-k) (0) (ζ _) (AX u [1,3,2] Z Z ⟨Z,Z,Z,Z,Z,trivial⟩) ?_))))))));rintro k G;refine AC (AE (J (Az Z Z Z) (AD (AC (A6 Z (λl=>?_) (λl=>?_))))))
 .have g:k<p.it.length:=BQ l;refine AW (AC (AZ (AC (AE ?_))));have z:p.it[k].id∉(p.it.take k).map AJ.id:=λh=>by have D:=B;rw[List.Nodup,ig,ia] at D;obtain ⟨x,E,e⟩:=Θ.1 h;obtain ⟨j,O,rfl⟩:=jh.1 E;exact D j k (by omega) g (by omega) e
  refine J (BC (k) Z Z (Z) (A1 g) No Z Ch Z) (J (C7 Z Z CM Z) (V (Bx 4 FK Z Z Z Z) (V (B3 Z Z Z Z Z Z Z Ch) (AD (CK [[],[0],[0,1],[0,1,2],[],[4],[],rg 7] mixed Z (By (Ap 5 Z Z (AR [27] Z (L4 Z Z) ?_))))))));refine AR [28] Z (AK Z LF Z Z Z) (Ao [29] Z Z (λ_=>Aa (AO Z Z Z Tc Z)) (AR [7] Z (AK Z Nr Z Z Z) (Ao [31] Z Z (λ_=>Aa (AO Z Z Z Am Z)) (Ao [7] Z Z (λ_=>Aa (Ay Z Z CM Z Z Z)) (Bu 7 Z Z Z (Ab 8 Z Z (V (VH (Co (p.it.take k)) (p.it[k].id) (p.it[k]) Z Z Z Tr IS Z Z) (AD ⟨Z,?_⟩))))))));refine Bz (AE (J (Aj Z Z (AN (k+1) (by omega)) Z) (ek Z Z (AD ?_))));exact ⟨k+1,by show k+1<=_;omega,by show p.it.length-(k+1)<p.it.length-k;omega,AX u [1,3,2] Z (by rw[ψ g,<-WR z];rfl) ⟨Z,Z,Z,Z,Z,trivial⟩⟩
 .refine Aw (AC (AC ?_));rw[η (show p.it.length<=k by have h:=l;omega)];refine Wh 3 0 2 900 b9 Z Z Z Z Z Z Z (AE (J (AK Z DW Z Z Z) (J (AO Z Z Z NO Z) (J (BS Z an Z) (ek Z Z (AD (AZ (BM (α:=Nat×List jZ) (λq=>⟨68,[(1,(.ptr 1 0 0)),(5,(.ptr 3 0 0)),(36,(.d (.sl none (p.ro.map Bj)))),(37,(.d (AF (p.ro.length:Int)))),(38,(.d (AF (q.1:Int))))],[(900,[.rowD 233 8 (q.2.map Oc)]),(1,[Do 39 p]),(3,[.blk 229 [.map 2 0,.d (.sl none ((JD p).map AF)),.own 900 0 q.2.length]]),(2,[BY AF Af (Co p.it)])]⟩) (λq=>q.1<=p.ro.length/\q.2=(p.ro.take q.1).map (IZ p)) (λq=>p.ro.length-q.1) ((0,[])) (⟨ζ _,Z⟩) (AX u [900,1,3,2] Z Z ⟨Z,Z,Z,Z,Z,trivial⟩) ?_))))))));rintro ⟨m,c⟩ ⟨A,v⟩;dsimp only at A v⊢;refine AC (AE (J (Az Z Z Z) (AD (AC (A6 Z (λi=>?_) (λi=>?_))))))
  .have o:m<p.ro.length:=BQ i;refine AW (AC (AZ (AC (AE ?_))));have K:c.length<=100000:=by rw[v,χ,ϱ];omega
   refine J (BC (m) Z Z (Z) (A1 o) an Z KS Z) ?_;refine J (C7 Z Z Vi Z) (V (Bx 5 RP Z Z Z Z) (V (B3 Z Z Z Z Z Z Z KS) (AD (CK [[],[],[1],[1,2],[1,2,3],[],[5],[],[7],[7,8],[],[],[11],[10,11,12],[5,6,7,8,9,10,11,12,13],[5,6,7,8,9,10,11,12,13,14],[1,2,3,4,5,6,7,8,9,10,11,12,13,14,15],rg 17,rg 18,rg 19] mixed Z (By (Ap 5 Z Z (Ap 5 Z Z (AR [43] Z (L4 Z Z) ?_))))))));refine AR [44] Z (AK Z LE Z Z Z) (Aq [45] [3] Z Z (λ_=>Aa (AO Z Z Z XU Z)) (AR [9] Z (AK Z EX Z Z Z) (Aq [47] [5] Z Z (λ_=>Aa (Ay Z Z C9 Z Z Z)) (AR [9] Z (AK Z PB Z Z Z) (Aq [49] [5] Z Z (λ_=>Aa (AO Z Z Z Fo Z)) (AR [50] Z (RY Z Z (tM _) Z) (Aq [1] [1] Z Z (λ_=>Aa (Ay Z Z Bp Z Z Z)) (AR [9] Z (AK Z EX Z Z Z) ?_))))))));refine Aq [53] [5] Z Z (λ_=>Aa (Ay Z Z C9 Z Z Z)) (AR [52,54] Z (Au (lJ p p.ro[m].r t) Z Z) (AR [48,51,55] Z (E5 a7 sj Z Z Z) (F6 [56] [50] [(57,_)] Z Z (λ_=>F7 (C1 50 b9 Z Z Z Z Z Z Z Z)) (.inr ⟨57,_,Z,Z,Z,Z,Z⟩) Z Z Z Z Z (F6 [46,57] [900,50,3,2] [(58,_)] Z Z (λ_=>F7 (Ev (c) ([IZ p p.ro[m]]) Z Z Z Z Z Z Z Z b9 (by simp only[υ];omega) Z Z Z Z)) (.inr ⟨58,_,Z,Z,Z,Z,Z⟩) Z Z Z Z Z (Bu 17 Z Z Z (Ab 18 Z Z (J (L4 Z Z) (AD ⟨Z,?_⟩))))))));refine Ab 19 Z Z (J (AK Z LE Z Z Z) (AD ⟨Z,?_⟩));refine Ab 20 Z Z (V (B3 Z Z Z Z Z Z Z sS) (AD ⟨Z,?_⟩));refine Bz (AE (J (Aj Z Z (AN (m+1) (by omega)) Z) (ek Z Z (AD ?_))));exact ⟨(m+1,c++ [IZ p p.ro[m]]),⟨by show m+1<=_;omega,by show c++ [IZ p p.ro[m]]=(p.ro.take (m+1)).map (IZ p);rw[EL o,v]⟩,by show p.ro.length-(m+1)<p.ro.length-m;omega,AX u [900,1,3,2] Z (Z) ⟨Z,Z,Z,Z,Z,trivial⟩⟩
  .refine Aw (AC ?_);have f:c=p.ro.map (IZ p):=by rw[v,η (by have h:=i;omega)]
   refine AE (ek Z Z (J (L4 Z Z) (J (AK Z LE Z Z Z) (J (AO Z Z Z XU Z) (V (NV qF (k:=8) (by decide) isAgg233 sizeOf233 func175 Z Z dT (λa b=>Bk a.r b.r) ((Pd.comap jZ.r).swo) c (fy p) (by rw[f,χ];omega) (λx _ y _=>rL x y) (λys M L=>Xg C (by rw[<-f];exact M) L) Z Z Z MT Z Z Z Z Z) ?_)))));refine AD (AC (VR (ys:=(fy p).map Oc) 3 0 2 900 Z Z Z (by rw[χ,Ig,f,χ];exact Γ _) (η (by rw[χ,Ig,f,χ];exact Γ _)) Z Z Z Z Z Z (AE (ek Z Z (AB Z Z (AB Z Z (AD (A2 ?_))))))));exact ⟨_,[3,2],_,A0 Z,Z,Z,Z,Z⟩
theorem Uz(p:gB)(b:E6 p)(c:BB p≠0):AL prog 126 [.d (Bf p)] (.tup [.raw (.pointer none),AF (BB p)]):=by
 have a:=HC p b;refine Av func126 Z Z ntmps126 Z Z Z λF f=>(AC (AE (V (Bh 1 Z Z Z Z Z Z Z) (AB Z Z (AB Z Z (AD (AC (AC ?_))))))));refine AE (J (Ay Z Z Bp Z Z Z) (J (Au (a) Z Z) (AB Z Z (AD (AC (AE (ek Z Z (J (C6 Z Z Z) ?_))))))));refine AD (Bw Z ((gi c)) (AC (AE (ek Z Z (AB Z Z (AB Z Z (AD (A2 ?_))))))));exact ⟨_,[],[],A0 Z,Z,Z,Z,Z⟩
theorem WS(l:List AJ)(i:Int):Ac (Co l) i Ag=l.getD ((l.map AJ.id).idxOf i) Ag:=by
 induction l with
 | nil=>rfl
 | cons a l b=>
  grind[Ac,Co]
theorem Jx(l:List AJ)(i:Int):Oa (Co l) i=decide (i∈l.map AJ.id):=by
 rw[kJ,Fu,jP];unfold Co;rw[gw];rfl
theorem Qj(p:gB)(i:Int):Ac (Co p.it) i Ag=B7 p i:=WS p.it i
theorem Rp(b:E6 a)(i:Int):(B7 a i).po.length<=100000/\(B7 a i).pa.length<=100000/\(B7 a i).af.length<=100000:=by grind[B7,Ag,E6]
theorem OU(p:gB)(l:List Int)(v:E6 p)(y:l.length<=100000)(c:CZ p l=0):AP prog 71 [.d (Bf p),.d (.sl none (l.map AF))] [] λr x=>r= .tup [.ptr 10 0 0,.map 2 0,.d (AF 0)]/\x=HA p++ [(2,[BY AF Ah (BP l)])]:=by
 have t:BB p=0:=by
  unfold CZ at c;split at c
  .exact c
  .rename_i h;simpa using h
 have o:=(PY p v t).by [(3,10),(2,11)] rfl;have w:CZ p l=K0 (p.it.map AJ.id) l:=κ (λh=>h t);rw[w] at c;refine Av func71 Z Z ntmps71 Z Z Z λF s=>(AC (AE (V (Bh 1 Z Z Z Z Z Z Z) ?_)));refine AB Z Z (AB Z Z (AB Z Z (AD (AC (AE (J (Ay Z Z Bp Z Z Z) (V (FH o Z [10,11] ⟨Z,Z,trivial⟩ Z Z Z Z Z Z Z Z Z) (ek Z Z ?_))))))));refine J (DC Z Z Z) (J (DC Z Z Z) (AB Z Z (AB Z Z (AD (AC (AC (AE (ek Z Z ?_))))))));refine J (C6 Z Z Z) (AD (Cr Z ((by decide)) (AW (AC (AE (V (Pc 2 Z Z Z Z) (AB Z Z (AD ?_))))))));refine AC (AC (AE (ek Z Z (J (BS Z E0 Z) (ek Z Z (AD (AZ (BM (α:=Nat) (λk=>⟨48,[(7,(.ptr 10 0 0)),(9,(.map 2 0)),(23,(.d (.sl none (l.map AF)))),(24,(.d (AF (l.length:Int)))),(25,(.d (AF (k:Int))))],HA p++ [(2,[BY AF Ah (BP (l.take k))])]⟩) (λk=>k<=l.length) (λk=>l.length-k) (0) (ζ _) (AX s [10,11,2] Z Z ⟨Z,Z,Z,Z,Z,trivial⟩) ?_))))))));rintro k u;refine AC (AE (J (Az Z Z Z) (AD (AC (A6 Z (λb=>?_) (λb=>?_))))))
 .have a:k<l.length:=BQ b;refine AW (AC (AZ (AC (AE ?_))));have i:l[k]∈p.it.map AJ.id:=(R2 c).2 _ (ϑ a);have f:l[k]∉l.take k:=λh=>by have g:=(R2 c).1;rw[List.Nodup,ia] at g;obtain ⟨j,z,e⟩:=jh.1 h;exact g j k (by omega) a (by omega) e
  refine J (BC (k) Z Z (Z) (A1 a) E0 Z BW Z) (J (CG Z Z Am Z) (AB Z Z (AD (AC (AC (AE (ek Z Z (J (L4 Z Z) ?_))))))));refine J (AK Z LF Z Z Z) (J (AO Z Z Z Tc Z) (ek Z Z (J (OH (Co p.it) l[k] Ag Z Z Z Tr IS k7 Hk Z) (ek Z Z (J (DC Z Z Z) (J (DC Z Z Z) (V (Bx 3 FK Z Z Z Z) (V (B3 Z Z Z Z Z Z Z Ch) ?_))))))));refine AB Z Z (AD (AC (AE (ek Z Z (J (NE Z Z) (AD (Cr Z ((by rw[Jx,gi i];rfl)) (AW ?_))))))));refine AC (AC (AE (ek Z Z (ek Z Z (J (IV (BP (l.take k)) (l[k]) (false) _ Z Z Z Jh IS Sh Z Z) (AD (Cr Z ((by rw[YQ];exact gp f)) (AW ?_))))))));refine AE (ek Z Z (ek Z Z (V (VH (BP (l.take k)) (l[k]) (true) Z Z Z Jh IS Z Z) (AD (AE (J (Aj Z Z (AN (k+1) (by omega)) Z) (ek Z Z (AD ?_))))))));exact ⟨k+1,by show k+1<=_;omega,by show l.length-(k+1)<l.length-k;omega,AX s [10,11,2] Z (by rw[ψ a,<-aU f];rfl) ⟨Z,Z,Z,Z,Z,trivial⟩⟩
 .refine Aw ?_;refine AC (AE (ek Z Z (ek Z Z (AB Z Z (AB Z Z (AB Z Z (AD (A2 ?_))))))));exact ⟨_,[10,11,2],_,A0 Z,Z,Z,Z,by rw[η (show l.length<=k by have h:=b;omega)];rfl⟩
theorem T0(p:gB)(l:List Int)(z:E6 p)(C:l.length<=100000)(w:CZ p l≠0):AL prog 71 [.d (Bf p),.d (.sl none (l.map AF))] (.tup [.raw (.pointer none),.raw (.map none),AF (CZ p l)]):=by
 by_cases s:BB p=0
 .have t:=(PY p z s).by [(3,10),(2,11)] rfl;have x:CZ p l=K0 (p.it.map AJ.id) l:=κ (λh=>h s);rw[x] at w⊢
  obtain ⟨B,r⟩:∃e,K0 (p.it.map AJ.id) l=e:=⟨_,Z⟩
  rw[r] at w⊢;refine Av func71 Z Z ntmps71 Z Z Z λF v=>(AC (AE (V (Bh 1 Z Z Z Z Z Z Z) ?_)));refine AB Z Z (AB Z Z (AB Z Z (AD (AC (AE (J (Ay Z Z Bp Z Z Z) (V (FH t Z [10,11] ⟨Z,Z,trivial⟩ Z Z Z Z Z Z Z Z Z) (ek Z Z ?_))))))));refine J (DC Z Z Z) (J (DC Z Z Z) (AB Z Z (AB Z Z (AD (AC (AC (AE (ek Z Z ?_))))))));refine J (C6 Z Z Z) (AD (Cr Z ((by decide)) (AW (AC (AE (V (Pc 2 Z Z Z Z) (AB Z Z (AD ?_))))))));refine AC (AC (AE (ek Z Z (J (BS Z E0 Z) (ek Z Z (AD (AZ (BM (α:=Nat) (λk=>⟨48,[(7,(.ptr 10 0 0)),(9,(.map 2 0)),(23,(.d (.sl none (l.map AF)))),(24,(.d (AF (l.length:Int)))),(25,(.d (AF (k:Int))))],HA p++ [(2,[BY AF Ah (BP (l.take k))])]⟩) (λk=>k<=l.length/\B=BO (((List.range l.length).drop k).map (Eu (p.it.map AJ.id) l))) (λk=>l.length-k) (0) (⟨ζ _,r.symm⟩) (AX v [10,11,2] Z Z ⟨Z,Z,Z,Z,Z,trivial⟩) ?_))))))));rintro k ⟨A,y⟩;refine AC (AE (J (Az Z Z Z) (AD (AC (A6 Z (λo=>?_) (λo=>?_))))))
  .have f:k<l.length:=BQ o;refine AW (AC (AZ (AC (AE ?_))));have j:=nW f y;have i:=FG 0 f;refine J (BC (k) Z Z (Z) (A1 f) E0 Z BW Z) (J (CG Z Z Am Z) (AB Z Z (AD (AC (AC (AE (ek Z Z ?_)))))));refine J (L4 Z Z) (J (AK Z LF Z Z Z) (J (AO Z Z Z Tc Z) (ek Z Z (J (OH (Co p.it) l[k] Ag Z Z Z Tr IS k7 Hk Z) (ek Z Z (J (DC Z Z Z) (J (DC Z Z Z) (V (Bx 3 FK Z Z Z Z) ?_))))))));refine V (B3 Z Z Z Z Z Z Z Ch) (AB Z Z (AD (AC (AE (ek Z Z (J (NE Z Z) (AD (JC Z (λb=>?_) (λb=>?_)))))))))
   .have g:¬l[k]∈p.it.map AJ.id:=by rw[Jx] at b;simpa using b
    refine AC (AE (AB Z Z (AB Z Z (AB Z Z (AD (A2 ?_))))));exact ⟨_,[],[],A0 Z,Z,Z,by rw[j.2 9 (by unfold Eu;rw[i,ς g]) (by decide)],Z⟩
   .have g:l[k]∈p.it.map AJ.id:=by rw[Jx] at b;simpa using b
    refine AW (AC (AC (AE (ek Z Z (ek Z Z (J (IV (BP (l.take k)) (l[k]) (false) _ Z Z Z Jh IS Sh Z Z) (AD (JC Z (λa=>?_) (λa=>?_)))))))))
    .have c:l[k]∈l.take k:=by rw[YQ] at a;simpa using a
     refine AC (AE (AB Z Z (AB Z Z (AB Z Z (AD (A2 ?_))))));exact ⟨_,[],[],A0 Z,Z,Z,by rw[j.2 7 (by unfold Eu;rw[i,κ (λh=>h g),ς c]) (by decide)],Z⟩
    .have c:¬l[k]∈l.take k:=by rw[YQ] at a;simpa using a
     refine AW ?_;refine AE (ek Z Z (ek Z Z (V (VH (BP (l.take k)) (l[k]) (true) Z Z Z Jh IS Z Z) (AD (AE (J (Aj Z Z (AN (k+1) (by omega)) Z) (ek Z Z (AD ?_))))))));exact ⟨k+1,⟨by show k+1<=_;omega,j.1 (by unfold Eu;rw[i,κ (λh=>h g),κ c])⟩,by show l.length-(k+1)<l.length-k;omega,AX v [10,11,2] Z (by rw[ψ f,<-aU c];rfl) ⟨Z,Z,Z,Z,Z,trivial⟩⟩
  .refine Aw ?_;refine AC (AE (ek Z Z (ek Z Z (AB Z Z (AB Z Z (AB Z Z (AD (A2 ?_))))))));exact absurd (by rw[y,kI (by have h:=o;simp only[iF];omega)];rfl) w
 .have x:CZ p l=BB p:=ς s;have u:=Uz p z s;rw[x];refine Av func71 Z Z ntmps71 Z Z Z λF v=>(AC (AE (V (Bh 1 Z Z Z Z Z Z Z) (AB Z Z (AB Z Z ?_)))));refine AB Z Z (AD (AC (AE (J (Ay Z Z Bp Z Z Z) (J (Au (u) Z Z) (ek Z Z (J (De Z Z Z) (J (De Z Z Z) ?_))))))));refine AB Z Z (AB Z Z (AD (AC (AC (AE (ek Z Z (J (C6 Z Z Z) (AD ?_))))))));refine Bw Z ((gi s)) (AC (AE (ek Z Z (AB Z Z (AB Z Z (AB Z Z (AD (A2 ?_))))))));exact ⟨_,[],[],A0 Z,Z,Z,Z,Z⟩
structure iQ where
 i:Int
 m:Int
 r:AU
 deriving DecidableEq
abbrev Pk:AU:=⟨0,SZ,[],[]⟩
abbrev Pz(x:iQ):D:= .agg [AF x.i,AF x.m,AF x.r.k,An x.r.acc.o,AF x.r.acc.k,An x.r.acc.a,An x.r.f,An x.r.t]
def ik(i:Int)(q:List Int):Nat:=(max (WO i q) 0).toNat
def Cx(i:Int)(q:List Int):List Int:=q.take (ik i q)
def ZB(i:Int)(af:List Int):List iQ:=(Cw af).map λx=>⟨i,x,Pk⟩
def FM(i:Int)(x:jZ):List iQ:=(Cx i x.q).map λy=>⟨i,y,x.r⟩
def Pb(p:gB)(i:Int):List iQ:=ZB i (B7 p i).af++(fy p).flatMap (FM i)
def FW(gc:Int->Bool)(l:List iQ):List iQ:=l.filter λb=>!gc b.m
def gc(M:List (Int×Bool))(x:Int):Bool:=Ac M x false
theorem cJ(i:Int)(q:List Int):ik i q<=q.length:=by grind[ik,WO]
theorem cK(i:Int)(q:List Int):max (WO i q) 0=(ik i q:Int):=by unfold ik;omega
theorem Ut(f:Int->Bool)(l m:List iQ):FW f (l++m)=FW f l++FW f m:=i7 _ _
theorem GD(f:Int->Bool)(l:List iQ):(FW f l).length<=l.length:=iI _ _
theorem J4{f:Int->Bool}{l:List iQ}(a:k<l.length):FW f (l.take (k+1))=FW f (l.take k)++(if !f l[k].m then [l[k]] else []):=Es a
theorem HO{a:Type}{f:g->List a}{l:List g}(b:k<l.length):(l.take (k+1)).flatMap f=(l.take k).flatMap f++f l[k]:=by
 rw[ψ b,List.flatMap_append];simp
theorem LB{b c:Type}{f:b->List c}{n:Nat}:∀{l:List b},(∀x∈l,(f x).length<=n)->(l.flatMap f).length<=l.length*n
 | [],_=>by simp
 | a::l,h=>by
  have j:=h a (by simp);have i:=LB (l:=l) (λx g=>h x (by simp[g]));rw[List.flatMap_cons,Δ,jj,jd];omega
theorem dQ(x:jZ)(b:x∈fy a):x.q.length<=a.it.length:=by
 unfold fy at b;obtain ⟨y,_,rfl⟩:=Θ.1 b;show (K8 (gC a) y.r).length<=_
 grind[K8,Dp]
theorem TU(i:Int)(x:jZ)(b:x∈fy a):(FM i x).length<=a.it.length:=by
 unfold FM Cx;rw[χ,ϱ];have:=dQ x b;omega
abbrev mapV(mv:Nat):AV:= .d (.raw (.map (some mv)))
abbrev kU(p:gB)(mv:Nat)(bs:Option (List Nat×Nat))(M:List (Int×Bool)):Hp:=HA p++ [(12,[.map bs (B4 AF Ah M)]),(13,[.addr 12 0 (.map (some mv))])]
theorem W9(p:gB)(g:Nat)(K:Option (List Nat×Nat))(M:List (Int×Bool))(i:Int)(hb:E6 p)(h1:p.it.length<=1000)(h2:p.ro.length<=1000):AP prog 127 [.ptr 10 0 0,mapV g,.d (AF i)] (kU p g K M) λr H'=>r= .d (.sl none ((FW (gc M) (Pb p i)).map Pz))/\H'=kU p g K M:=by
 have hI:=Qj p i;have hIb:=Rp hb i;have hLl:=Ig p;have W:=(Un (B7 p i).af (by omega)).by [(20,21)] rfl;have E:∀x∈fy p,(FM i x).length<=1000:=λx N=>gY (TU i x N) h1;have B:=FZ (B7 p i).af
 obtain ⟨S,X⟩:∃S,Cw (B7 p i).af=S:=⟨_,Z⟩
 have C:Pb p i=(S.map λx=>(⟨i,x,Pk⟩:iQ))++(fy p).flatMap (FM i):=by unfold Pb ZB;rw[X]
 rw[C];rw[X] at B;refine Av func127 Z Z ntmps127 Z Z Z λF s=>(AC ?_);refine AE (AB Z Z (AD (AC (AE (AB Z Z (AD (AC (NF 7 900 OM Z Z Z Z ?_))))))));refine AE (ek Z Z (J (L4 Z Z) (J (AK Z LF Z Z Z) (J (AO Z Z Z Tc Z) (ek Z Z (J (Sy (Co p.it) i Ag (B7 p i) Z Z Z Tr IS k7 Hk hI Z) (J (Ve Z Dz Z Z) (V (FH W Z [21] ⟨Z,trivial⟩ Z Z Z Z Z Z Z Z Z) ?_))))))));refine AB Z Z (AD (AC (AE (ek Z Z (V (Su oU (B7 p i).af (by omega) Z Z Z Z Z Z Z) (AD (AC (AC ?_))))))));rw[X];refine KL (emb:=AF) 8 21 S Z Z Z B.symm Z Z Z (AE (ek Z Z (J (BS Z E0 Z) (ek Z Z (AD (AZ (BM (α:=Nat×List iQ) (λq=>⟨81,[(0,.ptr 10 0 0),(1,mapV g),(2,.d (AF i)),(7,(.own 900 0 q.2.length)),(26,(.d (.sl none (S.map AF)))),(27,(.d (AF (S.length:Int)))),(28,(.d (AF (q.1:Int))))],kU p g K M++ [(900,[.rowD 144 8 (q.2.map Pz)])]⟩) (λq=>q.1<=S.length/\q.2=FW (gc M) ((S.map λx=>(⟨i,x,Pk⟩:iQ)).take q.1)) (λq=>S.length-q.1) ((0,[])) (⟨ζ _,Z⟩) (AX s [10,11,12,13,900] Z Z ⟨Z,Z,Z,Z,Z,Z,Z,trivial⟩) ?_)))))));rintro ⟨k,c⟩ ⟨Q,I⟩;dsimp only at Q I⊢;refine AC (AE (J (Az Z Z Z) (AD (AC (A6 Z (λA=>?_) (λA=>?_))))))
 .have t:k<S.length:=BQ A;refine AW (AC (AZ (AC (AE (J (BC (k) Z Z (Z) (A1 t) E0 Z BW Z) (J (CG Z Z Am Z) (AB Z Z (AD ?_))))))));refine AC (AE (ek Z Z (Dt 32 13 0 Z Z (ek Z Z (J (IV M S[k] false (gc M S[k]) Z Z Z Jh IS Sh Z Z) (J (NE Z Z) (AD (JC Z (λz=>?_) (λz=>?_)))))))))
  .refine AE ?_;have hal:c.length<=100000:=by rw[I];refine gY (GD _ _) ?_;rw[ϱ,χ];omega
   refine ek Z Z (ek Z Z (ek Z Z ?_));refine J (E5 ab oM Z Z Z) (V (C1 1 OM Z Z Z Z Z Z Z Z) (V (Ev (c) ([⟨i,S[k],Pk⟩]) Z Z Z Z Z Z Z Z OM (by simp only[υ];omega) Z Z Z Z) (AB Z Z (AD (AE (J (Aj Z Z (AN (k+1) (by omega)) Z) (ek Z Z (AD ?_))))))));exact ⟨(k+1,c++ [⟨i,S[k],Pk⟩]),⟨by show k+1<=_;omega,by show c++ [⟨i,S[k],Pk⟩]=FW (gc M) ((S.map λx=>(⟨i,x,Pk⟩:iQ)).take (k+1));rw[J4 (by simpa using t),iC,ς (by show (!gc M S[k])=true;simpa using z),I]⟩,by show S.length-(k+1)<S.length-k;omega,AX s [10,11,12,13,900] Z (Z) ⟨Z,Z,Z,Z,Z,Z,Z,trivial⟩⟩
  .refine AW (AE (J (Aj Z Z (AN (k+1) (by omega)) Z) (ek Z Z (AD ?_))));exact ⟨(k+1,c),⟨by show k+1<=_;omega,by show c=FW (gc M) ((S.map λx=>(⟨i,x,Pk⟩:iQ)).take (k+1));rw[J4 (by simpa using t),iC,κ (by show ¬(!gc M S[k])=true;simpa using z),iR,I]⟩,by show S.length-(k+1)<S.length-k;omega,AX s [10,11,12,13,900] Z (Z) ⟨Z,Z,Z,Z,Z,Z,Z,trivial⟩⟩
 .refine Aw (AC (AC ?_));have H:c=FW (gc M) (S.map λx=>(⟨i,x,Pk⟩:iQ)):=by rw[I,η (by rw[χ];have h:=A;omega)]
  have hal1:c.length<=100000:=by rw[H];refine gY (GD _ _) ?_;rw[χ];omega
  refine AE ?_;refine ek Z Z (J (L4 Z Z) (J (AK Z LE Z Z Z) (J (AO Z Z Z XU Z) (J (BS Z underlying227 Z) (ek Z Z (AD (AZ (BM (α:=Nat×List iQ) (λq=>⟨81,[(0,.ptr 10 0 0),(1,mapV g),(2,.d (AF i)),(7,(.own 900 0 q.2.length)),(46,(.d (.sl none ((fy p).map Oc)))),(47,(.d (AF ((fy p).length:Int)))),(48,(.d (AF (q.1:Int))))],kU p g K M++ [(900,[.rowD 144 8 (q.2.map Pz)])]⟩) (λq=>q.1<=(fy p).length/\q.2=c++FW (gc M) (((fy p).take q.1).flatMap (FM i))) (λq=>(fy p).length-q.1) ((0,c)) (⟨ζ _,by simp[FW]⟩) (AX s [10,11,12,13,900] Z Z ⟨Z,Z,Z,Z,Z,Z,Z,trivial⟩) ?_))))))));rintro ⟨m,b⟩ ⟨O,L⟩;dsimp only at O L⊢;refine AC (AE (J (Az Z Z Z) (AD (AC (A6 Z (λy=>?_) (λy=>?_))))))
  .have o:m<(fy p).length:=BQ y;refine AW (AC (AZ (AC (AE ?_))));have hql:=dQ _ (ϑ o);have T:=LB (f:=FM i) (n:=1000) (l:=(fy p).take m) (λx N=>E x (i8 N));have hbl:b.length<=1200000:=by rw[L,Δ];have:=GD (gc M) (((fy p).take m).flatMap (FM i));rw[ϱ] at T;have h3:min m (fy p).length*1000<=1000*1000:=jA _ (by omega);omega
   refine J (BC (m) Z Z (Z) (A1 o) underlying227 Z Ww Z) (J (C7 Z Z oF Z) (V (Bx 2 a7 Z Z Z Z) (V (B3 Z Z Z Z Z Z Z Ww) (AD (AC (AE ?_))))));refine J (AK Z Xu Z Z Z) (J (AO Z Z Z BH Z) (ek Z Z (J (Au (Xq (fy p)[m].q i (by omega)) Z Z) (AB Z Z (AD (AC (AE (J (AK Z Xu Z Z Z) ?_))))))));refine J (AO Z Z Z BH Z) (ek Z Z (J (RY Z Z (tM _) Z) (J (kS ((fy p)[m].q) (ik i (fy p)[m].q) Z Z Z (cK _ _) (cJ _ _) E0 BW (λ_=>rfl) Z) (J (BS Z E0 Z) (ek Z Z (AD (AZ (BM (α:=Nat×List iQ) (λq=>⟨81,[(0,.ptr 10 0 0),(1,mapV g),(2,.d (AF i)),(7,(.own 900 0 q.2.length)),(12,(.ptr 2 0 0)),(46,(.d (.sl none ((fy p).map Oc)))),(47,(.d (AF ((fy p).length:Int)))),(48,(.d (AF (m:Int)))),(60,(.d (.sl none ((Cx i (fy p)[m].q).map AF)))),(61,(.d (AF ((Cx i (fy p)[m].q).length:Int)))),(62,(.d (AF (q.1:Int))))],kU p g K M++ [(900,[.rowD 144 8 (q.2.map Pz)]),(2,[.blk 233 [.d (AF (fy p)[m].r.k),.d (An (fy p)[m].r.acc.o),.d (AF (fy p)[m].r.acc.k),.d (An (fy p)[m].r.acc.a),.d (An (fy p)[m].r.f),.d (An (fy p)[m].r.t),.d (AF (fy p)[m].n),.d (.sl none ((fy p)[m].q.map AF))]])]⟩) (λq=>q.1<=(Cx i (fy p)[m].q).length/\q.2=b++FW (gc M) ((FM i (fy p)[m]).take q.1)) (λq=>(Cx i (fy p)[m].q).length-q.1) ((0,b)) (⟨ζ _,by simp[FW]⟩) (AX s [10,11,12,13,900,2] Z Z ⟨Z,Z,Z,Z,Z,Z,Z,Z,Z,Z,Z,trivial⟩) ?_))))))));rintro ⟨j,a⟩ ⟨R,G⟩;dsimp only at R G⊢;refine AC (AE (J (Az Z Z Z) (AD (AC (A6 Z (λw=>?_) (λw=>?_))))))
   .have u:j<(Cx i (fy p)[m].q).length:=BQ w;refine AW (AC (AZ (AC (AE (J (BC (j) Z Z (Z) (A1 u) E0 Z BW Z) (J (CG Z Z Am Z) (AB Z Z (AD ?_))))))));refine AC (AE (ek Z Z (Dt 66 13 0 Z Z (ek Z Z (J (IV M (Cx i (fy p)[m].q)[j] false (gc M (Cx i (fy p)[m].q)[j]) Z Z Z Jh IS Sh Z Z) (J (NE Z Z) (AD (JC Z (λv=>?_) (λv=>?_)))))))))
    .refine AE ?_;have Y:a.length<=1300000:=by rw[G,Δ];have h3:=GD (gc M) ((FM i (fy p)[m]).take j);have h4:=E _ (ϑ o);rw[ϱ] at h3;omega
     refine ek Z Z (ek Z Z (ek Z Z (J (AK Z LD Z Z Z) (J (Ay Z Z C9 Z Z Z) ?_))));refine J (E5 ab oM Z Z Z) (V (C1 3 OM Z Z Z Z Z Z Z Z) (V (Ev (a) ([⟨i,(Cx i (fy p)[m].q)[j],(fy p)[m].r⟩]) Z Z Z Z Z Z Z Z OM (by simp only[υ];omega) Z Z Z Z) (AB Z Z (AD (AE (J (Aj Z Z (AN (j+1) (by have h5:(Cx i (fy p)[m].q).length<=1000:=by {unfold Cx;rw[ϱ];omega};omega)) Z) (ek Z Z (AD ?_))))))));exact ⟨(j+1,a++ [⟨i,(Cx i (fy p)[m].q)[j],(fy p)[m].r⟩]),⟨by show j+1<=_;omega,by show a++ [⟨i,(Cx i (fy p)[m].q)[j],(fy p)[m].r⟩]=b++FW (gc M) ((FM i (fy p)[m]).take (j+1));rw[J4 (by unfold FM;simpa using u),G,jx];congr 2;unfold FM;rw[iC,ς (by show (!gc M (Cx i (fy p)[m].q)[j])=true;simpa using v)]⟩,by show (Cx i (fy p)[m].q).length-(j+1)<(Cx i (fy p)[m].q).length-j;omega,AX s [10,11,12,13,900,2] Z (Z) ⟨Z,Z,Z,Z,Z,Z,Z,Z,Z,Z,Z,trivial⟩⟩
    .refine AW (AE (J (Aj Z Z (AN (j+1) (by have h5:(Cx i (fy p)[m].q).length<=1000:=by {unfold Cx;rw[ϱ];omega};omega)) Z) (ek Z Z (AD ?_))));exact ⟨(j+1,a),⟨by show j+1<=_;omega,by show a=b++FW (gc M) ((FM i (fy p)[m]).take (j+1));rw[J4 (by unfold FM;simpa using u),G];unfold FM;rw[iC,κ (by show ¬(!gc M (Cx i (fy p)[m].q)[j])=true;simpa using v),iR]⟩,by show (Cx i (fy p)[m].q).length-(j+1)<(Cx i (fy p)[m].q).length-j;omega,AX s [10,11,12,13,900,2] Z (Z) ⟨Z,Z,Z,Z,Z,Z,Z,Z,Z,Z,Z,trivial⟩⟩
   .have D:a=b++FW (gc M) (FM i (fy p)[m]):=by rw[G,η (by unfold FM;rw[χ];have h:=w;omega)]
    refine Aw (AE (J (Aj Z Z (AN (m+1) (by omega)) Z) (ek Z Z (AD ?_))));exact ⟨(m+1,a),⟨by show m+1<=_;omega,by show a=c++FW (gc M) (((fy p).take (m+1)).flatMap (FM i));rw[HO o,Ut,<-jx,<-L];exact D⟩,by show (fy p).length-(m+1)<(fy p).length-m;omega,AX s [10,11,12,13,900] Z (Z) ⟨Z,Z,Z,Z,Z,Z,Z,trivial⟩⟩
  .refine Aw (AC ?_);have U:b=FW (gc M) ((S.map λx=>(⟨i,x,Pk⟩:iQ))++(fy p).flatMap (FM i)):=by rw[L,H,η (by have h:=y;omega),Ut]
   refine KL (emb:=Pz) 7 900 b Z Z Z Z Z Z Z (AE (ek Z Z (AB Z Z (AD (A2 ?_)))));exact ⟨_,[10,11,12,13],_,A0 Z,Z,Z,by rw[U],Z⟩
def KG(p:gB)(f:Int->Bool)(i:Int):List iQ:=if f i then FW f (Pb p i) else []
def gU(p:gB)(f:Int->Bool):List iQ:=(JD p).flatMap (KG p f)
theorem R5(c:E6 a)(g:a.it.length<=1000)(k:a.ro.length<=1000)(i:Int):(Pb a i).length<=1100000:=by
 unfold Pb ZB;rw[Δ,χ,FZ];have j:=Rp c i;have h:=LB (f:=FM i) (n:=1000) (l:=fy a) (λx b=>gY (TU i x b) g)
 grind[Ig]
theorem Uu(b:E6 a)(g:a.it.length<=1000)(c:a.ro.length<=1000)(f:Int->Bool)(i:Int):(KG a f i).length<=1100000:=by grind[KG,GD,R5]
theorem lq{a N:Nat}(h:a<=k*N):a<=(k+1)*N:=gY h (jA _ (Nat.le_succ _))
theorem dW{a b:List g}{N:Nat}(h:a.length<=k*N)(c:b.length<=N):(a++b).length<=(k+1)*N:=by grind
theorem fR(p:gB)(g:Nat)(u:Option (List Nat×Nat))(M:List (Int×Bool))(o:E6 p)(l:p.it.length<=1000)(t:p.ro.length<=1000):AP prog 72 [.ptr 10 0 0,mapV g] (kU p g u M) λr C=>r= .d (.sl none ((gU p (gc M)).map Pz))/\C=kU p g u M:=by
 have B:∀i,(KG p (gc M) i).length<=1100000:=Uu o l t _;have j:(JD p).length<=1000:=by unfold JD;rw[χ];exact gY (Dp p) l
 have x:gU p (gc M)=(JD p).flatMap (KG p (gc M)):=rfl;rw[x];refine Av func72 Z Z ntmps72 Z Z Z λF z=>(AC (AE (AB Z Z ?_)));refine AD (AC (AE (AB Z Z (AD (AC (AC (NF 5 900 OM Z Z Z Z (AE ?_))))))));refine ek Z Z (J (L4 Z Z) (J (AK Z mP Z Z Z) (J (AO Z Z Z BH Z) (J (BS Z E0 Z) (ek Z Z (AD (AZ (BM (α:=Nat×List iQ) (λq=>⟨28,[(0,.ptr 10 0 0),(1,mapV g),(5,(.own 900 0 q.2.length)),(11,(.d (.sl none ((JD p).map AF)))),(12,(.d (AF ((JD p).length:Int)))),(13,(.d (AF (q.1:Int))))],kU p g u M++ [(900,[.rowD 144 8 (q.2.map Pz)])]⟩) (λq=>q.1<=(JD p).length/\q.2=((JD p).take q.1).flatMap (KG p (gc M))/\q.2.length<=q.1*1100000) (λq=>(JD p).length-q.1) ((0,[])) (⟨ζ _,Z,Γ _⟩) (AX z [10,11,12,13,900] Z Z ⟨Z,Z,Z,Z,Z,Z,trivial⟩) ?_))))))));rintro ⟨k,a⟩ ⟨v,s,y⟩;dsimp only at v s y⊢;refine AC (AE (J (Az Z Z Z) (AD (AC (A6 Z (λf=>?_) (λf=>?_))))))
 .have b:k<(JD p).length:=BQ f;refine AW (AC (AZ (AC (AE (J (BC (k) Z Z (Z) (A1 b) E0 Z BW Z) (J (CG Z Z Am Z) (AB Z Z ?_)))))));refine AD (AC (AE (ek Z Z (Dt 17 13 0 Z Z (ek Z Z (J (IV M (JD p)[k] false (gc M (JD p)[k]) Z Z Z Jh IS Sh Z Z) (AD (JC Z (λc=>?_) (λc=>?_)))))))))
  .refine AE (ek Z Z (ek Z Z (ek Z Z (ek Z Z (V (FH (W9 p g u M (JD p)[k] o l t) Z [10,11,12,13] ⟨Z,Z,Z,Z,trivial⟩ Z Z Z Z Z Z Z Z Z) ?_)))));have A:=gY (GD (gc M) _) (R5 o l t (JD p)[k]);refine V (QD (a) (FW (gc M) (Pb p (JD p)[k])) Z Z Z Z Z Z (λ_=>rfl) OM (by omega) Z Z Z Z) (AB Z Z (AD (AE (J (Aj Z Z (AN (k+1) (by have h:=j;omega)) Z) (ek Z Z (AD ?_))))));exact ⟨(k+1,a++FW (gc M) (Pb p (JD p)[k])),⟨by show k+1<=_;omega,by show a++FW (gc M) (Pb p (JD p)[k])=((JD p).take (k+1)).flatMap (KG p (gc M));rw[HO b,<-s];unfold KG;rw[ς (by simpa using c)],dW y (gY (GD (gc M) _) (R5 o l t (JD p)[k]))⟩,by show (JD p).length-(k+1)<(JD p).length-k;omega,AX z [10,11,12,13,900] Z (Z) ⟨Z,Z,Z,Z,Z,Z,trivial⟩⟩
  .refine AW (AE (J (Aj Z Z (AN (k+1) (by have h:=j;omega)) Z) (ek Z Z (AD ?_))));exact ⟨(k+1,a),⟨by show k+1<=_;omega,by show a=((JD p).take (k+1)).flatMap (KG p (gc M));rw[HO b,<-s];unfold KG;rw[κ (by simpa using c),iR],lq y⟩,by show (JD p).length-(k+1)<(JD p).length-k;omega,AX z [10,11,12,13,900] Z (Z) ⟨Z,Z,Z,Z,Z,Z,trivial⟩⟩
 .refine Aw (AC ?_);have w:a=(JD p).flatMap (KG p (gc M)):=by rw[s,η (by have h:=f;omega)]
  refine KL (emb:=Pz) 5 900 a Z Z Z Z Z Z Z (AE (ek Z Z (AB Z Z (AD (A2 ?_)))));exact ⟨_,[10,11,12,13],_,A0 Z,Z,Z,by rw[w],Z⟩
def GL(p:gB)(r:AU)(l:List (Int×Bool)):Int:=(l.map λe=>if e.2=true then CB (B7 p e.1) r else 0).sum
theorem L9{r:AU}{m:List (Int×Bool)}(h:c.Perm m):GL a r c=GL a r m:=cV h _
theorem Y3(p:gB)(r:AU)(e:Int×Bool)(l:List (Int×Bool)):GL p r (e::l)=(if e.2=true then CB (B7 p e.1) r else 0)+GL p r l:=by simp[GL]
theorem Nv(p:gB)(r:AU)(k:Int)(v:Bool)(l:List (Int×Bool)):GL p r ((k,v)::l)=(if v=true then CB (B7 p k) r else 0)+GL p r l:=Y3 p r (k,v) l
theorem LX(h:CZ a f=0):BB a=0:=by grind[CZ]
theorem er(i:AJ)(r:AU): -1000000000000000<=CB i r/\CB i r<=1000000000000000:=by
 unfold CB
 split
 all_goals (simp[*,Nm])
theorem VZ(p:gB)(r:AU)(h:c.length<=1000): -1000000000000000000<=GL p r c/\GL p r c<=1000000000000000000:=by
 have:=JI (l:=c) (f:=λe=>if e.2=true then CB (B7 p e.1) r else 0) (B:=1000000000000000) (λe _=>by
  show _<=(if e.2=true then _ else _)/\_;have:=er (B7 p e.1) r
  split<;>omega) 1000 h (by omega)
 unfold GL;omega
def Sk(p:gB)(M:List (Int×Bool))(x:jZ):List Ad:=if x.n+GL p x.r M<0 then [⟨x.r,0-(x.n+GL p x.r M)⟩] else []
def NI(p:gB)(M:List (Int×Bool)):List Ad:=(fy p).flatMap (Sk p M)
theorem dS(f:BB a=0)(x:jZ)(b:x∈fy a):0<=x.n/\x.n<=4000000000000000:=by
 unfold fy at b;obtain ⟨y,c,rfl⟩:=Θ.1 b;have:=Ll (P6 f).1 y ((MI a.ro).mem_iff.1 c);show 0<=max y.n 0/\max y.n 0<=_;omega
abbrev uQ(p:gB)(mv:Nat)(M:List (Int×Bool)):Hp:=HA p++ [(12,[BY AF Ah M]),(13,[.addr 12 0 (.map (some mv))])]
theorem RQ(p:gB)(j:Nat)(M:List (Int×Bool))(Q:BB p=0)(E:E6 p)(D:M.length<=1000):AP prog 74 [.ptr 10 0 0,mapV j] (uQ p j M) λr X=>r= .d (.sl none ((NI p M).map Bj))/\X=uQ p j M:=by
 have S:=E.1;have T:=Ig p;refine Av func74 Z Z ntmps74 Z Z Z λF t=>(AC (AE (AB Z Z ?_)));refine AD (AC (AE (AB Z Z (AD (AC (AC (NF 5 900 pL Z Z Z Z (AE ?_))))))));refine ek Z Z (J (L4 Z Z) (J (AK Z LE Z Z Z) (J (AO Z Z Z XU Z) (J (BS Z underlying227 Z) (ek Z Z (AD (AZ (BM (α:=Nat×List Ad) (λq=>⟨53,[(0,.ptr 10 0 0),(1,mapV j),(5,(.own 900 0 q.2.length)),(14,(.d (.sl none ((fy p).map Oc)))),(15,(.d (AF ((fy p).length:Int)))),(16,(.d (AF (q.1:Int))))],uQ p j M++ [(900,[.rowD 73 7 (q.2.map Bj)])]⟩) (λq=>q.1<=(fy p).length/\q.2=((fy p).take q.1).flatMap (Sk p M)/\q.2.length<=q.1) (λq=>(fy p).length-q.1) ((0,[])) (⟨ζ _,Z,Γ _⟩) (AX t [10,11,12,13,900] Z Z ⟨Z,Z,Z,Z,Z,Z,trivial⟩) ?_))))))));rintro ⟨k,a⟩ ⟨A,y,U⟩;dsimp only at A y U⊢;refine AC (AE (J (Az Z Z Z) (AD (AC (A6 Z (λs=>?_) (λs=>?_))))))
 .have g:k<(fy p).length:=BQ s;refine AW (AC (AZ (AC (AE ?_))));have I:=dS Q _ (ϑ g);refine J (BC (k) Z Z (Z) (A1 g) underlying227 Z Ww Z) (J (C7 Z Z oF Z) ?_);refine V (Bx 1 a7 Z Z Z Z) (V (B3 Z Z Z Z Z Z Z Ww) (AD (AC (AE (J (AK Z mO Z Z Z) (J (AO Z Z Z Fo Z) (AB Z Z (AD ?_))))))));refine AC (AC (AE (ek Z Z (Dt 22 13 0 Z Z (V (Gt 2 Z Z Z Jh Z Z Z Z) (AD (AZ (BM (α:=List Nat×Int) (λq=>⟨53,[(0,.ptr 10 0 0),(1,mapV j),(5,(.own 900 0 a.length)),(7,(.ptr 1 0 0)),(8,(.d (AF q.2))),(14,(.d (.sl none ((fy p).map Oc)))),(15,(.d (AF ((fy p).length:Int)))),(16,(.d (AF (k:Int)))),(23,(.ptr 2 0 0))],uQ p j M++ [(900,[.rowD 73 7 (a.map Bj)]),(1,[.blk 233 [.d (AF (fy p)[k].r.k),.d (An (fy p)[k].r.acc.o),.d (AF (fy p)[k].r.acc.k),.d (An (fy p)[k].r.acc.a),.d (An (fy p)[k].r.f),.d (An (fy p)[k].r.t),.d (AF (fy p)[k].n),.d (.sl none ((fy p)[k].q.map AF))]]),(2,[.iter 12 0 M.length q.1])]⟩) (λq=>q.2+GL p (fy p)[k].r (CC M (List.range M.length) q.1)=(fy p)[k].n+GL p (fy p)[k].r M) (λq=>(CC M (List.range M.length) q.1).length) (([],(fy p)[k].n)) (by show (fy p)[k].n+GL p (fy p)[k].r (CC M (List.range M.length) [])=_;rw[nX (by simp)]) (AX t [10,11,12,13,900,1,2] Z Z ⟨Z,Z,Z,Z,Z,Z,Z,Z,Z,trivial⟩) ?_))))))));rintro ⟨seen,left⟩ x;dsimp only at x⊢;refine AC (AE (Lz (M) Z Z Z Z (λv=>?_) (λz c b H u w G f=>⟨_,Z,?_⟩)))
  .have i:left=(fy p)[k].n+GL p (fy p)[k].r M:=by have W:=x;rw[v] at W;have Y:GL p (fy p)[k].r []=0:=rfl;omega
   refine J (DC Z Z Z) (AD ?_);refine AC (Cr Z Z (Aw (AC (AE (ek Z Z (J (Az Z Z Z) (AD (A6 Z (λl=>?_) (λl=>?_)))))))))
   .refine AE ?_;have K:=VZ p (fy p)[k].r D;refine ek Z Z (J (AK Z LD Z Z Z) (J (Ay Z Z C9 Z Z Z) (ek Z Z (J (bQ Z (Ξ _ (by omega)) Z) ?_))));refine J (E5 uS um Z Z Z) (V (C1 3 pL Z Z Z Z Z Z Z Z) (V (Ev (a) ([⟨(fy p)[k].r,0-left⟩]) Z Z Z Z Z Z Z Z pL (by simp only[υ];omega) Z Z Z Z) (AB Z Z (AD (AE (J (Aj Z Z (AN (k+1) (by omega)) Z) (ek Z Z (AD ?_))))))));exact ⟨(k+1,a++ [⟨(fy p)[k].r,0-left⟩]),⟨by show k+1<=_;omega,by show a++ [⟨(fy p)[k].r,0-left⟩]=((fy p).take (k+1)).flatMap (Sk p M);rw[HO g,<-y];unfold Sk;rw[<-i,ς (by simpa using l)],by show (a++ [_]).length<=k+1;rw[Δ];simp;omega⟩,by show (fy p).length-(k+1)<(fy p).length-k;omega,AX t [10,11,12,13,900] Z (Z) ⟨Z,Z,Z,Z,Z,Z,trivial⟩⟩
   .refine AW (AE (J (Aj Z Z (AN (k+1) (by omega)) Z) (ek Z Z (AD ?_))));exact ⟨(k+1,a),⟨by show k+1<=_;omega,by show a=((fy p).take (k+1)).flatMap (Sk p M);rw[HO g,<-y];unfold Sk;rw[<-i,κ (by simpa using l),iR],by show a.length<=k+1;omega⟩,by show (fy p).length-(k+1)<(fy p).length-k;omega,AX t [10,11,12,13,900] Z (Z) ⟨Z,Z,Z,Z,Z,Z,trivial⟩⟩
  .refine J (DC Z Z Z) ?_;refine AD (AC (Bw Z Z (AW (AZ (AC (AE (J (Gu (M) z c Z Z Z u w Z) (J (DC Z Z Z) ?_))))))));refine J (DC Z Z Z) (AB Z Z (AB Z Z (AD (AC (AE (ek Z Z (AD (JC Z (λo=>?_) (λo=>?_)))))))))
   .refine CK [[],[],[1],[1,2],[1,2,3],[],[1,2,3,4,5],[],[7],[1,2,3,4,5,6,7,8],rg 10,rg 11] mixed Z (By ?_);have R:=Rp E b;have O:=VZ p (fy p)[k].r D;have N:=VZ p (fy p)[k].r (gY (Xj (m:=M) (B:=List.range M.length) (seen:=seen)) D);have L:=er (B7 p b) (fy p)[k].r;refine Ap 8 Z Z (Ap 0 Z Z (AR [31] Z (L4 Z Z) (AR [32] Z (AK Z LF Z Z Z) (Ao [33] Z Z (λ_=>Aa (AO Z Z Z Tc Z)) ?_))));refine Ap 9 Z Z (Ao [34,35] Z Z (λ_=>Aa (Sy (Co p.it) b Ag (B7 p b) Z Z Z Tr IS k7 Hk (Qj p b) Z)) (AR [7] Z (AK Z LD Z Z Z) (Ao [37] Z Z (λ_=>Aa (Ay Z Z C9 Z Z Z)) (AR [36,38] Z (Au (YE (B7 p b) (fy p)[k].r (by omega) (by omega) (by omega)) Z Z) (Bu 10 Z Z Z (Ab 11 Z Z (J (Aj Z Z (Ξ _ (by omega)) Z) (AD ⟨Z,?_⟩))))))));refine Ab 12 Z Z (AB Z Z (AD ⟨Z,?_⟩));refine Bz ?_;exact ⟨(seen++ [c],left+CB (B7 p b) (fy p)[k].r),(by show left+CB (B7 p b) (fy p)[k].r+GL p (fy p)[k].r (CC M (List.range M.length) (seen++ [c]))=_;rw[<-x,L9 f,Nv,ς (by simpa using o)];omega),by show (CC M (List.range M.length) (seen++ [c])).length<(CC M (List.range M.length) seen).length;rw[f.length_eq];exact jG _,AX t [10,11,12,13,900,1,2] Z (Z) ⟨Z,Z,Z,Z,Z,Z,Z,Z,Z,trivial⟩⟩
   .refine AW ?_;exact ⟨(seen++ [c],left),(by show left+GL p (fy p)[k].r (CC M (List.range M.length) (seen++ [c]))=_;rw[<-x,L9 f,Nv,κ (by simpa using o)];omega),by show (CC M (List.range M.length) (seen++ [c])).length<(CC M (List.range M.length) seen).length;rw[f.length_eq];exact jG _,AX t [10,11,12,13,900,1,2] Z (Z) ⟨Z,Z,Z,Z,Z,Z,Z,Z,Z,trivial⟩⟩
 .refine Aw (AC ?_);have C:a=NI p M:=by rw[y,η (by have h:=s;omega)];rfl
  refine KL (emb:=Bj) 5 900 a Z Z Z Z Z Z Z (AE (ek Z Z (AB Z Z (AD (A2 ?_)))));exact ⟨_,[10,11,12,13],_,A0 Z,Z,Z,by rw[C],Z⟩
def Kz(l:List Int)(x:Int):Bool:=decide (x∈l)
theorem k9(p:gB)(l:List Int)(g:E6 p)(h:l.length<=1000):AL prog 28 [.d (Bf p),.d (.sl none (l.map AF))] (.tup [.sl none ((if CZ p l=0 then NI p (BP l) else []).map Bj),AF (CZ p l)]):=by
 by_cases b:CZ p l=0
 have a:=(OU p l g (by omega) b).by [(2,12)] rfl;have j:=LX b;rw[ς b,b];have f:=λc=>RQ p c (BP l) j g (by unfold BP;rw[χ];exact h);refine Av func28 Z Z ntmps28 Z Z Z λF i=>(AC (AE (V (Bh 1 Z Z Z Z Z Z Z) (AB Z Z (AB Z Z (AD (AC (AE ?_))))))));refine J (Ay Z Z Bp Z Z Z) (ek Z Z (V (FH a Z [10,11,12] ⟨Z,Z,Z,trivial⟩ Z Z Z Z Z Z Z Z Z) (ek Z Z (J (DC Z Z Z) (J (DC Z Z Z) (J (DC Z Z Z) (AB Z Z (AB Z Z ?_))))))));refine AB Z Z (AD (AC (AC (AE (ek Z Z (J (C6 Z Z Z) (AD (Cr Z ((by decide)) ?_))))))));refine AW (AC (VE 13 12 0 Z Z Z Z Z λc=>(YM 7 13 0 (.inl Z) Z (AE (ek Z Z (ek Z Z (V (FH (f c) Z [10,11,12,13] ⟨Z,Z,Z,Z,trivial⟩ Z Z Z Z Z Z Z Z Z) (AB Z Z ?_))))))))
 rotate_left
 have a:=T0 p l g (by omega) b;rw[κ b];refine Av func28 Z Z ntmps28 Z Z Z λF i=>(AC (AE (V (Bh 1 Z Z Z Z Z Z Z) (AB Z Z (YP 4 Z ?_)))));refine AB Z Z (AD (AC (AE (J (Ay Z Z Bp Z Z Z) (ek Z Z (J (Au (a) Z Z) (ek Z Z (J (De Z Z Z) ?_))))))));refine J (De Z Z Z) (J (De Z Z Z) (AB Z Z (AB Z Z (AB Z Z (AD (AC (AC (AE ?_))))))));refine ek Z Z (J (C6 Z Z Z) (AD (Bw Z ((gi b)) (AC (AE (ek Z Z (AB Z Z (YP 4 Z ?_))))))))
 all_goals
  refine AB Z Z (AD (A2 ?_));exact ⟨_,[],[],A0 Z,Z,Z,Z,Z⟩
theorem PC.le{a:Type}{c:a->a->Int}(h:PC c){x y z:a}(i:c x y<=0)(b:c y z<=0):c x z<=0:=by
 by_cases g:c x y=0
 .rw[h.eqv x y z g];exact b
 .by_cases j:c y z=0
  .have r:=h.anti y z;have f:c z y=0:=by omega
   have o:=h.eqv z y x f;have l:=h.anti z x;have k:=h.anti y x;omega
  .have:=h.trans x y z (by omega) (by omega);omega
theorem mm{a b:Int}:¬EB b a<0↔a<=b:=by unfold EB;split<;>(try split)<;>omega
theorem TC{c:List Int}(h:c.Perm f)(g:c.Pairwise λa b=>¬EB b a<0):c=Cw f:=by grind[List.Perm.eq_of_pairwise,KZ,DQ,EB]
theorem WQ(c:BB a=0){x:AJ}(b:x∈a.it):B7 a x.id=x:=by
 obtain ⟨f,_,e,g⟩:=Kx (p:=a) (Θ.2 ⟨x,b,Z⟩);exact mB (Da (P6 c).2.1) (by rw[e];exact ϑ f) b g
structure PV (p:gB):Prop where
 e:BB p=0
 b:E6 p
 i:p.it.length<=1000
 r:p.ro.length<=1000
 q:∀i∈p.it,i.po.length<=1000/\i.pa.length<=1000/\i.af.length<=1000
abbrev sF(n:Nat):D:= .raw (.int .u32 (n:Int))
structure kH where
 ids:List Int
 bl:List Nat
 de:List (List Int)
 rm:List Int
abbrev ua(l:List Int):D:= .sl none (l.map AF)
abbrev u3(s:kH):D:= .agg [.sl none (s.ids.map AF),.sl none (s.bl.map sF),.sl none (s.de.map ua),.sl none (s.rm.map AF)]
def vM(s:kH)(x:Nat)(i:Nat):Bool:=x.testBit i && decide (vl (s.bl.getD i 0) x≠0)
def iz(s:kH)(x:Nat):Bool:=!(List.range s.bl.length).any (vM s x)
def gZ(s:kH)(x:Nat):List Int:=((List.range s.ids.length).filter λi=>x.testBit i).map λi=>s.ids.getD i 0
def i3(n:Nat):Nat->Nat->Nat->List Nat
 | 0,_,x=> [x]
 | l+1,frm,x=>((List.range (n+1-(l+1)-frm)).map (frm+ ·)).flatMap λi=>i3 n l (i+1) (x ||| 1<<<i)
section
variable{β:Type}(step:β->Nat->β×Bool)
end
section
variable{β:Type}
def f7(s:kH):List Nat:=(List.range (s.ids.length+1)).flatMap λk=>(i3 s.ids.length k 0 0).filter (iz s)
end
variable{E:List (AJ×Nat)}{a:List AU}{c:gB}{S:List Nat}{M:List (Int×Bool)}{i:Nat}{f:List Int}{k:Nat}{g C:List Int}{h:iQ}{j:Nat->Nat}{o:Nat->Nat->Prop}{s:AU}{t:List Nat}{x:Int}{u:Bool}{w:AJ}{y:Int->Bool}{z:List AJ}{A B:Nat->Nat}{N:gK}{F:Int}{G:Nat}{H:MF}{I K L:Nat}
def u4(p:gB):List Int:=Cw (JD p)
theorem Lv(a:BB c=0):(JD c).Perm (c.it.map AJ.id):=by grind[JD,gC,aQ]
theorem bY(a:BB c=0):(u4 c).Perm (c.it.map AJ.id):=(DQ _).trans (Lv a)
theorem XF(a:BB c=0)(x:Int):x∈u4 c↔x∈c.it.map AJ.id:=(bY a).mem_iff
theorem pQ(k:BB c=0)(A:F∈c.it.map AJ.id)(s:h∈Pb c F):h.m∈u4 c:=by
 rw[XF k];unfold Pb at s;rcases ϖ.1 s with a | a
 .unfold ZB at a;obtain ⟨x,u,rfl⟩:=Θ.1 a;have j:=(DQ _).mem_iff.1 u;obtain ⟨w,_,B,_⟩:=Kx A;rw[B] at j;have C:=HK (P6 k).2.2 _ (Θ.2 ⟨_,ϑ w,Z⟩)
  grind[Pw,Ib]
 .obtain ⟨y,l,a⟩:=ja.1 a;unfold FM at a;obtain ⟨z,t,rfl⟩:=Θ.1 a;have g:z∈y.q:=i8 t;unfold fy at l;obtain ⟨r,_,rfl⟩:=Θ.1 l;have f:z∈K8 (gC c) r.r:=g;unfold K8 at f;obtain ⟨o,v,rfl⟩:=Θ.1 f;exact (Lv k).mem_iff.1 (Θ.2 ⟨o,(gk.1 v).1,Z⟩)
structure vn (s:kH):Prop where
 n:s.ids.length<=20
 b:s.bl.length<=20
 u:∀b∈s.bl,b<4294967296
 r:s.rm.length<=1000
 d:s.de.length=s.rm.length
 v:∀r∈s.de,r.length<=32/\∀v∈r,-1000000000000000<=v/\v<=1000000000000000
 m:∀v∈s.rm,0<=v/\v<=4000000000000000
deriving instance DecidableEq for jZ
theorem Yo:Cw []=[]:=je (FZ [])
inductive YY (p:gB) (S:List Int):Int->Prop
 | base {x:Int} (h:x∈S):YY p S x
 | step {i:Int} {b:iQ} (h:YY p S i) (hb:b∈Pb p i):YY p S b.m
theorem YY.ids(a:BB c=0)(i:∀x∈f,x∈c.it.map AJ.id)(h:YY c f x):x∈c.it.map AJ.id:=by
 induction h with
 | base h=>exact i _ h
 | step _ g b=>exact (XF a _).1 (pQ a b g)
theorem Us(a:h∈gU c y):∃i,i∈JD c/\y i=true/\h∈Pb c i/\y h.m=false:=by
 unfold gU at a;obtain ⟨i,g,a⟩:=ja.1 a;unfold KG at a
 split at a
 .rename_i j
  obtain ⟨l,k⟩:=gk.1 a
  grind
 .cases a
theorem M8(g:BB c=0)(a:gU c y=[])(j:F∈c.it.map AJ.id)(k:y F=true)(l:h∈Pb c F):y h.m=true:=by
 cases hm:y h.m with
 | true=>rfl
 | false=>
  have:h∈gU c y:=ja.2 ⟨F,(Lv g).mem_iff.2 j,by unfold KG;rw[ς k];exact gk.2 ⟨l,by rw[hm];rfl⟩⟩
  grind
noncomputable def gv(p:gB)(S:List Int):List Int:=Cw ((p.it.map AJ.id).filter λx=> @decide (YY p S x) (Classical.propDecidable _))
theorem OK{m:List Int}(h:g.Perm m):Cw g=Cw m:=TC ((DQ g).trans h) ((KZ g).imp λh=>mm.2 h)
theorem YI{C:List Int}(b:BB c=0)(j:∀x∈f,x∈c.it.map AJ.id)(g:C.Nodup)(h:∀x,x∈C↔YY c f x):Cw C=gv c f:=by
 unfold gv;have i:=Da (P6 b).2.1;refine OK ((List.perm_ext_iff_of_nodup g (List.Nodup.sublist jM i)).2 λx=>?_);rw[h x,gk]
 constructor
 .intro a;exact ⟨a.ids b j,by simpa using a⟩
 simp
theorem Qt{f:Type}{q r:f->Bool}:∀{l:List f},(∀x∈l,q x=true->r x=true)->(∃x,x∈l/\r x=true/\q x=false)->(l.filter q).length<(l.filter r).length
 | [],_,⟨x,b,_⟩=>by cases b
 | a::l,h,⟨x,b,o,k⟩=>by
  have i:∀{l:List f},(∀x∈l,q x=true->r x=true)->(l.filter q).length<=(l.filter r).length:=by
   intro l
   induction l with
   | nil=>intro _;exact Γ _
   | cons c l g=>
    intro h;have s:=g λx b=>h x (ip _ b);have j:=h c iV;rw[jS,jS]
    cases hq:q c with
    | false=>cases r c<;>simp<;>omega
    | true=>rw[j hq];simp;exact s
  have t:=i (l:=l) λx b=>h x (ip _ b);rw[jS,jS];rcases Υ.1 b with rfl | b
  .rw[o,k];simp;omega
  .have g:=Qt (l:=l) (λx b=>h x (ip _ b)) ⟨x,b,o,k⟩;have j:=h a iV
   cases hq:q a with
   | false=>cases r a<;>simp<;>omega
   | true=>rw[j hq];simp;exact g
structure Cl (p:gB) (S C:List Int):Prop where
 n:C.Nodup
 s:∀x∈S,x∈C
 r:∀x∈C,YY p S x
theorem Cl.len(h:Cl c f C)(b:BB c=0)(i:∀x∈f,x∈c.it.map AJ.id):C.length<=c.it.length:=by
 have g:=Da (P6 b).2.1
 have j:=((List.perm_ext_iff_of_nodup h.n (List.Nodup.sublist (jM (p:=λx=>decide (x∈C))) g)).2 λx=>by
  rw[gk]
  exact ⟨λa=>⟨(h.r x a).ids b i,by simpa using a⟩,λa=>by simpa using a.2⟩).length_eq
 grind
theorem Cl.done(h:Cl c f C)(g:BB c=0)(j:∀x∈f,x∈c.it.map AJ.id)(s:gU c (Kz C)=[]):Cw C=gv c f:=by
 refine YI g j h.n λx=>⟨h.r x,λa=>?_⟩
 induction a with
 | base l=>exact h.s _ l
 | @step i b a o k=>
  have r:=M8 g s (a.ids g j) (gi k) o
  simpa [Kz] using r
theorem Cl.add(a:Cl c f C)(l:h∈gU c (Kz C)):Cl c f (C++ [h.m])/\h.m∉C:=by
 obtain ⟨i,_,s,r,o⟩:=Us l;have k:i∈C:=by simpa [Kz] using s
 have j:h.m∉C:=by simpa [Kz] using o
 refine ⟨⟨?_,λx g=>ϖ.2 (.inl (a.s x g)),λx g=>?_⟩,j⟩
 .rw[kC];refine ⟨a.n,by simp,λx g y t e=>?_⟩
  grind
 .rcases ϖ.1 g with g | g
  .exact a.r x g
  .rw[θ.1 g];exact .step (a.r i k) r
theorem Cl.dec{D:List Int}{m:Int}(b:m∈c.it.map AJ.id)(i:m∉C)(g:m∈D)(h:∀x∈C,x∈D):((c.it.map AJ.id).filter λx=>!Kz D x).length<((c.it.map AJ.id).filter λx=>!Kz C x).length:=
 Qt (λx _ a=>by
  have:x∉D:=by simpa [Kz] using a
  have:x∉C:=λf=>this (h x f)
  simpa [Kz] using this) ⟨m,b,by simpa [Kz] using i,by simpa [Kz] using g⟩
theorem aF(a:E6 c)(g:c.it.length<=1000)(b:c.ro.length<=1000)(f:Int->Bool):(gU c f).length<=1100000000:=by
 unfold gU;have h:=LB (f:=KG c f) (n:=1100000) (l:=JD c) (λx _=>Uu a g b f x)
 grind[JD,Dp]
def D0(M:List (Int×Bool)):List Int:=(M.filter λe=>e.2).map Prod.fst
theorem Nx(k:Int)(v:Bool)(M:List (Int×Bool)):D0 ((k,v)::M)=(if v=true then [k] else [])++D0 M:=by
 unfold D0;cases v<;>simp
theorem Nw{l m:List (Int×Bool)}(h:l.Perm m):(D0 l).Perm (D0 m):=(h.filter _).map _
theorem Y6(M:List (Int×Bool)):(D0 M).length<=M.length:=by unfold D0;rw[χ];exact iI _ _
abbrev vU(mv:Nat)(B:List Nat)(c:Nat)(M:List (Int×Bool)):Hp:=[(12,[.map (some (B,c)) (B4 AF Ah M)]),(13,[.addr 12 0 (.map (some mv))])]
theorem bU(j:Nat)(B:List Nat)(c:Nat)(M:List (Int×Bool))(z:B.length=M.length)(E:M.length<=100000):AP prog 73 [mapV j] (vU j B c M) λr A=>r= .own 900 0 (D0 M).length/\A=vU j B c M++ [(900,[.rowD 3 1 ((Cw (D0 M)).map AF)])]:=by
 have D:=Y6 M;refine Av func73 Z Z ntmps73 Z Z Z λF u=>?_;refine AC (AE (AB Z Z (AD (AC (AE (AB Z Z (AD (AC ?_))))))));refine AC (NF 3 900 BR Z Z Z Z (AE (ek Z Z (Dt 6 13 0 Z Z (V (Gt 1 Z Z Z Jh Z Z Z Z) (AD (AZ (BM (α:=List Nat×List Int) (λq=>⟨21,[(3,(.own 900 0 q.2.length)),(7,(.ptr 1 0 0))],vU j B c M++ [(900,[.rowD 3 1 (q.2.map AF)]),(1,[.iter 12 0 c q.1])]⟩) (λq=>(q.2++D0 (CC M B q.1)).Perm (D0 M)) (λq=>(CC M B q.1).length) (([],[])) (by show ([]++D0 (CC M B [])).Perm _;rw[nX z];exact List.Perm.refl _) (AX u [12,13,900,1] Z Z ⟨Z,Z,trivial⟩) ?_))))))));rintro ⟨seen,a⟩ i;dsimp only at i⊢;refine AC (AE (Lz (M) Z Z Z Z (λs=>?_) (λw h l C o t y f=>⟨_,Z,?_⟩)))
 .have b:a.Perm (D0 M):=by have k:=i;rw[s] at k;simpa [D0] using k
  refine J (DC Z Z Z) (AD (AC (Cr Z Z (Aw (AC (AE ?_))))));have v:=b.length_eq;refine ek Z Z (V (Su oU a (by omega) Z Z Z Z Z Z Z) (AD (AC (AE (ek Z Z (AB Z Z (AD (A2 ?_))))))));exact ⟨_,[12,13,900],_,A0 Z,Z,Z,by rw[b.length_eq],by rw[OK b];rfl⟩
 .refine J (DC Z Z Z) ?_;refine AD (AC (Bw Z Z (AW (AZ (AC (AE (J (Gu (M) w h Z Z Z o t Z) (J (DC Z Z Z) ?_))))))));refine J (DC Z Z Z) (AB Z Z (AB Z Z (AD (AC (AE (ek Z Z (AD (JC Z (λg=>?_) (λg=>?_)))))))))
  .refine AE (ek Z Z ?_);have x:a.length<=100000:=by have k:=i.length_eq;rw[Δ] at k;omega
   refine ek Z Z (V (C1 30 BR Z Z Z Z Z Z Z Z) (V (Ev (a) ([l]) Z Z Z Z Z Z Z Z BR (by simp only[υ];omega) Z Z Z Z) (AB Z Z (AD ?_))));exact ⟨(seen++ [h],a++ [l]),(by show ((a++ [l])++D0 (CC M B (seen++ [h]))).Perm _;refine List.Perm.trans (List.Perm.trans ?_ (List.Perm.append_left a (Nw f)).symm) i;rw[Nx,ς (by simpa using g),jx]),by show (CC M B (seen++ [h])).length<(CC M B seen).length;rw[f.length_eq];exact jG _,AX u [12,13,900,1] Z (Z) ⟨Z,Z,trivial⟩⟩
  .refine AW ?_;exact ⟨(seen++ [h],a),(by show (a++D0 (CC M B (seen++ [h]))).Perm _;refine List.Perm.trans (List.Perm.trans ?_ (List.Perm.append_left a (Nw f)).symm) i;rw[Nx,κ (by simpa using g),jR]),by show (CC M B (seen++ [h])).length<(CC M B seen).length;rw[f.length_eq];exact jG _,AX u [12,13,900,1] Z (Z) ⟨Z,Z,trivial⟩⟩
def VA(M:List (Int×Bool)):Prop:=∀e∈M,e.2=true
def gE(M:List (Int×Bool)):List Int:=M.map Prod.fst
theorem Y7(h:VA M):D0 M=gE M:=by
 unfold D0 gE;rw[List.filter_eq_self.2 h]
theorem Xr(h:VA M):gc M=Kz (gE M):=by grind[gc,Kz,gE,Ie,JS,VA]
theorem fb(h:VA M)(x:Int):VA (BX M x true):=λe i=>by
 obtain ⟨j,c,rfl⟩:=jC.1 i;have g:=N8 (m:=M) (a:=x) (b:=true)
 by_cases e:j=gT M x
 .subst e;have:=g.1;rw[ω c] at this;injection this with this;rw[this]
 .have f:=g.2 j e;rw[ω c] at f;exact h _ (ξ f.symm)
theorem Oh(M:List (Int×Bool))(x:Int)(b:Bool):gE (BX M x b)=if x∈gE M then gE M else gE M++ [x]:=MC
theorem Cl.put(h:Cl c f (gE M))(l:YY c f x):Cl c f (gE (BX M x true)):=by
 rw[Oh]
 split
 .exact h
 .rename_i j
  refine ⟨?_,λy g=>ϖ.2 (.inl (h.s y g)),λy g=>?_⟩
  .rw[kC];exact ⟨h.n,by simp,λa k b i e=>by rw[θ] at i;subst i;subst e;exact j k⟩
  .rcases ϖ.1 g with g | g
   .exact h.r y g
   grind
theorem bd(l:List Int):VA (BP l):=λe a=>by
 unfold BP at a;obtain ⟨x,_,rfl⟩:=Θ.1 a;rfl
theorem Ys(l:List Int):gE (BP l)=l:=by unfold gE BP;rw[gw];exact List.map_id' l
theorem mp(p:gB)(l:List Int)(j:E6 p)(hl:l.length<=1000)(U:p.it.length<=1000)(T:p.ro.length<=1000)(R:CZ p l=0)(W:l.Nodup)(L:∀x∈l,x∈p.it.map AJ.id):AP prog 27 [.d (Bf p),.d (.sl none (l.map AF))] [] λr Y=>r= .tup [.own 900 0 (gv p l).length,.d (AF 0)]/\Y=[(900,[.rowD 3 1 ((gv p l).map AF)])]:=by
 have G:=(OU p l j (by omega) R).by [(2,12)] rfl;have O:=LX R;have A:=λg M=>fR p g (some (List.range M.length,M.length)) M j U T;refine Av func27 Z Z ntmps27 Z Z Z λF E=>(AC (AE (V (Bh 1 Z Z Z Z Z Z Z) ?_)));refine AB Z Z (AB Z Z (AD (AC (AE (J (Ay Z Z Bp Z Z Z) (ek Z Z (V (FH G Z [10,11,12] ⟨Z,Z,Z,trivial⟩ Z Z Z Z Z Z Z Z Z) (ek Z Z ?_))))))));refine J (DC Z Z Z) (J (DC Z Z Z) (J (DC Z Z Z) (AB Z Z (AB Z Z (AB Z Z (AD (AC (AC ?_))))))));refine AE (ek Z Z (J (C6 Z Z Z) (AD (Cr Z ((by decide)) (AW (AC (AC (VE 13 12 0 Z Z Z Z Z λg=>?_))))))));refine YM 7 13 0 (.inl Z) Z (AE (ek Z Z (ek Z Z (V (FH (A g (BP l)) Z [10,11,12,13] ⟨Z,Z,Z,Z,trivial⟩ Z Z Z Z Z Z Z Z Z) (AB Z Z (AD (AZ (BM (α:=List (Int×Bool)) (λM=>⟨43,[(6,(.ptr 10 0 0)),(7,(mapV g)),(9,(.d (.sl none ((gU p (gc M)).map Pz))))],kU p g (some (List.range M.length,M.length)) M⟩) (λM=>VA M/\Cl p l (gE M)) (λM=>((p.it.map AJ.id).filter λx=>!Kz (gE M) x).length) (BP l) (⟨bd l,by rw[Ys];exact ⟨W,λ_ h=>h,λ_ h=> .base h⟩⟩) (AX E [10,11,12,13] Z Z ⟨Z,Z,Z,trivial⟩) ?_))))))));rintro M ⟨D,B⟩;refine AC (AC (AE (ek Z Z ?_)));have X:(gU p (gc M)).length<=1100000000:=aF j U T _;refine J (BS Z underlying141 Z) (J (HV Z Z Z) (AD (A6 Z (λu=>?_) (λu=>?_))))
 .refine AW (AC (AZ (AC ?_)));have w:0<(gU p (gc M)).length:=by have h:=u;omega
  have f:∀b∈gU p (gc M),YY p l b.m/\b.m∉gE M:=λb j=>by rw[Xr D] at j;exact ⟨(B.add j).1.r _ (by simp),(B.add j).2⟩
  refine AE (ek Z Z (J (BS Z underlying141 Z) (ek Z Z (AD (AZ (BM (α:=Nat×List (Int×Bool)) (λq=>⟨43,[(6,(.ptr 10 0 0)),(7,(mapV g)),(31,(.d (.sl none ((gU p (gc M)).map Pz)))),(32,(.d (AF ((gU p (gc M)).length:Int)))),(33,(.d (AF (q.1:Int))))],kU p g (some (List.range q.2.length,q.2.length)) q.2⟩) (λq=>q.1<=(gU p (gc M)).length/\VA q.2/\Cl p l (gE q.2)/\(∀x∈gE M,x∈gE q.2)/\(0<q.1->(gU p (gc M))[0].m∈gE q.2)) (λq=>(gU p (gc M)).length-q.1) ((0,M)) (⟨ζ _,D,B,λ_ h=>h,λh=>absurd h (jz 0)⟩) (AX E [10,11,12,13] Z Z ⟨Z,Z,Z,Z,Z,trivial⟩) ?_))))));rintro ⟨k,v⟩ ⟨H,o,s,a,c⟩;dsimp only at H o s a c⊢;refine AC (AE (J (Az Z Z Z) (AD (AC (A6 Z (λt=>?_) (λt=>?_))))))
  .have y:k<(gU p (gc M)).length:=BQ t;refine AW (AC (AZ ?_));refine AC (AE (J (BC (k) Z Z (Z) (A1 y) underlying141 Z ns Z) (J (C7 Z Z s5 Z) (V (Bx 2 ab Z Z Z Z) (V (B3 Z Z Z Z Z Z Z ns) (AD (AE (ek Z Z ?_))))))));refine Dt 37 13 0 Z Z (J (AK Z mQ Z Z Z) (J (AO Z Z Z Am Z) (V (VH (v) ((gU p (gc M))[k].m) (true) Z Z Z Jh IS Z Z) (AD (AE (J (Aj Z Z (AN (k+1) (by omega)) Z) (ek Z Z (AD ?_))))))));exact ⟨(k+1,BX v (gU p (gc M))[k].m true),⟨by show k+1<=_;omega,fb o _,s.put (f _ (ϑ y)).1,λx Q=>by show x∈gE (BX v _ true);rw[Oh];split;exact a x Q;exact ϖ.2 (.inl (a x Q)),λ_=>by show _∈gE (BX v _ true);rw[Oh];rcases Nat.eq_zero_or_pos k with C | C;subst C;split;assumption;simp;split;exact c C;exact ϖ.2 (.inl (c C))⟩,by show (gU p (gc M)).length-(k+1)<(gU p (gc M)).length-k;omega,AX E [10,11,12,13] Z (Z) ⟨Z,Z,Z,Z,Z,trivial⟩⟩
  .have z:((p.it.map AJ.id).filter λx=>!Kz (gE v) x).length<((p.it.map AJ.id).filter λx=>!Kz (gE M) x).length:=Cl.dec ((f _ (ϑ w)).1.ids O L) (f _ (ϑ w)).2 (c (by have h:=t;omega)) a;refine Aw (AE (ek Z Z (ek Z Z (V (FH (A g v) Z [10,11,12,13] ⟨Z,Z,Z,Z,trivial⟩ Z Z Z Z Z Z Z Z Z) (AB Z Z (AD ?_))))));exact ⟨v,⟨o,s⟩,z,AX E [10,11,12,13] Z (Z) ⟨Z,Z,Z,trivial⟩⟩
 .refine Aw (AC ?_);have K:gU p (Kz (gE M))=[]:=by rw[<-Xr D];exact je (by have h:=u;omega)
  have N:M.length<=100000:=by have S:=B.len O L;unfold gE at S;rw[χ] at S;omega
  have i:Cw (D0 M)=gv p l:=by rw[Y7 D];exact B.done O L K
  have I:(D0 M).length=(gv p l).length:=by rw[<-i,FZ]
  refine AE (ek Z Z (V (FH (bU g (List.range M.length) M.length M (by simp) N) Z [12,13,900] ⟨Z,Z,Z,trivial⟩ Z Z Z Z Z Z Z Z Z) (AB Z Z (AB Z Z (AD (A2 ?_))))));exact ⟨_,[900],_,A0 Z,Z,Z,by rw[I],by rw[i]⟩
inductive kW (p:gB) (S:List Int):Int->Prop
 | base {i:Int} {b:iQ} (hb:b∈Pb p i) (h:b.m∉S):kW p S i
 | step {i:Int} {b:iQ} (hb:b∈Pb p i) (h:kW p S b.m):kW p S i
theorem s8(a:h∈Pb c F):h.i=F:=by grind[Pb,ZB,FM]
noncomputable def tX(p:gB)(S:List Int):List Int:=Cw (S.filter λx=> @decide (¬kW p S x) (Classical.propDecidable _))
structure Ci (p:gB) (S C:List Int):Prop where
 n:C.Nodup
 s:∀x∈C,x∈S
 r:∀x∈S,x∉C->kW p S x
theorem Ci.done(h:Ci c f C)(o:BB c=0)(u:f.Nodup)(r:∀x∈f,x∈c.it.map AJ.id)(s:gU c (Kz C)=[]):Cw C=tX c f:=by
 have j:∀x,kW c f x->x∉C:=λx a=>by
  induction a with
  | @base i b k v=>
   intro g;have l:=M8 o s (r _ (h.s _ g)) (gi g) k;exact v (h.s _ (by simpa [Kz] using l))
  | @step i b k _ t=>
   intro g;have l:=M8 o s (r _ (h.s _ g)) (gi g) k;exact t (by simpa [Kz] using l)
 unfold tX;refine OK ((List.perm_ext_iff_of_nodup h.n (List.Nodup.sublist jM u)).2 λx=>?_);rw[gk]
 constructor
 .intro a;exact ⟨h.s x a,by simpa using λw=>j x w a⟩
 .intro a;have z:¬kW c f x:=by simpa using a.2
  exact Classical.byContradiction λy=>z (h.r x a.1 y)
theorem Ci.drop(a:Ci c f C)(o:h∈gU c (Kz C)):kW c f h.i/\h.i∈C:=by
 obtain ⟨i,_,s,g,r⟩:=Us o;have l:i∈C:=by simpa [Kz] using s
 have k:h.m∉C:=by simpa [Kz] using r
 rw[s8 g];refine ⟨?_,l⟩
 by_cases j:h.m∈f
 .exact .step g (a.r _ j k)
 .exact .base g j
theorem Ci.rest(h:Ci c f C)(g:kW c f x):Ci c f (C.filter λy=>decide (y≠x)):=by
 refine ⟨List.Nodup.sublist jM h.n,λy a=>h.s y (gk.1 a).1,λy a i=>?_⟩
 by_cases b:y∈C
 .grind
 .exact h.r y a b
theorem dH(M:List (Int×Bool))(x:Int):gT M x=(gE M).idxOf x:=by
 induction M with
 | nil=>rfl
 | cons e r a=>
  grind[gT,gE]
theorem d8(a:(gE M).Nodup)(x:Int):gE (qA M x)=(gE M).filter λy=>decide (y≠x):=by
 unfold qA;rw[dH];show ((M.eraseIdx _).map Prod.fst)=_;rw[Xe];show (gE M).eraseIdx _=_;rw[<-List.erase_eq_eraseIdx_of_idxOf Z,List.Nodup.erase_eq_filter a]
 grind
theorem Ci.del(h:Ci c f (gE M))(a:kW c f x):Ci c f (gE (qA M x)):=by
 rw[d8 h.n];exact h.rest a
theorem aB(h:CZ c g=0):g.Nodup:=by
 have k:=LX h;unfold CZ at h;rw[κ (by omega)] at h;unfold K0 at h;rw[List.Nodup,ia];intro i j r a f e;have b:=HK h _ (Θ.2 ⟨j,Ψ.2 a,Z⟩);unfold Eu at b;rw[FG 0 a] at b;have o:g[j]∈g.take j:=by rw[<-e];exact jh.2 ⟨i,by omega,Z⟩
 grind
theorem fJ{p:gB}{l:List Int}:(gv p l).length<=p.it.length:=by grind[gv,FZ]
abbrev Gl(l:List Int):D:= .sl none (l.map AF)
abbrev Xf(l:List (List Int)):D:= .sl none (l.map Gl)
def q8(k:Nat):Nat->Nat:=λj=>if j<k then j else 0
theorem dt(k:Nat):BJ (q8 k) k k=q8 (k+1):=by grind[L6,q8,HX]
theorem dq:(λ_:Nat=>0)=q8 0:=by funext j;unfold q8;rw[κ (by omega)]
def Pu(f:Nat->Nat)(k j:Nat):List Nat:=(List.range j).filter λi=>decide (f i=k)
theorem d6(h:j G=k):Pu j k (G+1)=Pu j k G++ [G]:=by unfold Pu;rw[iM,i7];simp[h]
theorem Za(h:¬j G=k):Pu j k (G+1)=Pu j k G:=by unfold Pu;rw[iM,i7];simp[h]
theorem d5(f:Nat->Nat)(k j:Nat):(Pu f k j).length<=j:=gY (iI _ _) (by rw[iF];exact Γ _)
theorem Cn.trans(h:Cn a E i G)(b:Cn a E G k):Cn a E i k:=Rh.trans h b
abbrev Y4(rs:List AU)(E:List (AJ×Nat))(i:Nat):List AU:=(dR rs (DK E i)).map Prod.fst
theorem rA(c:i<E.length)(b:G<E.length)(g:s∈Y4 a E i)(f:s∈Y4 a E G):Cn a E i G:=Rh.one (Ec.2 ⟨c,b,.inr (.inr ⟨s,g,f⟩)⟩)
theorem rB{rs:List AU}{i j:Nat}(b:i<E.length)(a:j<E.length)(h:(DK E i).id∈(DK E j).af):Cn rs E i j:=Rh.one (Ec.2 ⟨b,a,.inr (.inl h)⟩)
structure r6 (rs:List AU) (E:List (AJ×Nat)) (f:Nat->Nat):Prop where
 uf:UF E.length (Cn rs E) f
 us:∃U,QG rs E (λi r=>i<E.length/\r∈Y4 rs E i) U f
 af:∀i,i<E.length->∀j,j<E.length->(DK E j).id∈(DK E i).af->f j=f i
theorem r6.full(h:r6 a E j):∀i b,i<E.length->b<E.length->Cn a E i b->j i=j b:=λi b z w t=>by
 obtain ⟨U,l⟩:=h.us;refine (Rh.clos (p:=λx=>j i=j x) (λv s y o=>?_) t Z);obtain ⟨k,g,c⟩:=Ec.1 o;rw[s];rcases c with c | c | ⟨r,c,u⟩
 .exact (h.af v k y g c).symm
 .exact h.af y g v k c
 .rw[<-(l.has v r ⟨k,c⟩).2,(l.has y r ⟨g,u⟩).2]
theorem fB(p:gB)(l:List Int)(f:E6 p)(c:l.length<=100000)(a:p.it.length<=1000)(g:CZ p l≠0):AL prog 23 [.d (Bf p),.d (Gl l)] (.tup [.sl (some true) [],AF (CZ p l)]):=by
 have b:=J3 p l f c a;refine Av func23 Z Z ntmps23 Z Z Z λF h=>?_;refine AC (AE (V (Bh 1 Z Z Z Z Z Z Z) (AB Z Z (AB Z Z (AD (AC (AC (AE ?_))))))));refine J (Ay Z Z Bp Z Z Z) (ek Z Z (J (Au (b) Z Z) (AB Z Z (AD (AC (AE (ek Z Z (J (C6 Z Z Z) ?_))))))));refine AD (Bw Z (gi g) (AC (AE (ek Z Z (AB Z Z (AB Z Z (AD (A2 ?_))))))));exact ⟨_,[],[],A0 Z,Z,Z,Z,Z⟩
theorem On(h:(z.map AJ.id).Nodup){q:AJ->Bool}(a:E.map Prod.fst=z.filter q):kT E:=by grind[jM,S2,ia,kT]
noncomputable def ga(rs:List AU)(E:List (AJ×Nat)):List (List Int):=(jY E.length (Cn rs E)).map (BF E)
theorem qz(p:gB)(l:List Int)(hf:GJ p)(hl:l.length<=100000)(hC:CZ p l=0)(hE:BB p=0)(hn:l.Nodup):
  AP prog 23 [.d (Bf p),.d (Gl l)] [] λr H'=>∃E:List (AJ×Nat),E.map Prod.fst=(gC p).filter (λi=>decide (i.id∈l))/\r= .d (.tup [Xf (ga (gJ p) E),AF 0])/\H'=[]:=by
 have hi30:=hf.i;have hck:=J3 p l hf.b hl (by omega);rw[hC] at hck;have hids:((gC p).map AJ.id).Nodup:=GY hE;have hol:(gC p).length<=30:=by rw[show gC p=BN p.it from ς hE,aW];exact hi30
 have hxm:∀i∈gC p,i∈p.it:=λi hi=>by rw[show gC p=BN p.it from ς hE] at hi;exact (aQ p.it).mem_iff.1 hi
 refine Av func23 Z Z ntmps23 Z Z Z λF v=>(AC (AE (V (Bh 1 Z Z Z Z Z Z Z) (AB Z Z (AB Z Z (AD ?_))))));refine AC (AC (AE (J (Ay Z Z Bp Z Z Z) (ek Z Z (J (Au (hck) Z Z) (AB Z Z (AD (AC ?_))))))));refine AE (ek Z Z (J (C6 Z Z Z) (AD (Cr Z (gp (by decide)) (AW (AC (CK [[],[],[1],[0,1,2],[0,1,2,3]] mixed Z (vI (γ:=Nat×MF) 3 (λq=>⟨154,[(2,.ptr 1 0 0),(35,.d (Bf p)),(37,.d (Pa q.1))],[(41,[.multi q.2])]⟩) (λq=>HU q.2 q.1 l) Z Z Z ?_ ?_ (λa hI=>?_)))))))))
 .refine J (Ay Z Z Bp Z Z Z) (AD ⟨Z,?_⟩);refine ek Z Z (AD ⟨Z,?_⟩);refine Ca (VV (Gp l hn (by omega)) Z [41] ⟨Z,trivial⟩ Z Z Z Z (λr H' ⟨b,N,G,D,_⟩=>by subst G D;exact ⟨Z,Z,Z⟩) Z) Z ?_;rintro _ ⟨r,H',⟨b,N,G,D,hW⟩,rfl⟩;subst G D;refine AD ⟨Z,?_⟩;exact ⟨(b,N),hW,AX v [41] Z Z ⟨Z,Z,Z,trivial⟩⟩
 .refine ek Z Z (AD ⟨Z,?_,?_⟩);refine J (Ay Z Z Bp Z Z Z) (AD ⟨Z,?_⟩);refine Ca (VV (Gp l hn (by omega)) Z [41] ⟨Z,trivial⟩ Z Z Z Z (λr H' ⟨b,N,G,D,_⟩=>by subst G D;exact ⟨Z,Z,Z⟩) Z) Z ?_;rintro _ ⟨r,H',⟨b,N,G,D,hW⟩,rfl⟩;subst G D
  rotate_left
  refine Ca (VV (Gp l hn (by omega)) Z [41] ⟨Z,trivial⟩ Z Z Z Z (λr H' ⟨b,N,G,D,_⟩=>by subst G D;exact ⟨Z,Z,Z⟩) Z) Z ?_;rintro _ ⟨r,H',⟨b,N,G,D,hW⟩,rfl⟩;subst G D;refine AD ⟨Z,?_⟩;refine J (Ay Z Z Bp Z Z Z) ?_
  all_goals
   refine AD ⟨Z,?_⟩;exact ⟨(b,N),hW,AX v [41] Z Z ⟨Z,Z,Z,trivial⟩⟩
 .obtain ⟨b,N⟩:=a;have hW:HU N b l:=hI;refine Ab 4 Z Z ?_;refine Ca (VV (MV p hE hf WF [pD b 0] N (λid=>decide (id∈l)) (EK hW)) Z [41,40] ⟨Z,Z,trivial⟩ Z Z Z Z (λr H' ⟨E,M,G,D,_⟩=>by subst G D;exact ⟨Z,Z,Z⟩) Z) Z ?_;rintro _ ⟨r,H',⟨E,M,G,D,hR,hEq⟩,rfl⟩;subst G D;refine AD ⟨Z,?_⟩;refine Ab 5 Z Z (AB Z Z (AD ⟨Z,?_⟩));refine Bz (AC ?_)
  obtain ⟨n,w⟩:∃n,E.length=n:=⟨_,Z⟩
  have hn30:n<=30:=by have h1:(E.map Prod.fst).length<=(gC p).length:=(by rw[hEq];exact iI _ _);rw[χ,w] at h1;omega
  have hIt:∀k,k<n->DK E k∈gC p:=λk hk=>by have h1:DK E k∈E.map Prod.fst:=(by rw[S2 (by omega)];exact jg (ϑ _));rw[hEq] at h1;exact (gk.1 h1).1
  have hId:kT E:=On hids hEq;have R:(E.map Ct).length=n:=by rw[χ,w]
  refine AE (ek Z Z (J (Jd Z R cl Z) (V (FL 2 BR Z Z Z (by omega) oj Z Z Z Z) ?_)));rw[pR,dq];refine V (Bx 3 ru Z Z Z Z) (V (B3 Z Z Z Z Z Z Z DD) (AD ?_));refine AC (AC (AE (J (AO Z Z Z BH Z) (J (RL Z E0 Z) (ek Z Z (AD (AZ (BM (α:=Nat) (λk=>⟨154,[(7,(.d (.sl none (E.map Ct)))),(8,(.ptr 3 0 0)),(43,(.d (AT n))),(44,(.d (AT k)))],[(2,[.rowD 3 1 (rowN n (q8 k))]),(3,[.blk 28 [.own 2 0 n]]),(40,[.multi M])]⟩) (λk=>k<=n) (λk=>n-k) (0) (ζ _) (AX v [2,3,40] Z Z ⟨Z,Z,Z,Z,trivial⟩) ?_))))))));rintro k hk;refine AC (AE (J (Az Z Z Z) (AD (AC (A6 Z (λh45=>?_) (λh45=>?_))))))
  .refine AW (AC (AZ (AC ?_)));have g:k<n:=BQ h45;refine AE ?_;refine ek Z Z (AB Z Z (AD (AE (J (AO Z Z Z BH Z) (ek Z Z (ek Z Z (J (DB (k) Z Z (Z) (g) Z E0 BW Z) (V (YR Z Z Z Z Z (by rw[Dm];exact g) Dl Z BW) ?_))))))));rw[dt];refine AD (AE (J (Aj Z Z (AN (k+1) (by omega)) Z) (ek Z Z (AD ?_))));exact ⟨k+1,g,by omega,AX v [2,3,40] Z (Z) ⟨Z,Z,Z,Z,trivial⟩⟩
  .refine Aw (AC ?_);have W:k=n:=by have:=h45;omega
   rw[QT (f:=q8 k) (h:=λj=>j) λj K=>ς (by omega)];refine AE (J (rP Z Z) ?_);refine AB Z Z (AD (AC (AE (V (Pc 50 Z Z Z Z) (V (Pc 51 Z Z Z Z) (AB Z Z (AB Z Z (AD ?_))))))));refine AC (AC (AE (ek Z Z (J (Jd Z R cl Z) (ek Z Z (AD (AZ (BM (α:=Nat×List (AU×Nat)×(Nat->Nat)) (λq=>⟨154,[(7,(.d (.sl none (E.map Ct)))),(8,(.ptr 3 0 0)),(10,(.fn 67 [.ptr 3 0 0])),(11,(.map 50 0)),(12,(.map 51 0)),(55,(.d (.sl none (E.map Ct)))),(56,(.d (AT n))),(57,(.d (AT q.1)))],[(2,[.rowD 3 1 (rowN n q.2.2)]),(3,[.blk 28 [.own 2 0 n]]),(50,[BY Bc AT q.2.1]),(51,[BY AF AT (NZ E q.1)]),(40,[.multi M])]⟩) (λq=>q.1<=n/\UF n (Cn (gJ p) E) q.2.2/\QG (gJ p) E (λi r=>i<q.1/\r∈Y4 (gJ p) E i) q.2.1 q.2.2) (λq=>n-q.1) ((0,[],λj=>j)) (⟨ζ _,UF.id n λi=>Rh.refl i,(QG.zero _ _ _).mono λi r h=>by have:=h.1;omega⟩) (AX v [2,3,50,51,40] Z Z ⟨Z,Z,Z,Z,Z,Z,Z,Z,trivial⟩) ?_))))))));rintro ⟨k,U,f⟩ ⟨hk,A,y⟩;dsimp only at hk A y⊢;refine AC (AE (J (Az Z Z Z) (AD (AC (A6 Z (λh58=>?_) (λh58=>?_))))))
   .refine AW (AC (AZ (AC ?_)));have g:k<n:=BQ h58;have o:k<E.length:=by omega
    have hek:=ϑ o;refine AE (ek Z Z (J (BC (k) Z Z (Z) (A1 o) cl Z GV Z) (J (C7 Z Z K3 Z) (V (Bx 4 Me Z Z Z Z) (AB Z Z (V (B3 Z Z Z Z Z Z Z GV) ?_))))));refine AD (AC (AE (ek Z Z (J (AK Z JZ Z Z Z) (J (AK Z Nr Z Z Z) (J (AO Z Z Z Am Z) (ek Z Z (V (VH (NZ E k) ((E[k]).1.id) (k) Z Z Z oR IS Z Z) ?_))))))));rw[show BX (NZ E k) (E[k]).1.id k=NZ E (k+1) by rw[<-S2 o];exact lO hId o];refine AD (AC ?_)
    obtain ⟨L,hLe⟩:∃L,dR (gJ p) (E[k]).1=L:=⟨_,Z⟩
    have hRk:=hR _ hek;rw[hLe] at hRk;have hus:Y4 (gJ p) E k=L.map Prod.fst:=by rw[<-hLe,<-S2 o]
    refine Ma 40 (E[k]).2 Z hRk (λ_ _=>rfl) λB c hB hBn=>?_
    obtain ⟨M1,hM1⟩:∃M1,B5 M (E[k]).2 (.map (some (B,c)) (Jz L))=M1:=⟨_,Z⟩
    rw[hM1];have h1k:M1 (E[k]).2=some (.map (some (B,c)) (Jz L)):=by rw[<-hM1,GG]
    refine AE (J (AK Z LQ Z Z Z) (J (AO Z Z Z Td Z) (V (Lc 5 (f:=40) Z Z h1k Z CP Z Z Z Z) (AD (AZ (BM (α:=List Nat×List (AU×Int)×List (AU×Nat)×(Nat->Nat)) (λq=>⟨154,[(7,(.d (.sl none (E.map Ct)))),(8,(.ptr 3 0 0)),(10,(.fn 67 [.ptr 3 0 0])),(11,(.map 50 0)),(12,(.map 51 0)),(13,(.d (AT k))),(55,(.d (.sl none (E.map Ct)))),(56,(.d (AT n))),(57,(.d (AT k))),(69,(.ptr 5 0 0))],[(5,[.iter 40 (E[k]).2 c q.1]),(2,[.rowD 3 1 (rowN n q.2.2.2)]),(3,[.blk 28 [.own 2 0 n]]),(50,[BY Bc AT q.2.2.1]),(51,[BY AF AT (NZ E (k+1))]),(40,[.multi M1])]⟩) (λq=>(q.2.1++CC L B q.1).Perm L/\UF n (Cn (gJ p) E) q.2.2.2/\QG (gJ p) E (λi r=>(i<k/\r∈Y4 (gJ p) E i)\/(i=k/\r∈q.2.1.map Prod.fst)) q.2.2.1 q.2.2.2) (λq=>(CC L B q.1).length) (([],[],U,f)) (⟨by show ([]++CC L B []).Perm L;rw[nX (by simpa [B4] using hB)];exact List.Perm.refl _,A,y.mono λi r h=>h.elim id λh=>by simp at h⟩) (AX v [5,2,3,50,51,40] Z Z ⟨Z,Z,Z,Z,Z,Z,Z,Z,Z,Z,trivial⟩) ?_))))));rintro ⟨seen,O,U,f⟩ ⟨hP,A,y⟩;dsimp only at hP A y⊢;refine AC (AE (Rg (L) Z Z Z (h1k) Z (λhl70=>?_) (λj70 b70 u v70 hm70 hb70 hB70 H=>⟨_,Z,?_⟩)))
    .rw[hl70] at hP;have hPm:∀r,r∈O.map Prod.fst↔r∈Y4 (gJ p) E k:=λr=>by rw[hus];exact ((show O.Perm L by simpa using hP).map Prod.fst).mem_iff
     refine JQ 40 (E[k]).2 Z h1k Z ?_;rw[show B5 M1 (E[k]).2 (.map none (Jz L))=M by rw[<-hM1,Ft];exact MD hRk];refine J (DC Z Z Z) (AD (AC (Cr Z Z (Aw (AE (J (Aj Z Z (AN (k+1) (by omega)) Z) (ek Z Z (AD ?_))))))));exact ⟨(k+1,U,f),⟨g,A,y.mono λi r ⟨h1,h2⟩=>(Nat.decEq i k).byCases (λe=>by subst e;exact .inr ⟨Z,(hPm r).2 h2⟩) λe=> .inl ⟨by omega,h2⟩⟩,by show n-(k+1)<n-k;omega,AX v [2,3,50,51,40] Z (Z) ⟨Z,Z,Z,Z,Z,Z,Z,Z,trivial⟩⟩
    .refine J (DC Z Z Z) (AD (AC (Bw Z Z (AW (AZ (AC ?_))))));have hku:u∈Y4 (gJ p) E k:=by rw[hus];exact jg (f:=Prod.fst) (dV hm70)
     have Q:∀i s,((i<k/\s∈Y4 (gJ p) E i)\/(i=k/\s∈(O++ [(u,v70)]).map Prod.fst))->((i<k/\s∈Y4 (gJ p) E i)\/(i=k/\s∈O.map Prod.fst))\/(i=k/\s=u):=λi s h=>h.elim (λh=> .inl (.inl h)) λ⟨e,h⟩=>by rw[Ω,ϖ] at h;exact h.elim (λh=> .inl (.inr ⟨e,h⟩)) λh=> .inr ⟨e,by simpa using h⟩
     refine AE (J (Ld (L) j70 b70 Z Z Z (h1k) hm70 hb70 Z) (J (DC Z Z Z) (V (Bx 6 KM Z Z Z Z) ?_)));refine V (B3 Z Z Z Z Z Z Z Yb) (AD (AC (AE (ek Z Z (J (Ay Z Z C9 Z Z Z) (J (QN (U) (u) (0) Z Z Z oT CY vW Z) (ek Z Z (J (DC Z Z Z) ?_))))))));refine J (DC Z Z Z) (AB Z Z (AB Z Z (AD (AC (AE (ek Z Z (AD (JC Z (λh80=>?_) (λh80=>?_)))))))))
     .have hkU:u∈U.map Prod.fst:=Fu.1 h80;obtain ⟨I,hu2⟩:=y.ok _ (lj hkU);rw[w] at I;have hCk:=rA (by omega) o hu2 hku;refine AE (ek Z Z (ek Z Z (ek Z Z (V (VT ((Xm n f (Ac U u 0) k I g (by omega)).by [(930,3),(931,2)] Z) Z [3,2] ⟨Z,Z,trivial⟩ Z Z Z Z Z Z Z Z Z) (AD ?_)))));exact ⟨(seen++ [b70],O++ [(u,v70)],U,_),⟨HB hP H,A.join (λ_ _ _=>Cn.trans) (λ_ _=>Cn.symm) I g hCk,y.join hkU Q⟩,by show (CC L B (seen++ [b70])).length<(CC L B seen).length;rw[H.length_eq];exact jG _,AX v [5,2,3,50,51,40] Z (Z) ⟨Z,Z,Z,Z,Z,Z,Z,Z,Z,Z,trivial⟩⟩
     .refine AE (ek Z Z (J (Ay Z Z C9 Z Z Z) (ek Z Z (V (VH (U) (u) (k) Z Z Z oT CY Z Z) (AD ?_)))));exact ⟨(seen++ [b70],O++ [(u,v70)],BX U u k,f),⟨HB hP H,A,y.new (λz=>by rw[Fu.2 z] at h80;cases h80) o hku Q⟩,by show (CC L B (seen++ [b70])).length<(CC L B seen).length;rw[H.length_eq];exact jG _,AX v [5,2,3,50,51,40] Z (Z) ⟨Z,Z,Z,Z,Z,Z,Z,Z,Z,Z,trivial⟩⟩
   .refine Aw (AC (AC ?_));have W:k=n:=by have:=h58;omega
    rw[W]
    have hS':QG (gJ p) E (λi r=>i<E.length/\r∈Y4 (gJ p) E i) U f:=y.mono λi r ⟨h1,h2⟩=>⟨by omega,h2⟩
    refine AE (ek Z Z (J (Jd Z R cl Z) (ek Z Z (AD (AZ (BM (α:=Nat×(Nat->Nat)) (λq=>⟨154,[(7,(.d (.sl none (E.map Ct)))),(8,(.ptr 3 0 0)),(10,(.fn 67 [.ptr 3 0 0])),(12,(.map 51 0)),(89,(.d (.sl none (E.map Ct)))),(90,(.d (AT n))),(91,(.d (AT q.1)))],[(2,[.rowD 3 1 (rowN n q.2)]),(3,[.blk 28 [.own 2 0 n]]),(51,[BY AF AT (NZ E n)])]⟩) (λq=>q.1<=n/\UF n (Cn (gJ p) E) q.2/\QG (gJ p) E (λi r=>i<E.length/\r∈Y4 (gJ p) E i) U q.2/\∀i,i<q.1->∀j,j<n->(DK E j).id∈(DK E i).af->q.2 j=q.2 i) (λq=>n-q.1) ((0,f)) (⟨ζ _,A,hS',λi hi=>by omega⟩) (AX v [2,3,51] Z Z ⟨Z,Z,Z,Z,Z,Z,Z,trivial⟩) ?_))))));rintro ⟨k,f⟩ ⟨hk,A,y,hA⟩;dsimp only at hk A y hA⊢;refine AC (AE (J (Az Z Z Z) (AD (AC (A6 Z (λh92=>?_) (λh92=>?_))))))
    .refine AW (AC (AZ (AC ?_)));have g:k<n:=BQ h92;have o:k<E.length:=by omega
     have hek:=ϑ o;have hIk:=hIt k g;rw[S2 o] at hIk;have haf:=(hf.x _ (hxm _ hIk)).2.2;refine AE (ek Z Z (J (BC (k) Z Z (Z) (A1 o) cl Z GV Z) (J (C7 Z Z K3 Z) (V (Bx 4 Me Z Z Z Z) (AB Z Z (V (B3 Z Z Z Z Z Z Z GV) (AD (AC ?_))))))));refine AE (J (AK Z JZ Z Z Z) (J (AK Z Dz Z Z Z) (J (AO Z Z Z BH Z) (J (BS Z E0 Z) (ek Z Z (AD (AZ (BM (α:=Nat×(Nat->Nat)) (λq=>⟨154,[(7,(.d (.sl none (E.map Ct)))),(8,(.ptr 3 0 0)),(10,(.fn 67 [.ptr 3 0 0])),(12,(.map 51 0)),(18,(.d (AT k))),(89,(.d (.sl none (E.map Ct)))),(90,(.d (AT n))),(91,(.d (AT k))),(98,(.d (Gl (E[k]).1.af))),(99,(.d (AT (E[k]).1.af.length))),(100,(.d (AT q.1)))],[(2,[.rowD 3 1 (rowN n q.2)]),(3,[.blk 28 [.own 2 0 n]]),(51,[BY AF AT (NZ E n)])]⟩) (λq=>q.1<=(E[k]).1.af.length/\UF n (Cn (gJ p) E) q.2/\QG (gJ p) E (λi r=>i<E.length/\r∈Y4 (gJ p) E i) U q.2/\(∀i,i<k->∀j,j<n->(DK E j).id∈(DK E i).af->q.2 j=q.2 i)/\∀j,j<n->(DK E j).id∈(E[k]).1.af.take q.1->q.2 j=q.2 k) (λq=>(E[k]).1.af.length-q.1) ((0,f)) (⟨ζ _,A,y,hA,λj K z=>by simp at z⟩) (AX v [2,3,51] Z Z ⟨Z,Z,Z,Z,Z,Z,Z,Z,Z,Z,Z,trivial⟩) ?_))))))));rintro ⟨C,f⟩ ⟨hj8,A,y,hA,hD⟩;dsimp only at hj8 A y hA hD⊢;refine AC (AE (J (Az Z Z Z) (AD (AC (A6 Z (λh101=>?_) (λh101=>?_))))))
     .refine AW (AC (AZ (AC ?_)));have t:C<(E[k]).1.af.length:=BQ h101;refine AE (J (BC (C) Z Z (Z) (A1 t) E0 Z BW Z) (J (CG Z Z Am Z) ?_));refine AB Z Z (AD (AC (AE (ek Z Z (ek Z Z (J (QN (NZ E n) ((E[k]).1.af[C]) (0) Z Z Z oR IS vW Z) (ek Z Z (J (DC Z Z Z) ?_))))))));refine J (DC Z Z Z) (AB Z Z (AB Z Z (AD (AC (AE (ek Z Z (AD (JC Z (λh110=>?_) (λh110=>?_)))))))))
      .have hkP:=Fu.1 h110;have hpg:=XL hId (x:=(E[k]).1.af[C]) (by rw[w];exact hkP);rw[w] at hpg;obtain ⟨I,hu2⟩:=hpg;have hCk:=rB (rs:=gJ p) (i:=Ac (NZ E n) (E[k]).1.af[C] 0) (j:=k) (by omega) o (by rw[hu2,S2 o];exact ϑ t);refine AE ?_;refine ek Z Z (ek Z Z (ek Z Z (V (VT ((Xm n f (Ac (NZ E n) (E[k]).1.af[C] 0) k I g (by omega)).by [(930,3),(931,2)] Z) Z [3,2] ⟨Z,Z,trivial⟩ Z Z Z Z Z Z Z Z Z) (AD (AE (J (Aj Z Z (AN (C+1) (by omega)) Z) (ek Z Z (AD ?_))))))));exact ⟨(C+1,_),⟨t,A.join (λ_ _ _=>Cn.trans) (λ_ _=>Cn.symm) I g hCk,y.keep λ_ _ h=>Hj h,λi hi j K z=>Hj (hA i hi j K z),λj K z=>by rw[ψ t,ϖ] at z;exact z.elim (λh=>Hj (hD j K h)) λh=>by have h3:=(cQ hId (show j<E.length by omega)).2;rw[θ.1 h,w] at h3;rw[<-h3];exact Qh⟩,by show (E[k]).1.af.length-(C+1)<(E[k]).1.af.length-C;omega,AX v [2,3,51] Z (Z) ⟨Z,Z,Z,Z,Z,Z,Z,Z,Z,Z,Z,trivial⟩⟩
      .refine AW (AE (J (Aj Z Z (AN (C+1) (by omega)) Z) (ek Z Z (AD ?_))));exact ⟨(C+1,f),⟨t,A,y,hA,λj K z=>by rw[ψ t,ϖ] at z;exact z.elim (hD j K) λh=>absurd (Fu.2 (by have h3:=(cQ hId (show j<E.length by omega)).1;rw[θ.1 h,w] at h3;exact h3)) (by rw[h110];decide)⟩,by show (E[k]).1.af.length-(C+1)<(E[k]).1.af.length-C;omega,AX v [2,3,51] Z (Z) ⟨Z,Z,Z,Z,Z,Z,Z,Z,Z,Z,Z,trivial⟩⟩
     .refine Aw (AE (J (Aj Z Z (AN (k+1) (by omega)) Z) (ek Z Z (AD ?_))));exact ⟨(k+1,f),⟨g,A,y,λi hi j K z=>(Nat.decEq i k).byCases (λe=>by subst e;exact hD j K (by rw[S2 o] at z;have hje:C=(E[i]).1.af.length:=(by have:=h101;omega);rw[hje,gy];exact z)) λe=>hA i (by omega) j K z⟩,by show n-(k+1)<n-k;omega,AX v [2,3,51] Z (Z) ⟨Z,Z,Z,Z,Z,Z,Z,trivial⟩⟩
    .refine Aw (AC ?_);have W:k=n:=by have:=h92;omega
     have hall:r6 (gJ p) E f:=⟨by rw[w];exact A,⟨U,y⟩,λi hi j K z=>hA i (by omega) j (by omega) z⟩
     have hcls:(Kt n n f).map (BF E)=ga (gJ p) E:=by unfold ga;rw[<-lu hall.uf hall.full,w]
     refine AE (AB Z Z (AD (AC ?_)));refine AC (AE (ek Z Z (J (Jd Z R cl Z) (ek Z Z (AD (AZ (NF 24 10 OL Z Z Z Z (BM (α:=Nat×List (List Int)) (λq=>⟨154,[(7,(.d (.sl none (E.map Ct)))),(8,(.ptr 3 0 0)),(24,(.own 10 0 q.2.length)),(117,(.d (.sl none (E.map Ct)))),(118,(.d (AT n))),(119,(.d (AT q.1)))],[(10,[.rowD 28 1 (q.2.map Gl)]),(2,[.rowD 3 1 (rowN n f)]),(3,[.blk 28 [.own 2 0 n]])]⟩) (λq=>q.1<=n/\q.2=(Kt n q.1 f).map (BF E)) (λq=>n-q.1) ((0,[])) (⟨ζ _,Z⟩) (AX v [10,2,3] Z Z ⟨Z,Z,Z,Z,Z,Z,trivial⟩) ?_))))))));rintro ⟨k,T⟩ ⟨hk,hT⟩;dsimp only at hk hT⊢;refine AC (AE (J (Az Z Z Z) (AD (AC (A6 Z (λh120=>?_) (λh120=>?_))))))
     .refine AW (AC (AZ (AC ?_)));have g:k<n:=BQ h120;have hTl:T.length<=30:=by have:=dY n k f;rw[hT,χ];omega
      refine AE (ek Z Z (AB Z Z (AD (AC (AC ?_)))));refine AE (J (AO Z Z Z BH Z) (ek Z Z (J (DB (k) Z Z (Z) (g) Z E0 BW Z) (J (EC Z Z (Np g) Z Am Z) (ek Z Z (J (C6 Z Z Z) (AD (A6 Z (λh127=>?_) (λh127=>?_)))))))))
      .refine Aw (AE (J (Aj Z Z (AN (k+1) (by omega)) Z) (ek Z Z (AD ?_))));exact ⟨(k+1,T),⟨g,by show _=(Kt n (k+1) f).map _;rw[Z8 (by omega),hT]⟩,by show n-(k+1)<n-k;omega,AX v [10,2,3] Z (Z) ⟨Z,Z,Z,Z,Z,Z,trivial⟩⟩
      .refine AW (AC (AE (AB Z Z (AD (AC ?_)))));refine AC (AE (ek Z Z (J (Jd Z R cl Z) (ek Z Z (AD (AZ (NF 26 11 BR Z Z Z Z (BM (α:=Nat×List Int) (λq=>⟨154,[(7,(.d (.sl none (E.map Ct)))),(8,(.ptr 3 0 0)),(24,(.own 10 0 T.length)),(25,(.d (AT k))),(26,(.own 11 0 q.2.length)),(117,(.d (.sl none (E.map Ct)))),(118,(.d (AT n))),(119,(.d (AT k))),(128,(.d (.sl none (E.map Ct)))),(129,(.d (AT n))),(130,(.d (AT q.1)))],[(11,[.rowD 3 1 (q.2.map AF)]),(10,[.rowD 28 1 (T.map Gl)]),(2,[.rowD 3 1 (rowN n f)]),(3,[.blk 28 [.own 2 0 n]])]⟩) (λq=>q.1<=n/\q.2=BF E (Pu f k q.1)) (λq=>n-q.1) ((0,[])) (⟨ζ _,Z⟩) (AX v [11,10,2,3] Z Z ⟨Z,Z,Z,Z,Z,Z,Z,Z,Z,Z,Z,trivial⟩) ?_))))))));rintro ⟨j,S⟩ ⟨K,X⟩;dsimp only at K X⊢;refine AC (AE (J (Az Z Z Z) (AD (AC (A6 Z (λY=>?_) (λY=>?_))))))
       .refine AW (AC (AZ (AC ?_)));have t:j<n:=BQ Y;have hjE:j<E.length:=by omega
        have hSl:S.length<=30:=by have:=d5 f k j;rw[X];unfold BF;rw[χ];omega
        refine AE (ek Z Z (J (BC (j) Z Z (Z) (A1 hjE) cl Z GV Z) (J (C7 Z Z K3 Z) (V (Bx 4 Me Z Z Z Z) (AB Z Z (V (B3 Z Z Z Z Z Z Z GV) (AD (AC ?_))))))));refine AE (J (AO Z Z Z BH Z) (ek Z Z (J (DB (j) Z Z (Z) (t) Z E0 BW Z) (J (EC Z Z (Np t) Z Am Z) (ek Z Z (J (GR Z Z Z) (AD (A6 Z (λh140=>?_) (λh140=>?_)))))))))
        .refine AE (ek Z Z (J (AK Z JZ Z Z Z) (J (AK Z Nr Z Z Z) ?_)));refine J (AO Z Z Z Am Z) (V (C1 30 BR Z Z Z Z Z Z Z Z) (V (Ev (S) ([(E[j]).1.id]) Z Z Z Z Z Z Z Z BR (by simp only[υ];omega) Z Z Z Z) (AB Z Z (AD (AE (J (Aj Z Z (AN (j+1) (by omega)) Z) (ek Z Z (AD ?_))))))));exact ⟨(j+1,S++ [(E[j]).1.id]),⟨t,by show _=BF E (Pu f k (j+1));rw[d6 (by omega),X];unfold BF;rw[Ω,List.map_singleton,S2 hjE]⟩,by show n-(j+1)<n-j;omega,AX v [11,10,2,3] Z (Z) ⟨Z,Z,Z,Z,Z,Z,Z,Z,Z,Z,Z,trivial⟩⟩
        .refine AW (AE (J (Aj Z Z (AN (j+1) (by omega)) Z) (ek Z Z (AD ?_))));exact ⟨(j+1,S),⟨t,by show _=BF E (Pu f k (j+1));rw[Za (by omega),X]⟩,by show n-(j+1)<n-j;omega,AX v [11,10,2,3] Z (Z) ⟨Z,Z,Z,Z,Z,Z,Z,Z,Z,Z,Z,trivial⟩⟩
       .refine Aw ?_;have hje:j=n:=by have:=Y;omega
        refine KL (emb:=AF) 26 11 S Z Z Z Z Z Z Z ?_;rw[show S=BF E (Z9 n f k) by rw[X,hje];rfl];refine AE (ek Z Z ?_);refine ek Z Z (V (C1 31 OL Z Z Z Z Z Z Z Z) (V (Ev (T) ([BF E (Z9 n f k)]) Z Z Z Z Z Z Z Z OL (by simp only[υ];omega) Z Z Z Z) (AB Z Z (AD (AE (J (Aj Z Z (AN (k+1) (by omega)) Z) (ek Z Z (AD ?_))))))));exact ⟨(k+1,T++ [BF E (Z9 n f k)]),⟨g,by show _=(Kt n (k+1) f).map _;rw[dZ (by omega),Ω,hT];rfl⟩,by show n-(k+1)<n-k;omega,AX v [10,2,3] Z (Z) ⟨Z,Z,Z,Z,Z,Z,trivial⟩⟩
     .refine Aw (AC ?_);have W:k=n:=by have:=h120;omega
      refine KL (emb:=Gl) 24 10 T Z Z Z Z Z Z Z ?_;rw[show T=ga (gJ p) E by rw[hT,W,hcls]];refine AE (ek Z Z (AB Z Z (AB Z Z (AD (A2 ?_)))));exact ⟨_,[],[],A0 Z,Z,Z,E,hEq,Z,Z⟩
theorem SM(f:Ax w=0)(c:s∈a)(b:CL s=0)(v:Int):(s,v)∈dR a w↔v=CB w s/\v≠0:=by grind[A3,eo,CB,dR,LW,Fe,It]
theorem SN(f:Ax w=0)(c:s∈a)(b:CL s=0):s∈(dR a w).map Prod.fst↔CB w s≠0:=by simp[*,SM]
theorem ew(f:Ax w=0)(c:s∈a)(b:CL s=0):Ac (dR a w) s 0=CB w s:=by grind[JS,SN,D8,eu,SM]
theorem o4(h:s∈(dR a w).map Prod.fst):s∈a:=by
 obtain ⟨d,b,e⟩:=Θ.1 h;rw[<-e];exact jc (gk.1 b).2
theorem om(b:∀r∈a,CL r=0){x y:AJ}(g:Ax x=0)(f:Ax y=0):aR a x y↔y.id∈x.af\/∃r∈a,CB x r<0/\0<CB y r:=by
 constructor
 .grind[o4,SM,ew,aR]
 .rintro (h | ⟨r,c,j,i⟩)
  .exact .inr h
  .exact .inl ⟨(r,CB x r),(SM g c (b r c) _).2 ⟨Z,by omega⟩,j,by rw[ew f c (b r c)];exact i⟩
theorem ly(b:∀r∈a,CL r=0){x y:AJ}(f:Ax x=0)(c:Ax y=0):Je a x y↔(y.id∈x.af\/x.id∈y.af)\/∃r∈a,CB x r≠0/\CB y r≠0:=by grind[o4,SN,Je]
theorem TJ(f:BB c=0):∀r∈gJ c,CL r=0:=λr b=>by
 obtain ⟨x,a,rfl⟩:=Θ.1 b;exact Pm (P6 f).1 x a
theorem FP(l:List Int)(x:Int)(i:l.length<=140737488355328):AL prog 57 [.d (Gl l),.d (AF x)] (Ah (decide (x∈l))):=by
 refine Av func57 Z Z ntmps57 Z Z Z λF j=>(AC (AE ?_));refine AB Z Z (AD (AC (AC (AE (AB Z Z (AD (AZ (Gi (α:=Nat) (λk=>⟨18,[(0,.d (Gl l)),(1,.d (AF x)),(5,(.d (AF (k:Int))))],[]⟩) (λk=>k<=l.length/\x∉l.take k) (λk=>l.length-k) (0) (⟨ζ _,by simp⟩) (aV ⟨Z,Z,Z,trivial⟩) ?_))))))));rintro k ⟨g,f⟩;refine AC (AC (AE (ek Z Z (ek Z Z (J (BS Z E0 Z) (J (Az Z Z Z) (AD (A6 Z (λc=>?_) (λc=>?_)))))))))
 .have a:k<l.length:=BQ c;refine AW (AC (AZ (AC ?_)));refine AE (ek Z Z (ek Z Z (J (BC (k) Z Z (Z) (A1 a) E0 Z BW Z) (J (CG Z Z Am Z) (ek Z Z (J (GR Z Z Z) (AD (A6 Z (λb=>?_) (λb=>?_)))))))))
  .refine AC (AE (AB Z Z (AD (A2 ?_))));exact ⟨_,[],[],A0 Z,Z,Z,by rw[gi (by rw[<-b];exact ϑ a)],Z⟩
  .refine AW (AE (ek Z Z (J (Aj Z Z (AN (k+1) (by omega)) Z) (AB Z Z (AD ?_)))));exact ⟨k+1,⟨by show k+1<=_;omega,Dv a f (λe=>b e.symm)⟩,by show l.length-(k+1)<l.length-k;omega,⟨Z,Z,λ_ _=>Sd.get (l:=[(0,_),(1,_),(5,_)]) ⟨Z,Z,Z,trivial⟩⟩⟩
 .refine Aw (AC (AE (AB Z Z (AD (A2 ?_)))));exact ⟨_,[],[],A0 Z,Z,Z,by rw[gp (If (by have h:=c;omega) f)],Z⟩
def ZN(p:gB)(l:List Int):List Int:=((BN p.it).filter λi=>decide (i.id∈l)).map AJ.id
theorem Q7(p:gB)(l:List Int)(g:p.it.length<=1000)(w:l.length<=1000000):AL prog 53 [.d (Bf p),.d (Gl l)] (Gl (ZN p l)):=by
 have j:=TV p.it g;have s:=aW p.it;unfold ZN
 obtain ⟨S,v⟩:∃S,BN p.it=S:=⟨_,Z⟩
 rw[v] at j s⊢;refine Av func53 Z Z ntmps53 Z Z Z λF t=>(AC (AE (V (Bh 1 Z Z Z Z Z Z Z) (AB Z Z (AD (AC ?_))))));refine AE (AB Z Z (AD (AC (AE (J (AK Z J5 Z Z Z) (J (AO Z Z Z DI Z) (J (Au (j) Z Z) (AB Z Z ?_))))))));refine AD (AC (AC (AE (AB Z Z (AD (AZ (NF 5 900 BR Z Z Z Z (BM (α:=Nat×List Int) (λq=>⟨33,[(1,.d (Gl l)),(5,(.own 900 0 q.2.length)),(6,(.d (.sl none (S.map Af)))),(7,(.d (AF (q.1:Int))))],[(900,[.rowD 3 1 (q.2.map AF)])]⟩) (λq=>q.1<=S.length/\q.2=((S.take q.1).filter λi=>decide (i.id∈l)).map AJ.id) (λq=>S.length-q.1) ((0,[])) (⟨ζ _,Z⟩) (AX t [900] Z Z ⟨Z,Z,Z,Z,trivial⟩) ?_))))))));rintro ⟨k,a⟩ ⟨r,h⟩;dsimp only at r h⊢;refine AC (AC (AE (ek Z Z (ek Z Z (J (BS Z F0 Z) (J (Az Z Z Z) (AD (A6 Z (λf=>?_) (λf=>?_)))))))))
 .have b:k<S.length:=BQ f;refine AW (AC (AZ (AC ?_)));have u:a.length<=1000:=by rw[h,χ];exact gY (iI _ _) (by rw[ϱ];omega)
  refine AE ?_;refine ek Z Z (ek Z Z (ek Z Z (J (BC (k) Z Z (Z) (A1 b) F0 Z Cz Z) (J (ND Z Fw Z Z Z) (J (CG Z Z Am Z) (J (Au (FP l S[k].id (by omega)) Z Z) (AD (A6 Z (λc=>?_) (λc=>?_)))))))))
  .refine AE (ek Z Z (ek Z Z (ek Z Z (J (BC (k) Z Z (Z) (A1 b) F0 Z Cz Z) (J (ND Z Fw Z Z Z) (J (CG Z Z Am Z) ?_))))));refine V (C1 30 BR Z Z Z Z Z Z Z Z) (V (Ev (a) ([S[k].id]) Z Z Z Z Z Z Z Z BR (by simp only[υ];omega) Z Z Z Z) (AB Z Z (AD (AE (ek Z Z (J (Aj Z Z (AN (k+1) (by omega)) Z) (AB Z Z (AD ?_))))))));exact ⟨(k+1,a++ [S[k].id]),⟨by show k+1<=_;omega,by show _=((S.take (k+1)).filter _).map AJ.id;rw[ψ b,i7,Ω,h];simp[c]⟩,by show S.length-(k+1)<S.length-k;omega,AX t [900] Z (Z) ⟨Z,Z,Z,Z,trivial⟩⟩
  .refine AW (AE (ek Z Z (J (Aj Z Z (AN (k+1) (by omega)) Z) (AB Z Z (AD ?_)))));exact ⟨(k+1,a),⟨by show k+1<=_;omega,by show _=((S.take (k+1)).filter _).map AJ.id;rw[ψ b,i7,Ω,h];simp[c]⟩,by show S.length-(k+1)<S.length-k;omega,AX t [900] Z (Z) ⟨Z,Z,Z,Z,trivial⟩⟩
 .refine Aw (AC ?_);have o:k=S.length:=by have:=f;omega
  rw[o,gy] at h;refine KL (emb:=AF) 5 900 a Z Z Z Z Z Z Z ?_;rw[h];refine AE (ek Z Z (AB Z Z (AD (A2 ?_))));exact ⟨_,[],[],A0 Z,Z,Z,Z,Z⟩
theorem UJ(p:gB)(id:Int)(f:p.it.length<=1000)(c:id∈p.it.map AJ.id):AL prog 108 [.d (Bf p),.d (AF id)] (Af (B7 p id)):=by
 obtain ⟨g,i,h,_⟩:=Kx c;rw[h];have a:=WX p id (by omega);rw[i] at a
 obtain ⟨k,b⟩:∃k,(p.it.map AJ.id).idxOf id=k:=⟨_,Z⟩
 simp only[b] at g a⊢;refine Av func108 Z Z ntmps108 Z Z Z λF j=>(AC (AE (V (Bh 1 Z Z Z Z Z Z Z) (V (Bx 2 VW Z Z Z Z) (AD (AC (CK [[],[0],[],[],[2,3],rg 5,rg 6,rg 7] mixed Z (By ?_))))))));refine AR [2] Z (AK Z J5 Z Z Z) (Ao [5] Z Z (λ_=>Aa (AO Z Z Z DI Z)) (Ao [2] Z Z (λ_=>Aa (Ay Z Z EE Z Z Z)) (Ap 1 Z Z (AR [7,8] Z (Au (a) Z Z) (Bu 5 Z Z Z (Ab 6 Z Z (J (BC (k) Z Z (Z) (A1 g) F0 Z Cz Z) (AD ⟨Z,?_⟩))))))));refine Ab 7 Z Z (J (C7 Z Z G8 Z) (AD ⟨Z,?_⟩));refine Ab 8 Z Z (V (B3 Z Z Z Z Z Z Z Cz) (AD ⟨Z,?_⟩));refine Bz (A2 ?_);exact ⟨_,[],[],A0 Z,Z,Z,Z,Z⟩
theorem Qi{id:Int}(h:id∈c.it.map AJ.id):B7 c id∈c.it/\(B7 c id).id=id:=by
 obtain ⟨b,_,a,f⟩:=Kx h
 grind
theorem Rq(p:gB)(R:BB p=0)(D:GJ p)(a b:Int)(U:a∈p.it.map AJ.id)(T:b∈p.it.map AJ.id):AL prog 58 [.d (Bf p),.d (AF a),.d (AF b)] (Ah (decide (Je (gJ p) (B7 p a) (B7 p b)))):=by
 obtain ⟨A,K⟩:=Qi U;obtain ⟨z,I⟩:=Qi T;have S:=D.i;have G:=D.r;have O:=Ee (P6 R).2.1 _ A;have N:=Ee (P6 R).2.1 _ z;have c:=ly (TJ R) O N;rw[I,K] at c;have M:=D.x _ A;have L:=D.x _ z;have u:=UJ p a (by omega) U;have t:=UJ p b (by omega) T;have C:=λr=>Jm (B7 p a) r (by omega) (by omega) (by omega);have B:=λr=>Jm (B7 p b) r (by omega) (by omega) (by omega)
 obtain ⟨x,X⟩:∃x,B7 p a=x:=⟨_,Z⟩
 obtain ⟨y,W⟩:∃y,B7 p b=y:=⟨_,Z⟩
 simp only[X,W] at c M L u t C B⊢;refine Av func58 Z Z ntmps58 Z Z Z λF Q=>(AC (AE ?_));refine V (Bh 1 Z Z Z Z Z Z Z) (AB Z Z (AD (AC (CK [[],[],[0,1],[],[],rg 5,[],[],rg 8,rg 9] mixed Z (By (Aq [3] [1] Z Z (λ_=>Aa (Ay Z Z EE Z Z Z)) (Ap 1 Z Z (AR [11,12] Z (Au (u) Z Z) ?_))))))));refine Aq [3] [1] Z Z (λ_=>Aa (Ay Z Z EE Z Z Z)) (Ap 2 Z Z (AR [14,15] Z (Au (t) Z Z) (F6 [] [7] [(7,_)] Z Z (λ_=>F7 (Bx 7 VW Z Z Z Z)) (.inr ⟨7,_,Z,Z,Z,Z,Z⟩) Z Z Z Z Z (F6 [] [8] [(8,_)] Z Z (λ_=>F7 (Bx 8 VW Z Z Z Z)) (.inr ⟨8,_,Z,Z,Z,Z,Z⟩) Z Z Z Z Z (Bu 8 Z Z Z (Ab 9 Z Z (V (B3 Z Z Z Z Z Z Z Cz) (AD ⟨Z,?_⟩))))))));refine Ab 10 Z Z (V (B3 Z Z Z Z Z Z Z Cz) (AD ⟨Z,?_⟩));refine Bz ?_;refine AC (AC (AE (J (AK Z QB Z Z Z) (J (AO Z Z Z BH Z) (ek Z Z (J (Au (FP x.af b (by omega)) Z Z) (ek Z Z (CU 21 Z (λs=>?_) (λs=>?_)))))))))
 .refine AI Z Z Z Z (AI Z Z Z Z (AI Z Z Z Z ?_));refine AI Z Z Z Z (J (BZ Z Z Z Z) (AD (Bw Z Z (AC (AE (AB Z Z (AD (A2 ?_))))))));exact ⟨_,[],[],A0 Z,Z,Z,by rw[gi (c.2 (.inl (by first | exact .inl s | exact .inr l)))],rfl⟩
 .refine AQ Z Z Z (J (AK Z QB Z Z Z) ?_);refine AQ Z Z Z (J (AO Z Z Z BH Z) (AQ Z Z Z (ek Z Z (AQ Z Z Z (J (Au (FP y.af a (by omega)) Z Z) (J (Be Z Z Z Z) (AD (A6 Z (λl=>?_) (λl=>?_)))))))))
  .refine AC (AE (AB Z Z (AD (A2 ?_))));exact ⟨_,[],[],A0 Z,Z,Z,by rw[gi (c.2 (.inl (by first | exact .inl s | exact .inr l)))],rfl⟩
  .refine AW (AC (AC (AE (AB Z Z (AD (AZ (BM (α:=Nat) (λk=>⟨50,[(3,(.ptr 1 0 0)),(7,(.ptr 7 0 0)),(8,(.ptr 8 0 0)),(9,(.d (AF (k:Int))))],[(1,[.blk 25 [.d (.sl none (p.ro.map Bj)),.d (.sl none (p.it.map Af))]]),(7,[.blk 93 [.d (AF x.id),.d (AF x.pr),.d (AF x.sq),.d (.sl none (x.po.map BT)),.d (.sl none (x.pa.map C4)),.d (.sl none (x.af.map AF))]]),(8,[.blk 93 [.d (AF y.id),.d (AF y.pr),.d (AF y.sq),.d (.sl none (y.po.map BT)),.d (.sl none (y.pa.map C4)),.d (.sl none (y.af.map AF))]])]⟩) (λk=>k<=p.ro.length/\∀o∈p.ro.take k,¬(CB x o.r≠0/\CB y o.r≠0)) (λk=>p.ro.length-k) (0) (⟨ζ _,by simp⟩) (AX Q [1,7,8] Z Z ⟨Z,Z,Z,Z,trivial⟩) ?_)))))));rintro k ⟨hk,E⟩;refine AC ?_;refine AC (AE (ek Z Z (J (AK Z P5 Z Z Z) (J (AO Z Z Z GQ Z) (J (BS Z Ri Z) (J (Az Z Z Z) (AD (A6 Z (λw=>?_) (λw=>?_)))))))))
   .refine AW (AC (AZ (AC ?_)));have g:k<p.ro.length:=BQ w;refine AE (J (AK Z P5 Z Z Z) (J (AO Z Z Z GQ Z) (ek Z Z (J (BC (k) Z Z (Z) (A1 g) Ri Z IH Z) (J (VK Z J0 Z Z Z) (J (C7 Z Z G7 Z) (V (Bx 10 Sf Z Z Z Z) (V (B3 Z Z Z Z Z Z Z KR) ?_))))))));refine AD (AC (AE (J (Ay Z Z G8 Z Z Z) (J (Ay Z Z G7 Z Z Z) (J (Au (C p.ro[k].r) Z Z) (J (C6 Z Z Z) (ek Z Z (CU 44 Z (λj=>?_) (λj=>?_)))))))))
    .refine AQ Z Z Z (J (Ay Z Z G8 Z Z Z) ?_);refine AQ Z Z Z (J (Ay Z Z G7 Z Z Z) (AQ Z Z Z (J (Au (B p.ro[k].r) Z Z) (AQ Z Z Z (J (C6 Z Z Z) (J (BZ Z Z Z Z) (AD (A6 Z (λi=>?_) (λi=>?_)))))))))
     .refine AC (AE (AB Z Z (AD (A2 ?_))));exact ⟨_,[],[],A0 Z,Z,Z,by rw[gi (c.2 (.inr ⟨_,jg (f:=Ad.r) (ϑ g),j,i⟩))],Z⟩
     .refine AW (AE (ek Z Z (J (Aj Z Z (AN (k+1) (by omega)) Z) (AB Z Z (AD ?_)))));exact ⟨k+1,⟨g,λo v=>by rw[ψ g] at v;exact (ϖ.1 v).elim (E o) λe=>by rw[θ.1 e];first | exact λh=>j h.1 | exact λh=>i h.2⟩,by omega,AX Q [1,7,8] Z (Z) ⟨Z,Z,Z,Z,trivial⟩⟩
    .refine AI Z Z Z Z (AI Z Z Z Z (AI Z Z Z Z (AI Z Z Z Z ?_)));refine J (Be Z Z Z Z) (AD (Cr Z Z (AW (AE (ek Z Z (J (Aj Z Z (AN (k+1) (by omega)) Z) (AB Z Z (AD ?_))))))));exact ⟨k+1,⟨g,λo v=>by rw[ψ g] at v;exact (ϖ.1 v).elim (E o) λe=>by rw[θ.1 e];first | exact λh=>j h.1 | exact λh=>i h.2⟩,by omega,AX Q [1,7,8] Z (Z) ⟨Z,Z,Z,Z,trivial⟩⟩
   .refine Aw (AC ?_);have H:k=p.ro.length:=by have:=w;omega
    rw[H,gy] at E;refine AE (AB Z Z (AD (A2 ?_)));exact ⟨_,[],[],A0 Z,Z,Z,by rw[gp λY=>(c.1 Y).elim (λh=>h.elim s l) λ⟨r,hr,h⟩=>by obtain ⟨o,v,e⟩:=Θ.1 hr;rw[<-e] at h;exact E o v h],Z⟩
def DY(p:gB)(l:List Int):List (AJ×Nat):=((BN p.it).filter λi=>decide (i.id∈l)).map λi=>(i,0)
theorem HR(p:gB)(l:List Int):(DY p l).map Prod.fst=(BN p.it).filter λi=>decide (i.id∈l):=by unfold DY;rw[gw];exact List.map_id _
theorem Na(k:Nat):DK E k=(E.map Prod.fst).getD k Ag:=by grind[DK]
theorem W7{E':List (AJ×Nat)}(h:E.map Prod.fst=E'.map Prod.fst):ga a E=ga a E':=by
 have c:DK E=DK E':=funext λk=>by rw[Na,Na,h]
 have b:E.length=E'.length:=by rw[<-χ (f:=Prod.fst),h,χ]
 have g:py a E=py a E':=by unfold py;rw[c,b]
 simp[*,ga,Cn,BF]
def Sa(E:List (AJ×Nat))(k:Nat):Int:=(DK E k).id
theorem Ep(c:kT E)(b:∀j∈S,j<E.length)(a:k<E.length):Sa E k∈BF E S↔k∈S:=by grind[BF,kT,Sa]
theorem aM(E:List (AJ×Nat))(S:List Nat):(BF E S).length=S.length:=χ _
structure PG (rs:List AU) (E:List (AJ×Nat)) (i:Nat) (S:List Nat):Prop where
 nd:S.Nodup
 ini:i∈S
 con:∀j∈S,j<E.length/\Cn rs E i j
theorem PG.zero(c:i<E.length):PG a E i [i]:=⟨by simp,by simp,λj b=>by rw[θ.1 b];exact ⟨c,.refl i⟩⟩
theorem PG.add(h:PG a E i S)(l:G∈S)(g:k<E.length)(o:k∉S)(r:Je a (DK E G) (DK E k)):PG a E i (S++ [k]):=by
 refine ⟨kC.2 ⟨h.nd,by simp,λc t b s e=>o (by rw[θ.1 s] at e;rw[<-e];exact t)⟩,j7 _ h.ini,λx f=>?_⟩;rcases ϖ.1 f with f | f
 .exact h.con x f
 .rw[θ.1 f];exact ⟨g,(h.con G l).2.trans (Rh.one (Ec.2 ⟨(h.con G l).1,g,r⟩))⟩
theorem PG.len{i:Nat}(h:PG a E i S):S.length<=E.length:=by
 have:=h.nd.length_le_of_subset (l₂:=List.range E.length) λy b=>Ψ.2 (h.con y b).1
 grind
def uI(rs:List AU)(E:List (AJ×Nat))(S:List Nat)(k:Nat):Prop:=k∈S\/∀m∈S,¬Je rs (DK E m) (DK E k)
structure PK (rs:List AU) (E:List (AJ×Nat)) (i:Nat) (S0:List Nat) (k:Nat) (S:List Nat) (g:Bool):Prop where
 pg:PG rs E i S
 no:g=false->S=S0/\∀k',k'<k->uI rs E S k'
 yes:g=true->S0.length<S.length
theorem PK.zero(h:PG a E i S):PK a E i S 0 S false:=⟨h,λ_=>⟨Z,λb c=>by omega⟩,λe=>by cases e⟩
theorem PK.le(h:PK a E i t k S u):t.length<=S.length:=by
 cases hg:u with
 | false=>rw[(h.no hg).1];exact Γ _
 | true=>exact Nat.le_of_lt (h.yes hg)
theorem PK.pass(h:PK a E i t k S u)(f:uI a E S k):PK a E i t (k+1) S u:=
 ⟨h.pg,λe=>⟨(h.no e).1,λb j=>(Nat.decEq b k).byCases (λc=>by rw[c];exact f) λc=>(h.no e).2 b (by omega)⟩,h.yes⟩
theorem PK.hit{b:Nat}(h:PK a E i t k S u)(c:PG a E i (S++ [k])):PK a E i t b (S++ [k]) true:=
 ⟨c,λe=>(by cases e),λ_=>by rw[Δ,υ];exact Nat.lt_succ_of_le h.le⟩
theorem PG.fin(h:PG a E i S)(j:∀k,k<E.length->uI a E S k)(s:k<E.length):k∈S↔Cn a E i k:=by
 refine ⟨λg=>(h.con k g).2,λl=>?_⟩;refine Rh.clos (p:=λx=>x∈S) (λv c y b=>?_) l h.ini;obtain ⟨_,r,o⟩:=Ec.1 b;exact (j y r).resolve_right λf=>f v c o
noncomputable def i4(n i:Nat)(C:Nat->Nat->Prop):List (List Nat):=((List.range i).filter λk=>dec (∀j,j<k->¬C k j)).map λk=>(List.range n).filter λj=>dec (C k j)
theorem fH(h:∀j,j<i->¬o i j):i4 I (i+1) o=i4 I i o++ [(List.range I).filter λj=>dec (o i j)]:=by grind[i4,iM,YF]
theorem Zw(h:¬∀j,j<i->¬o i j):i4 I (i+1) o=i4 I i o:=by grind[i4,iM,o0]
theorem fG(n i:Nat)(C:Nat->Nat->Prop):(i4 n i C).length<=i:=by grind[i4]
theorem ZM(a:((BN c.it).map AJ.id).Nodup)(o:∀j∈S,j<(DY c g).length):ZN c (BF (DY c g) S)=BF (DY c g) ((List.range (DY c g).length).filter λj=>decide (j∈S)):=by
 have s:kT (DY c g):=On a (HR c g);have r:=HR c g
 obtain ⟨E,v⟩:∃E,DY c g=E:=⟨_,Z⟩
 rw[v] at o s r⊢
 have z:((BN c.it).filter λi=>decide (i.id∈BF E S))=(E.map Prod.fst).filter λi=>decide (i.id∈BF E S):=by
  rw[r,List.filter_filter];refine jy λi A=>?_
  by_cases h:i.id∈BF E S
  .have f:i.id∈g:=by
    obtain ⟨j,u,e⟩:=Θ.1 h;have t:DK E j∈E.map Prod.fst:=by rw[S2 (o j u)];exact jg (ϑ _)
    rw[r] at t;have w:=jc (gk.1 t).2;rw[<-e];exact w
   rw[gi h,gi f];rfl
  .rw[gp h];simp
 have y:E.map Prod.fst=(List.range E.length).map (DK E):=by
  refine ir (by simp) λk x B=>?_;have b:k<E.length:=by simpa using x
  rw[iC,iC,k6,S2 b]
 unfold ZN BF;rw[show ((BN c.it).filter λi=>decide (i.id∈List.map (λk=>(DK E k).id) S))=_ from z,y,List.filter_map,gw];refine congr (gV _ Z) (jy λk b=>?_);exact decide_eq_decide.2 (Ep s o (Ψ.1 b))
theorem mW{D:List Nat}(c:∀k,k<E.length->(k∈D↔∃j,j<i/\Cn a E j k))(b:∀k,k<E.length->(k∈S↔Cn a E i k)):∀k,k<E.length->(k∈D++S↔∃j,j<i+1/\Cn a E j k):=by grind
theorem mX{D:List Nat}(l:i<E.length)(c:∀k,k<E.length->(k∈D↔∃j,j<i/\Cn a E j k))(h:i∈D):∀k,k<E.length->(k∈D↔∃j,j<i+1/\Cn a E j k):=λk g=>by
 rw[c k g]
 constructor
 .rintro ⟨j,s,b⟩;exact ⟨j,by omega,b⟩
 .rintro ⟨j,s,b⟩
  by_cases e:j=i
  .subst e;obtain ⟨f,r,o⟩:=(c j l).1 h;exact ⟨f,r,o.trans b⟩
  .exact ⟨j,by omega,b⟩
theorem RE{D:List Nat}(f:i<E.length)(g:∀k,k<E.length->(k∈D↔∃j,j<i/\Cn a E j k)):i∉D↔∀j,j<i->¬Cn a E i j:=by
 rw[g i f];exact ⟨λh j b c=>h ⟨j,b,c.symm⟩,λh ⟨j,b,c⟩=>h j b c.symm⟩
theorem Xs{E:List (AJ×Nat)}{S:List Nat}{m:Nat}(a:m<S.length):((BF E S).map AF)[m]? =some (AF (Sa E S[m])):=by
 unfold BF;rw[gw,ν,ω a]
 rfl
theorem Ze(b:BB c=0)(a:k<(DY c g).length):Sa (DY c g) k∈c.it.map AJ.id/\B7 c (Sa (DY c g) k)=DK (DY c g) k:=by grind[S2,jg,ϑ,HR,aQ,WQ,Sa]
theorem c8:ZN c g=BF (DY c g) (List.range (DY c g).length):=by
 unfold ZN BF;rw[<-HR];refine ir (by simp) λk b a=>?_
 grind[S2]
def gm(S:List Nat)(k:Nat)(h:Bool):List Nat:=if h=true then S++ [k] else S
theorem PK.next{c:Bool}(h:PK a E i t k S u)(b:c=true->PG a E i (S++ [k]))(f:c=false->uI a E S k):PK a E i t (k+1) (gm S k c) (if c=true then true else u):=by
 cases c with
 | false=>exact h.pass (f Z)
 | true=>exact h.hit (b Z)
theorem q9{hh:Bool}(b:∀j∈S,j<E.length)(a:k<E.length):∀j∈gm S k hh,j<E.length:=by grind[gm]
theorem du(S:List Nat)(k:Nat)(a:Bool):(gm S k a).length<=S.length+1:=by grind[gm]
theorem ZE(p:gB)(l:List Int)(hE:BB p=0)(hf:GJ p)(hl:l.length<=100000):AL prog 19 [.d (Bf p),.d (Gl l)] (Xf (ga (gJ p) (DY p l))):=by
 have hi30:=hf.i;have y:((BN p.it).map AJ.id).Nodup:=by have:=GY hE;rwa [show gC p=BN p.it from ς hE] at this
 have X:kT (DY p l):=On y (HR p l);have C:=λ{k:Nat} (U:k<(DY p l).length)=>Ze hE U;have hel:(DY p l).length<=30:=by have h1:(DY p l).length<=(BN p.it).length:=(by unfold DY;rw[χ];exact iI _ _);rw[aW] at h1;omega
 have M:=Q7 p l (by omega) (by omega);rw[c8] at M;have z:=λ{S:List Nat} (hS:∀j∈S,j<(DY p l).length)=>ZM y hS
 obtain ⟨E,hEE⟩:∃E,DY p l=E:=⟨_,Z⟩
 simp only[hEE] at X C hel M z⊢
 obtain ⟨n,Y⟩:∃n,E.length=n:=⟨_,Z⟩
 rw[Y] at M hel
 have v:∀{k:Nat},k<n->((BF E (List.range n)).map AF)[k]? =some (AF (Sa E k)):=λ{k} U=>by
  have:=Xs (E:=E) (S:=List.range n) (m:=k) (by simpa using U)
  simpa using this
 have hll:(BF E (List.range n)).length=n:=by rw[aM,iF]
 refine Av func19 Z Z ntmps19 Z Z Z λF w=>(AC (AE ?_));refine V (Bh 1 Z Z Z Z Z Z Z) (AB Z Z (AD (AC (AE (J (Ay Z Z EE Z Z Z) (ek Z Z (J (Au (M) Z Z) (AB Z Z ?_))))))));refine AD (AC (AE (AB Z Z (AD (AC (AE (AB Z Z (AD ?_))))))));refine AC (AC (NF 7 901 BR Z Z Z Z (AE (AB Z Z (AD (AZ (NF 6 900 OL Z Z Z Z (BM (α:=Nat×List (List Int)×List Nat) (λq=>⟨88,[(2,(.ptr 1 0 0)),(5,(.d (Gl (BF E (List.range n))))),(6,(.own 900 0 q.2.1.length)),(7,(.own 901 0 (BF E q.2.2).length)),(8,(.d (AT q.1)))],[(1,[.blk 25 [.d (.sl none (p.ro.map Bj)),.d (.sl none (p.it.map Af))]]),(900,[.rowD 28 1 (q.2.1.map Gl)]),(901,[.rowD 3 1 ((BF E q.2.2).map AF)])]⟩) (λq=>q.1<=n/\q.2.1=(i4 n q.1 (Cn (gJ p) E)).map (BF E)/\q.2.2.length<=30*q.1/\(∀j∈q.2.2,j<E.length)/\∀k,k<E.length->(k∈q.2.2↔∃j,j<q.1/\Cn (gJ p) E j k)) (λq=>n-q.1) ((0,[],[])) (⟨ζ _,Z,ζ _,(λj L=>by cases L),λk U=>⟨λh=>(by cases h),λ⟨j,L,_⟩=>by omega⟩⟩) (AX w [1,900,901] Z Z ⟨Z,Z,Z,Z,Z,trivial⟩) ?_))))))));rintro ⟨i,T,D⟩ ⟨hi,hT,hDl,G,hD⟩;dsimp only at hi hT hDl G hD⊢;refine AC (AC (AE (ek Z Z (ek Z Z (J (Jd Z (by rw[χ,hll]) E0 Z) (J (Az Z Z Z) (AD (A6 Z (λh19=>?_) (λh19=>?_)))))))))
 .refine AW (AC (AZ (AC (AC ?_))));have O:i<n:=BQ h19;have u:i<E.length:=by omega
  refine AE (ek Z Z (ek Z Z (ek Z Z (J (BC (i) Z Z (Z) (v O) E0 Z BW Z) (J (CG Z Z Am Z) (J (EO [901] (FP (BF E D) (Sa E i) (by rw[aM];omega)) (by exact ⟨.inr ⟨_,_,Z,.own Z Z (by simp) (η (by simp)),Z⟩,.inl Z,trivial⟩) Z Z) (AD (A6 Z (λh27=>?_) (λh27=>?_)))))))))
  .have Q:i∈D:=(Ep X G u).1 h27;refine Aw (AE (ek Z Z (J (Aj Z Z (AN (i+1) (by omega)) Z) (AB Z Z (AD ?_)))));exact ⟨(i+1,T,D),⟨O,by show T=(i4 n (i+1) _).map _;rw[Zw λh=>(RE u hD).2 h Q];exact hT,by show D.length<=30*(i+1);omega,G,mX u hD Q⟩,by show n-(i+1)<n-i;omega,AX w [1,900,901] Z (Z) ⟨Z,Z,Z,Z,Z,trivial⟩⟩
  .have Q:i∉D:=λh=>h27 ((Ep X G u).2 h);refine AW (AC (AE (ek Z Z (ek Z Z (J (BC (i) Z Z (Z) (v O) E0 Z BW Z) (J (CG Z Z Am Z) (V (C1 902 BR Z Z Z Z Z Z Z Z) ?_)))))));refine AB Z Z (AD (AC (AC (AE (AB Z Z (AD (AZ (BM (α:=List Nat×Bool) (λq=>⟨88,[(2,(.ptr 1 0 0)),(5,(.d (Gl (BF E (List.range n))))),(6,(.own 900 0 T.length)),(7,(.own 901 0 (BF E D).length)),(8,(.d (AT i))),(9,(.own 902 0 (BF E q.1).length)),(10,(.d (Ah q.2)))],[(1,[.blk 25 [.d (.sl none (p.ro.map Bj)),.d (.sl none (p.it.map Af))]]),(900,[.rowD 28 1 (T.map Gl)]),(901,[.rowD 3 1 ((BF E D).map AF)]),(902,[.rowD 3 1 ((BF E q.1).map AF)])]⟩) (λq=>PG (gJ p) E i q.1/\(q.2=false->∀k,k<E.length->uI (gJ p) E q.1 k)) (λq=>2*(E.length-q.1.length)+(if q.2 then 1 else 0)) (([i],true)) (⟨PG.zero u,λe=>by cases e⟩) (AX w [1,900,901,902] Z Z ⟨Z,Z,Z,Z,Z,Z,Z,trivial⟩) ?_))))))));rintro ⟨K,gr⟩ ⟨s,hC0⟩;dsimp only at s hC0⊢;refine AC (AC (AE (ek Z Z (AD (JC Z (λh33=>?_) (λh33=>?_))))))
   .refine AW (AZ (AC ?_));refine AE (AB Z Z (AD (AC (AE (AB Z Z (AD (AZ (BM (α:=Nat×List Nat×Bool) (λq=>⟨88,[(2,(.ptr 1 0 0)),(5,(.d (Gl (BF E (List.range n))))),(6,(.own 900 0 T.length)),(7,(.own 901 0 (BF E D).length)),(8,(.d (AT i))),(9,(.own 902 0 (BF E q.2.1).length)),(10,(.d (Ah q.2.2))),(11,(.d (AT q.1)))],[(1,[.blk 25 [.d (.sl none (p.ro.map Bj)),.d (.sl none (p.it.map Af))]]),(900,[.rowD 28 1 (T.map Gl)]),(901,[.rowD 3 1 ((BF E D).map AF)]),(902,[.rowD 3 1 ((BF E q.2.1).map AF)])]⟩) (λq=>q.1<=n/\PK (gJ p) E i K q.1 q.2.1 q.2.2) (λq=>n-q.1) ((0,K,false)) (⟨ζ _,PK.zero s⟩) (AX w [1,900,901,902] Z Z ⟨Z,Z,Z,Z,Z,Z,Z,Z,trivial⟩) ?_))))))));rintro ⟨k,S,g⟩ ⟨U,o⟩;dsimp only at U o⊢;refine AC (AC (AE (ek Z Z (ek Z Z (J (Jd Z (by rw[χ,hll]) E0 Z) (J (Az Z Z Z) (AD (A6 Z (λh37=>?_) (λh37=>?_)))))))))
    .refine AW (AC (AZ (AC (AC ?_))));have r:k<n:=BQ h37;have c:k<E.length:=by omega
     have f:∀j∈S,j<E.length:=λj L=>(o.pg.con j L).1;have hSl:=o.pg.len;refine AE (ek Z Z (ek Z Z (ek Z Z (J (BC (k) Z Z (Z) (v r) E0 Z BW Z) (J (CG Z Z Am Z) (J (EO [902] (FP (BF E S) (Sa E k) (by rw[aM];omega)) (by exact ⟨.inr ⟨_,_,Z,.own Z Z (by simp) (η (by simp)),Z⟩,.inl Z,trivial⟩) Z Z) (AD (A6 Z (λh45=>?_) (λh45=>?_)))))))))
     .have hkS:k∈S:=(Ep X f c).1 h45;refine Aw ?_
      first | have b:=o.next a (λe=> .inr λx hx=>by subst e;obtain ⟨R,B,rfl⟩:=jC.1 hx;exact (A Z).2 R (by have t:=I;rw[aM] at t;have h6:¬(m:Int)<(S.length:Int):=t;omega) B) | have b:=o.next a (λe=> .inl (by subst e;have t:Sa E k∈BF E (gm S k false):=(by simpa using H);exact (Ep X f c).1 t)) | skip
      refine AE (ek Z Z (J (Aj Z Z (AN (k+1) (by omega)) Z) (AB Z Z (AD ?_))));exact ⟨(k+1,S,g),⟨r,o.pass (.inl hkS)⟩,by show n-(k+1)<n-k;omega,AX w [1,900,901,902] Z (Z) ⟨Z,Z,Z,Z,Z,Z,Z,Z,trivial⟩⟩
     .have hkS:k∉S:=λh=>h45 ((Ep X f c).2 h);refine AW (AC (AE (AB Z Z (AD (AZ (BM (α:=Nat×Bool) (λq=>⟨88,[(2,(.ptr 1 0 0)),(5,(.d (Gl (BF E (List.range n))))),(6,(.own 900 0 T.length)),(7,(.own 901 0 (BF E D).length)),(8,(.d (AT i))),(9,(.own 902 0 (BF E (gm S k q.2)).length)),(10,(.d (Ah (if q.2=true then true else g)))),(11,(.d (AT k))),(12,(.d (AT q.1)))],[(1,[.blk 25 [.d (.sl none (p.ro.map Bj)),.d (.sl none (p.it.map Af))]]),(900,[.rowD 28 1 (T.map Gl)]),(901,[.rowD 3 1 ((BF E D).map AF)]),(902,[.rowD 3 1 ((BF E (gm S k q.2)).map AF)])]⟩) (λq=>q.1<=S.length+1/\(q.2=false->q.1<=S.length/\∀m,m<q.1->∀hm:m<S.length,¬Je (gJ p) (DK E S[m]) (DK E k))/\(q.2=true->PG (gJ p) E i (S++ [k]))) (λq=>if q.2 then 0 else S.length-q.1+1) ((0,false)) (⟨ζ _,λ_=>⟨ζ _,λm hm=>by omega⟩,λe=>by cases e⟩) (AX w [1,900,901,902] Z Z ⟨Z,Z,Z,Z,Z,Z,Z,Z,Z,trivial⟩) ?_))))));rintro ⟨m,hh⟩ ⟨hm,A,a⟩;dsimp only at hm A a⊢;refine AC (AC ?_);have hSr2:=q9 (hh:=hh) f c;have hSl2:=du S k hh;refine AE (ek Z Z (ek Z Z (J (RL Z E0 Z) (J (Az Z Z Z) (ek Z Z (CU 50 Z (λI=>?_) (λI=>?_)))))))
      .refine AQ Z Z Z (ek Z Z (AQ Z Z Z (ek Z Z (AQ Z Z Z (ek Z Z (AQ Z Z Z (J (BC (k) Z Z (Z) (v r) E0 Z BW Z) ?_)))))));refine AQ Z Z Z (J (CG Z Z Am Z) (AQ Z Z Z (J (EO [902] (FP (BF E (gm S k hh)) (Sa E k) (by rw[aM];omega)) (by exact ⟨.inr ⟨_,_,Z,.own Z Z (by simp) (η (by simp)),Z⟩,.inl Z,trivial⟩) Z Z) (AQ Z Z Z (J (KH Z Z) (J (BZ Z Z Z Z) (AD (A6 Z (λH=>?_) (λH=>?_)))))))))
       .refine AW (AC (AZ (AC ?_)));have hn58:Sa E k∉BF E (gm S k hh):=by simpa using H
        have hhf:hh=false:=Bool.eq_false_iff.2 λe=>hn58 (by rw[e];exact Θ.2 ⟨k,jN _ (θ.2 Z),Z⟩);subst hhf;have hmL:m<(BF E (gm S k false)).length:=BQ I;have N:m<S.length:=by rw[aM] at hmL;exact hmL
        have W:=Rq p hE hf (Sa E S[m]) (Sa E k) (C (f _ (ϑ N))).1 (C c).1;rw[(C (f _ (ϑ N))).2,(C c).2] at W;refine CK [[],[],[],[1,2],[1,2,3],[],[],[5,6],[5,6,7],rg 9] mixed Z (By (Aq [2] [1] Z Z (λ_=>Aa (Ay Z Z EE Z Z Z)) (Ap 9 Z Z (Ap 12 Z Z (Ao [62,63] Z Z (λ_=>Aa (DB (m) Z Z (Z) (hmL) Z E0 BW Z)) ?_)))));refine Aq [64] [902] Z Z (λ_=>Aa (EC Z Z (Xs (S:=gm S k false) N) Z Am Z)) (Ap 5 Z Z (Ap 11 Z Z (AR [66,67] Z (BC (k) Z Z (Z) (v r) E0 Z BW Z) (AR [68] Z (CG Z Z Am Z) (Bu 9 Z Z Z (Ab 10 Z Z (J (Au (W) Z Z) (AD ⟨Z,?_⟩))))))));refine Bz (A6 Z (λh70=>?_) (λh70=>?_))
        .refine AC (AE ?_);refine ek Z Z (ek Z Z (ek Z Z (J (BC (k) Z Z (Z) (v r) E0 Z BW Z) (J (CG Z Z Am Z) (V (C1 30 BR Z Z Z Z Z Z Z Z) (V (Ev ((BF E (gm S k false))) ([Sa E k]) Z Z Z Z Z Z Z Z BR (by simp only[υ];rw[aM];omega) Z Z Z Z) (AB Z Z (AD ?_))))))));rw[show BF E (gm S k false)++ [Sa E k]=BF E (gm S k true) by unfold BF gm;rw[ς Z,κ (by decide),Ω];rfl];refine AE (AB Z Z (AD (AE (ek Z Z (J (Aj Z Z (AN (m+1) (by omega)) Z) (AB Z Z (AD ?_)))))));exact ⟨(m+1,true),⟨by show m+1<=_;omega,(λe=>by cases e),λ_=>o.pg.add (ϑ N) c hkS h70⟩,by show (if true=true then 0 else S.length-(m+1)+1)<(if false=true then 0 else S.length-m+1);simp,AX w [1,900,901,902] Z (Z) ⟨Z,Z,Z,Z,Z,Z,Z,Z,Z,trivial⟩⟩
        .refine AW (AE (ek Z Z (J (Aj Z Z (AN (m+1) (by omega)) Z) (AB Z Z (AD ?_)))));exact ⟨(m+1,false),⟨by show m+1<=_;omega,λ_=>⟨by show m+1<=_;omega,λR h1 h2=>(Nat.decEq R m).byCases (λe=>by subst e;exact h70) λe=>(A Z).2 R (by omega) h2⟩,λe=>by cases e⟩,by show (if false=true then 0 else S.length-(m+1)+1)<(if false=true then 0 else S.length-m+1);simp;omega,AX w [1,900,901,902] Z (Z) ⟨Z,Z,Z,Z,Z,Z,Z,Z,Z,trivial⟩⟩
       .refine Aw ?_
        first | have b:=o.next a (λe=> .inr λx hx=>by subst e;obtain ⟨R,B,rfl⟩:=jC.1 hx;exact (A Z).2 R (by have t:=I;rw[aM] at t;have h6:¬(m:Int)<(S.length:Int):=t;omega) B) | have b:=o.next a (λe=> .inl (by subst e;have t:Sa E k∈BF E (gm S k false):=(by simpa using H);exact (Ep X f c).1 t)) | skip
        refine AE (ek Z Z (J (Aj Z Z (AN (k+1) (by omega)) Z) (AB Z Z (AD ?_))));exact ⟨(k+1,gm S k hh,(if hh=true then true else g)),⟨r,b⟩,by show n-(k+1)<n-k;omega,AX w [1,900,901,902] Z (Z) ⟨Z,Z,Z,Z,Z,Z,Z,Z,trivial⟩⟩
      .refine AI Z Z Z Z (AI Z Z Z Z ?_);refine AI Z Z Z Z (AI Z Z Z Z (AI Z Z Z Z (AI Z Z Z Z (AI Z Z Z Z (J (Be Z Z Z Z) (AD (Cr Z Z (Aw ?_))))))))
       first | have b:=o.next a (λe=> .inr λx hx=>by subst e;obtain ⟨R,B,rfl⟩:=jC.1 hx;exact (A Z).2 R (by have t:=I;rw[aM] at t;have h6:¬(m:Int)<(S.length:Int):=t;omega) B) | have b:=o.next a (λe=> .inl (by subst e;have t:Sa E k∈BF E (gm S k false):=(by simpa using H);exact (Ep X f c).1 t)) | skip
       refine AE (ek Z Z (J (Aj Z Z (AN (k+1) (by omega)) Z) (AB Z Z (AD ?_))));exact ⟨(k+1,gm S k hh,(if hh=true then true else g)),⟨r,b⟩,by show n-(k+1)<n-k;omega,AX w [1,900,901,902] Z (Z) ⟨Z,Z,Z,Z,Z,Z,Z,Z,trivial⟩⟩
    .refine Aw ?_;exact ⟨(S,g),⟨o.pg,λe k' hk'=>(o.no e).2 k' (by have:=h37;omega)⟩,by have h1:=o.pg.len;have h2:=o.le;show 2*(E.length-S.length)+(if g then 1 else 0)<2*(E.length-K.length)+(if gr then 1 else 0);rw[show gr=true from h33];cases hgr:g with | false=>rw[(o.no hgr).1];simp | true=>have h3:=o.yes hgr;simp;omega,AX w [1,900,901,902] Z (Z) ⟨Z,Z,Z,Z,Z,Z,Z,trivial⟩⟩
   .refine Aw (AC ?_);have hcl:=hC0 (by simpa using h33);have hSl0:=s.len;have hfl:(List.range n).filter (λj=>decide (j∈K))=(List.range n).filter λj=>dec (Cn (gJ p) E i j):=jy λj L=>W2 (s.fin hcl (by have:=Ψ.1 L;omega));have hpo:=Q7 p (BF E K) (by omega) (by rw[aM];omega);rw[z λj L=>(s.con j L).1,Y,hfl] at hpo;have hTl:T.length<=30:=by rw[hT,χ];have:=fG n i (Cn (gJ p) E);omega
    refine KL (emb:=AF) 9 902 (BF E K) Z Z Z Z Z Z Z (AE (ek Z Z (ek Z Z (V (QD ((BF E D)) ((BF E K)) Z Z Z Z Z Z (λ_=>rfl) BR (by rw[aM,aM];omega) Z Z Z Z) (AB Z Z (AD ?_))))));rw[show BF E D++BF E K=BF E (D++K) by unfold BF;rw[Ω]];refine AE (ek Z Z (J (Ay Z Z EE Z Z Z) (ek Z Z (J (Au (hpo) Z Z) ?_))));refine V (C1 31 OL Z Z Z Z Z Z Z Z) (V (Ev (T) ([BF E ((List.range n).filter λj=>dec (Cn (gJ p) E i j))]) Z Z Z Z Z Z Z Z OL (by simp only[υ];omega) Z Z Z Z) (AB Z Z (AD (AE (ek Z Z (J (Aj Z Z (AN (i+1) (by omega)) Z) (AB Z Z (AD ?_))))))));exact ⟨(i+1,T++ [_],D++K),⟨O,by show _=(i4 n (i+1) _).map _;rw[fH ((RE u hD).1 Q),Ω,hT];rfl,by show (D++K).length<=30*(i+1);rw[Δ];omega,λj L=>(ϖ.1 L).elim (G j) λh=>(s.con j h).1,mW hD λk U=>s.fin hcl U⟩,by show n-(i+1)<n-i;omega,AX w [1,900,901] Z (Z) ⟨Z,Z,Z,Z,Z,trivial⟩⟩
 .refine Aw (AC ?_);have hie:i=n:=by have:=h19;omega
  refine KL (emb:=Gl) 6 900 T Z Z Z Z Z Z Z ?_;rw[show T=ga (gJ p) E by rw[hT,hie];unfold ga;rw[Y];rfl];refine AE (ek Z Z (AB Z Z (AD (A2 ?_))));exact ⟨_,[],[],A0 Z,Z,Z,Z,Z⟩
theorem fA(p:gB)(l:List Int)(g:GJ p)(f:l.length<=100000)(h:CZ p l=0)(b:BB p=0)(c:l.Nodup):AL prog 23 [.d (Bf p),.d (Gl l)] (.tup [Xf (ga (gJ p) (DY p l)),AF 0]):=
 (qz p l g f h b c).mono λr k ⟨E,a,j,i⟩=>⟨by rw[j,W7 (E':=DY p l) (by rw[a,HR,show gC p=BN p.it from ς b])],i⟩
theorem Zn{rs:List AU}{E E':List (AJ×Nat)}(h:E.map Prod.fst=E'.map Prod.fst):iu rs E=iu rs E'/\BF E=BF E'/\E.length=E'.length:=by
 have c:DK E=DK E':=funext λk=>by rw[Na,Na,h]
 have b:E.length=E'.length:=by rw[<-χ (f:=Prod.fst),h,χ]
 refine ⟨?_,by funext S;unfold BF;rw[c],b⟩;have g:∀E:List (AJ×Nat),iu rs E=(E.map Prod.fst).map λa=>jE rs E a E.length:=λE=>by unfold iu;rw[gw];rfl
 simp[*,jE]
theorem ou{b:AJ}:∀k∈jE a E b I,k<I:=λk c=>Ψ.1 (gk.1 c).1
def nt(ids:List Int)(m k:Nat):List Int:=((List.range k).filter λj=>decide (m / 2^j % 2=1)).map λj=>ids.getD j 0
def vo(p:gB)(ids:List Int)(M:Nat)(x:Int):Prop:=∃m,m<M/\eI p (nt ids m ids.length)/\x∈nt ids m ids.length
noncomputable instance (p:gB) (ids:List Int) (M:Nat) (x:Int):Decidable (vo p ids M x):=Classical.propDecidable _
theorem Rf(b:(z.map AJ.id).Nodup)(a:Nat->Bool):El z a z.length=(z.map AJ.id).filter λx=>decide (x∈El z a z.length):=by
 obtain ⟨l,c⟩:∃l,El z a z.length=l:=⟨_,Z⟩
 have f:z.map AJ.id=(List.range z.length).map λi=>(z.getD i Ag).id:=by
  conv=>lhs;rw[Zd z]
  rw[gw];rfl
 grind[jy,pZ,El]
theorem fZ(h:CX K L B A N H){x:Nd}(b:N.nd[i]? =some x):AP prog 146 [.d (pD (B i) 0)] (HN H) λr c=>r= .d (Ah x.on)/\c=HN H:=by
 have a:=h.n i x b;refine Av func146 Z Z ntmps146 Z Z Z λF g=>(AC (AE (AB Z Z (AD ?_))));refine AC (AE (ek Z Z (J (Dh Z Z) (J (Cd Z FT Z Z Z) (J (EI (f:=40) Z Z (a) Z p8 Z) (AB Z Z (AD (A2 ?_))))))));exact ⟨_,[40],_,A0 Z,Z,Z,Z,Z⟩
theorem fX(h:CX K L B A N H)(e:Nat×Int){y:Po}(b:N.po[e.1]? =some y)(c: -1000000000000000000<=y.room/\y.room<=1000000000000000000)(f: -2000000000000000000<=e.2/\e.2<=2000000000000000000):AP prog 149 [.d (eW A e)] (HN H) λr g=>r= .d (Ah (T9 y e.2))/\g=HN H:=by
 have a:=Mm h b e.2 c f;refine Av func149 Z Z ntmps149 Z Z Z λF i=>(AC (AE (V (Bh 1 Z Z Z Z Z Z Z) (AB Z Z (AD (AC ?_))))));refine AE (J (AK Z SG Z Z Z) (J (AO Z Z Z FE Z) (J (AK Z SF Z Z Z) (J (AO Z Z Z Fo Z) (V (FH a Z [40] ⟨Z,trivial⟩ Z Z Z Z Z Z Z Z Z) (AB Z Z (AD (A2 ?_))))))));exact ⟨_,[40],_,A0 Z,Z,Z,Z,Z⟩
abbrev od(wb mv:Nat)(bs:Option (List Nat×Nat))(L:List (Int×Value))(M:MF):Hp:=(910,[.blk 171 [.d (pD wb 0)]])::HW mv bs L M
theorem fY(s:Option (List Nat×Nat))(h:CX K L B A N H)(t:(B8 N).Nodup){id:Int}(k:id∈B8 N):AP prog 147 [.d (AF id),.ptr 910 0 0] (od K L s (G4 B (B8 N)) H) λr u=>r= .d (Ah (!Dr N id))/\u=od K L s (G4 B (B8 N)) H:=by
 have i:=h.w;have a:=kZ k;have b:(B8 N).idxOf id<N.nd.length:=by unfold B8 at a⊢;rw[χ] at a;exact a
 obtain ⟨z,o⟩:∃z,N.nd[(B8 N).idxOf id]? =some z:=⟨_,ω b⟩
 have l:N.nd.getD ((B8 N).idxOf id) CR=z:=by rw[Φ,o];rfl
 have g:=h.n _ z o;have c:=SY (nb:=B) t a;rw[List.getElem_idxOf a] at c;have j:(!Dr N id)=z.on:=by unfold Dr;rw[l,Bool.not_not]
 refine Av func147 Z Z ntmps147 Z Z Z λF v=>(AC ?_);refine AE (AB Z Z (AD (AC (AE (J (AO Z Z Z XZ Z) (J (Dh Z Z) (J (Cd Z Nf Z Z Z) (J (EI (f:=40) Z Z (i) Z XX Z) ?_))))))));refine Dt 7 51 0 Z Z (ek Z Z (J (IV (G4 B (B8 N)) id (.pointer none) (pV (B ((B8 N).idxOf id)) 0) Z Z Z Xa IS Wm c Z) (J (Dh Z Z) (J (Cd Z FT Z Z Z) (J (EI (f:=40) Z Z (g) Z p8 Z) (AB Z Z (AD (A2 ?_))))))));exact ⟨_,[910,40,50,51],_,A0 Z,Z,Z,by rw[j],Z⟩
section
variable{P:Program}{F:Fr}{s:AS}{d:Nat}{x hi:Operand}{T E:TypeId}{ty:TypeId}{pos:String}{aft:Array Edge}{g:Option (Nat×Bool)}
theorem Sv{b n a c:Nat}(h:Nat){k:IntKind}{i:Int}(l:s.ev x=some (.d (.raw (sV b n a))))(f:s.ev hi=some (.d (.raw (.int k i))))(o:i=(h:Int))(v:h<=a)(t:P.underlying T=some (.slice E))(u:A4 P E c=true)(r:Nat.blt d s.n=true):
  AA P F ⟨some d,.slice T x none (some hi) none,ty,pos,aft,g⟩ s d (.d (.raw (sV b h a))):=
 Cv _ r λ_ y w j=>by
  have e:=j.raw l;subst o;refine ⟨.slice (if a=0 then some ⟨b,0,none⟩ else (some (⟨b,0,none⟩:Addr)).map (·.add (0*c))) (h-0) (a-0),by simp only[execOp,e,ij,jv,j.raw f,Sem.run_bind,Ha t (aO u) v,Result.andThen_ok,Sem.run_pure],?_⟩
  have:Value.slice (if a=0 then some ⟨b,0,none⟩ else (some (⟨b,0,none⟩:Addr)).map (·.add (0*c))) (h-0) (a-0)=sV b h a:=by
   split<;>simp[Addr.add]
  rw[this];exact .d (.raw Z)
end
variable{a c:Nat->Nat}{N:gK}{M:MF}{f g:Nat}{h:List Nat}{i:Hd}{j:Nat}{x:Nd}
def Kw{α:Type}(p:α->Bool)(l:List α):Int:=match l.findIdx? p with
 | some k=>k
 | none=> -1
theorem q5{H K:Nat}{E I:Nat->Nat}{N:gK}{M:MF}(h:CX H K E I N M){t:Hd}{q:List Nat}(v:B1 M t 176 1 (q.map λi=>B2 (E i)))(u:∀i∈q,i<N.nd.length)(m:Nat)(X:m<=q.length)(R:q.length<=100000):
  AP prog 97 [.d (gN t m),.d (.raw (.func (.func 146) #[] #[]))] (HN M) λr T=>r= .d (AF (Kw (iD N) (q.take m)))/\T=HN M:=by
 have L:t=none->m=0:=λe=>by have:=VJ v e;omega
 have Q:(q.take m).length=m:=by rw[ϱ];omega
 refine Av func97 Z Z ntmps97 Z Z Z λF G=>(AC (AE (AB Z Z (AD ?_))));refine AC (AC (AE (ek Z Z (J (Wg L Z cj Z) (ek Z Z (AD (AZ (BM (α:=Nat) (λk=>⟨19,[(0,.d (gN t m)),(1,.d (.raw (.func (.func 146) #[] #[]))),(7,(.d (AF (m:Int)))),(8,(.d (AF (k:Int))))],HN M⟩) (λk=>k<=m/\∀x∈(q.take m).take k,iD N x=false) (λk=>m-k) (0) (⟨ζ _,by simp⟩) (AX G [40] Z Z ⟨Z,Z,Z,Z,trivial⟩) ?_))))))));rintro k ⟨S,A⟩;refine AC (AE (J (Az Z Z Z) (AD (AC (A6 Z (λD=>?_) (λD=>?_))))))
 .have w:k<m:=BQ D;refine AW (AC (AZ (AC ?_)));have a:k<q.length:=by omega
  have s:k<(q.take m).length:=by omega
  obtain ⟨W,U,l⟩:=VU v a;have j:=Sc v l;have B:=u _ (ϑ a)
  obtain ⟨z,c⟩:∃z,N.nd[q[k]]? =some z:=⟨_,ω B⟩
  have C:=fZ h c;have o:iD N q[k]=z.on:=by unfold iD;rw[Φ,c];rfl
  refine AE (ek Z Z (AB Z Z (AD (AC ?_))));refine AE (ek Z Z (ek Z Z (ek Z Z (J (Wj l (k) Z Z Z w cj Mg Z) (J (nY (f:=40) (e:=k) (off:=0) Z (by omega) Z (j) (A1 a) Z O2 Z) (V (VT C Z [40] ⟨Z,trivial⟩ Z Z Z Z Z Z Z Z Z) (AD (JC Z (λb=>?_) (λb=>?_)))))))))
  .refine AC (AE (ek Z Z (AB Z Z (AD (A2 ?_)))));exact ⟨_,[40],_,A0 Z,Z,Z,Ae (by unfold Kw;rw[G1 s A (by rw[List.getElem_take,o];simpa using b)]),Z⟩
  .refine AW (AE (J (Aj Z Z (AN (k+1) (by omega)) Z) (ek Z Z (AD ?_))));exact ⟨k+1,⟨by show k+1<=_;omega,by rw[ψ s];intro y g;rcases ϖ.1 g with g | g;exact A y g;rw[θ.1 g,List.getElem_take];rw[o];simpa using b⟩,by show m-(k+1)<m-k;omega,AX G [40] Z (Z) ⟨Z,Z,Z,Z,trivial⟩⟩
 .refine Aw (AC (AE (AB Z Z (AD (A2 ?_)))));exact ⟨_,[40],_,A0 Z,Z,Z,Ae (by unfold Kw;rw[Ht (λx O=>A x (by rw[η (by have h:=D;omega)];exact O))]),Z⟩
theorem WP{a:Type}{p:a->Bool}{l:List a}:(Kw p l>=0)↔l.any p=true:=by grind[Kw]
theorem m9(j:CX f g c a N M)(o:B1 M i 176 1 (h.map λb=>B2 (c b)))(k:∀b∈h,b<N.nd.length)(m:Nat)(s:m<=h.length)(l:h.length<=100000):
  AP prog 145 [.d (gN i m),.d (.raw (.func (.func 146) #[] #[]))] (HN M) λr t=>r= .d (Ah ((h.take m).any (iD N)))/\t=HN M:=by
 refine Av func145 Z Z ntmps145 Z Z Z λF u=>(AC (AE (AB Z Z (AD ?_))));refine AC (AE (ek Z Z (ek Z Z (V (FH (q5 j o k m s l) Z [40] ⟨Z,trivial⟩ Z Z Z Z Z Z Z Z Z) (J (EN Z Z Z) (AB Z Z (AD (A2 ?_))))))));exact ⟨_,[40],_,A0 Z,Z,Z,QW (by rw[kJ,jP];exact WP),Z⟩
theorem qZ{D H:Nat}{G E:Nat->Nat}{N:gK}{M:MF}(h:CX D H G E N M)(u:i6 N){i:Nat}{x:Nd}(B:N.nd[i]? =some x):
  AP prog 197 [.d (gN x.eh x.ef.length),.d (.raw (.func (.func 149) #[] #[]))] (HN M) λr R=>r= .d (AF (Kw (λe:Nat×Int=>T9 (N.po.getD e.1 Cj) e.2) x.ef))/\R=HN M:=by
 obtain ⟨K,g,_⟩:=h.nn i x B;have c:=ξ B;have O:=(u.l x c).1;have I:=VJ g;refine Av func197 Z Z ntmps197 Z Z Z λF C=>(AC (AE (AB Z Z (AD ?_))));refine AC (AC (AE (ek Z Z (J (Wg I Z underlying181 Z) (ek Z Z (AD (AZ (BM (α:=Nat) (λk=>⟨19,[(0,.d (gN x.eh x.ef.length)),(1,.d (.raw (.func (.func 149) #[] #[]))),(7,(.d (AF (x.ef.length:Int)))),(8,(.d (AF (k:Int))))],HN M⟩) (λk=>k<=x.ef.length/\∀e∈x.ef.take k,(λe:Nat×Int=>T9 (N.po.getD e.1 Cj) e.2) e=false) (λk=>x.ef.length-k) (0) (⟨ζ _,by simp⟩) (AX C [40] Z Z ⟨Z,Z,Z,Z,trivial⟩) ?_))))))));rintro k ⟨L,v⟩;refine AC (AE (J (Az Z Z Z) (AD (AC (A6 Z (λA=>?_) (λA=>?_))))))
 .have a:k<x.ef.length:=BQ A;refine AW (AC (AZ (AC ?_)));obtain ⟨T,S,b⟩:=VU g a;have o:=Sc g b;have w:=(h.e x c).1 _ (ϑ a)
  obtain ⟨y,t⟩:∃y,N.po[x.ef[k].1]? =some y:=⟨_,ω w⟩
  have s:N.po.getD x.ef[k].1 Cj=y:=by rw[Φ,t];rfl
  have Q:=u.e x c _ (ϑ a);have z:=fX h x.ef[k] t (u.rm y (ξ t)) ⟨by omega,by omega⟩;refine AE (ek Z Z (AB Z Z (AD (AC ?_))));refine AE (ek Z Z (ek Z Z (ek Z Z (J (Wj b (k) Z Z Z a underlying181 Sq Z) (J (EM (f:=40) (e:=k) Z (Z) Z (o) (A1 a) Z bk Z) (V (VT z Z [40] ⟨Z,trivial⟩ Z Z Z Z Z Z Z Z Z) (AD (A6 Z (λl=>?_) (λl=>?_)))))))))
  .refine AC (AE (ek Z Z (AB Z Z (AD (A2 ?_)))));exact ⟨_,[40],_,A0 Z,Z,Z,Ae (by unfold Kw;rw[G1 a v (by show T9 (N.po.getD x.ef[k].1 Cj) x.ef[k].2=true;rw[s];unfold T9;exact gi l)]),Z⟩
  .refine AW (AE (J (Aj Z Z (AN (k+1) (by omega)) Z) (ek Z Z (AD ?_))));exact ⟨k+1,⟨by show k+1<=_;omega,by rw[ψ a];intro e j;rcases ϖ.1 j with j | j;exact v e j;rw[θ.1 j];show T9 (N.po.getD x.ef[k].1 Cj) x.ef[k].2=false;rw[s];unfold T9;exact gp l⟩,by show x.ef.length-(k+1)<x.ef.length-k;omega,AX C [40] Z (Z) ⟨Z,Z,Z,Z,trivial⟩⟩
 .refine Aw (AC (AE (AB Z Z (AD (A2 ?_)))));exact ⟨_,[40],_,A0 Z,Z,Z,Ae (by unfold Kw;rw[Ht (λe j=>v e (by rw[η (by have h:=A;omega)];exact j))]),Z⟩
theorem m7(h:CX f g c a N M)(k:i6 N)(b:N.nd[j]? =some x):
  AP prog 148 [.d (gN x.eh x.ef.length),.d (.raw (.func (.func 149) #[] #[]))] (HN M) λr l=>r= .d (Ah (x.ef.any λe:Nat×Int=>T9 (N.po.getD e.1 Cj) e.2))/\l=HN M:=by
 refine Av func148 Z Z ntmps148 Z Z Z λF o=>(AC (AE (AB Z Z (AD ?_))));refine AC (AE (ek Z Z (ek Z Z (V (FH (qZ h k b) Z [40] ⟨Z,trivial⟩ Z Z Z Z Z Z Z Z Z) (J (EN Z Z Z) (AB Z Z (AD (A2 ?_))))))));exact ⟨_,[40],_,A0 Z,Z,Z,QW (by rw[kJ,jP];exact WP),Z⟩
theorem q0(o:Option (List Nat×Nat))(h:CX f g c a N M)(y:(B8 N).Nodup)(l:List Int)(D:l.length<=100000)(t:∀id∈l,id∈B8 N):
  AP prog 138 [.d (.sl none (l.map AF)),.fn 147 [.ptr 910 0 0]] (od f g o (G4 c (B8 N)) M) λr C=>r= .d (AF (Kw (λid=>!Dr N id) l))/\C=od f g o (G4 c (B8 N)) M:=by
 obtain ⟨L,B⟩:∃L,G4 c (B8 N)=L:=⟨_,Z⟩
 have v:=λid A=>fY (id:=id) o h y A;rw[B] at v⊢;refine Av func138 Z Z ntmps138 Z Z Z λF w=>(AC (AE (AB Z Z (AD ?_))));refine AC (AC (AE (ek Z Z (J (BS Z E0 Z) (ek Z Z (AD (AZ (BM (α:=Nat) (λk=>⟨19,[(0,.d (.sl none (l.map AF))),(1,.fn 147 [.ptr 910 0 0]),(7,(.d (AF (l.length:Int)))),(8,(.d (AF (k:Int))))],od f g o L M⟩) (λk=>k<=l.length/\∀x∈l.take k,(λid=>!Dr N id) x=false) (λk=>l.length-k) (0) (⟨ζ _,by simp⟩) (AX w [910,40,50,51] Z Z ⟨Z,Z,Z,Z,trivial⟩) ?_))))))));rintro k ⟨z,s⟩;refine AC (AE (J (Az Z Z Z) (AD (AC (A6 Z (λu=>?_) (λu=>?_))))))
 .have b:k<l.length:=BQ u;refine AW (AC (AZ (AC (AE (ek Z Z (AB Z Z (AD (AC ?_))))))));refine AE (ek Z Z (ek Z Z (ek Z Z (J (BC (k) Z Z (Z) (A1 b) E0 Z BW Z) (J (CG Z Z Am Z) (V (VT (v l[k] (t _ (ϑ b))) Z [910,40,50,51] ⟨Z,Z,Z,Z,trivial⟩ Z Z Z Z Z Z Z Z Z) (AD (JC Z (λj=>?_) (λj=>?_)))))))))
  .refine AC (AE (ek Z Z (AB Z Z (AD (A2 ?_)))));exact ⟨_,[910,40,50,51],_,A0 Z,Z,Z,Ae (by unfold Kw;rw[G1 b s (by simpa using j)]),Z⟩
  .refine AW (AE (J (Aj Z Z (AN (k+1) (by omega)) Z) (ek Z Z (AD ?_))));exact ⟨k+1,⟨by show k+1<=_;omega,by rw[ψ b];intro x i;rcases ϖ.1 i with i | i;exact s x i;rw[θ.1 i];simpa using j⟩,by show l.length-(k+1)<l.length-k;omega,AX w [910,40,50,51] Z (Z) ⟨Z,Z,Z,Z,trivial⟩⟩
 .refine Aw (AC (AE (AB Z Z (AD (A2 ?_)))));exact ⟨_,[910,40,50,51],_,A0 Z,Z,Z,Ae (by unfold Kw;rw[Ht (λx i=>s x (by rw[η (by have h:=u;omega)];exact i))]),Z⟩
theorem m8(i:Option (List Nat×Nat))(h:CX f g c a N M)(j:(B8 N).Nodup)(l:List Int)(k:l.length<=100000)(b:∀id∈l,id∈B8 N):
  AP prog 130 [.d (.sl none (l.map AF)),.fn 147 [.ptr 910 0 0]] (od f g i (G4 c (B8 N)) M) λr o=>r= .d (Ah (l.any λid=>!Dr N id))/\o=od f g i (G4 c (B8 N)) M:=by
 refine Av func130 Z Z ntmps130 Z Z Z λF s=>(AC (AE (AB Z Z (AD ?_))));refine AC (AE (ek Z Z (ek Z Z (V (FH (q0 i h j l k b) Z [910,40,50,51] ⟨Z,Z,Z,Z,trivial⟩ Z Z Z Z Z Z Z Z Z) (J (EN Z Z Z) (AB Z Z (AD (A2 ?_))))))));exact ⟨_,[910,40,50,51],_,A0 Z,Z,Z,QW (by rw[kJ,jP];exact WP),Z⟩
section
variable{P:Program}{F:Fr}{s:AS}{d:Nat}{x hi:Operand}{T E:TypeId}{ty:TypeId}{pos:String}{aft:Array Edge}{g:Option (Nat×Bool)}
theorem Sw{h:Hd}{b n a i:Nat}(o:h=some (b,a))(m:Nat){j:IntKind}{f:Int}(k:s.ev x=some (.d (gN h n)))(c:s.ev hi=some (.d (.raw (.int j f))))(l:f=(m:Int))(v:m<=a)(t:P.underlying T=some (.slice E))(u:A4 P E i=true)(r:Nat.blt d s.n=true):
  AA P F ⟨some d,.slice T x none (some hi) none,ty,pos,aft,g⟩ s d (.d (gN h m)):=by
 subst o;exact Sv m k c l v t u r
end
variable{a:List Ad}{c:Nat->Bool}{f:List AJ}{N:gK}{R:Int->Int->Prop}{i:Nat}{x:Nd}{g:gB}{h Y:List Ad}{j k:Nat->Nat}{o:List Po}{M:MF}{s t u:Nat}{y:Po}
def cR(N:gK)(e:Nat×Nat):Bool:=((N.po.getD e.1 Cj).q.take e.2).any (iD N)
def E4(N:gK)(x:Nd):Bool:=!(x.pl.any (cR N)) &&(!(x.it.af.any λid=>!Dr N id) && !(x.ef.any λe:Nat×Int=>T9 (N.po.getD e.1 Cj) e.2))
theorem tz(h:x.pl.any (cR N)=true):E4 N x=false:=by unfold E4;rw[h];rfl
theorem uB(a:x.pl.any (cR N)=false)(h:(x.it.af.any λid=>!Dr N id)=true):E4 N x=false:=by unfold E4;rw[a,h];rfl
theorem uA(a:x.pl.any (cR N)=false)(h:(x.it.af.any λid=>!Dr N id)=false):E4 N x=!(x.ef.any λe:Nat×Int=>T9 (N.po.getD e.1 Cj) e.2):=by unfold E4;rw[a,h];simp
theorem nJ(Q:Option (List Nat×Nat))(h:CX s t k j N M)(C:i6 N)(W:N.nd[i]? =some x):
  AP prog 99 [.d (pD s 0),.d (pD (k i) 0)] (HW t Q (G4 k (B8 N)) M) λr H'=>r= .d (Ah (E4 N x))/\H'=HW t Q (G4 k (B8 N)) M:=by
 have c:=ξ W;obtain ⟨l,hre,o⟩:=h.nn i x W;have X:=VJ o;obtain ⟨_,hpl,hafl⟩:=C.l x c;have U:=h.e x c;have T:=C.p x c;have O:=m8 Q h C.i x.it.af (by omega) (C.a x c);have hc3:=m7 h C W
 obtain ⟨L,hL⟩:∃L,G4 k (B8 N)=L:=⟨_,Z⟩
 rw[hL] at O⊢;refine Av func99 Z Z ntmps99 Z Z Z λF hF=>(AC (AE (V (Bh 910 Z Z Z Z Z Z Z) (AB Z Z (AD (AC (AC (AE ?_))))))));refine ek Z Z (J (Dh Z Z) (J (Cd Z LK Z Z Z) (J (EI (f:=40) Z Z (l) Z XV Z) (J (Wg X Z underlying182 Z) (ek Z Z (AD (AZ (BM (α:=Nat) (λa=>⟨39,[(1,.d (pD (k i) 0)),(2,(.ptr 910 0 0)),(10,(.d (gN x.ph x.pl.length))),(11,(.d (AF (x.pl.length:Int)))),(12,(.d (AF (a:Int))))],od s t Q L M⟩) (λa=>a<=x.pl.length/\∀e∈x.pl.take a,cR N e=false) (λa=>x.pl.length-a) (0) (⟨ζ _,by simp⟩) (AX hF [910,40,50,51] Z Z ⟨Z,Z,Z,Z,Z,trivial⟩) ?_))))))));rintro a ⟨hk0,u⟩;refine AC (AE (J (Az Z Z Z) (AD (AC (A6 Z (λB=>?_) (λB=>?_))))))
 .have b:a<x.pl.length:=BQ B;refine AW (AC (AZ (AC ?_)));obtain ⟨eb,ec,K⟩:=VU o b;have E:=Sc o K;have Y:x.pl[a].1<N.po.length:=U.2 _ (ϑ b)
  obtain ⟨y,S⟩:∃y,N.po[x.pl[a].1]? =some y:=⟨_,ω Y⟩
  have v:N.po.getD x.pl[a].1 Cj=y:=by rw[Φ,S];rfl
  have D:=ξ S;obtain ⟨R,g⟩:=h.pp _ y S;have H:=T _ (ϑ b);rw[v] at H;obtain ⟨qb,qc,G⟩:=VU g H.1;have hqc:y.q.length<=qc:=by have h1:=g;rw[G] at h1;have h2:=h1.1;rw[χ] at h2;exact h2
  have hcn:=m9 h g (h.q y D) x.pl[a].2 (by omega) (by have h1:=C.ql y D;omega);refine AE (J (Wj K (a) Z Z Z b underlying182 QJ Z) ?_);refine J (EM (f:=40) (e:=a) Z (Z) Z (E) (A1 b) Z bi Z) (V (Bx 911 Wl Z Z Z Z) (V (B3 Z Z Z Z Z Z Z QJ) (AD (AC (CK [[],[0],[0,1],[0,1,2],[0,1,2,3],[],[5],rg 7,rg 8] mixed Z (By (AR [6] Z (AK Z Hv Z Z Z) (Aq [16] [911] Z Z (λ_=>Aa (AO Z Z Z FE Z)) ?_))))))));refine AR [17] Z (Dh Z Z) (AR [18] Z (Cd Z Hw Z Z Z) (Aq [19] [40] Z Z (λ_=>Aa (EI (f:=40) Z Z (R) Z HD Z)) (AR [6] Z (AK Z SD Z Z Z) (Aq [21] [911] Z Z (λ_=>Aa (AO Z Z Z Am Z)) (Bu 7 Z Z Z (Ab 8 Z Z (J (Sw G x.pl[a].2 Z Z Z (by omega) cj Mg Z) (AD ⟨Z,?_⟩))))))));refine Ab 9 Z Z (V (FH hcn Z [40] ⟨Z,trivial⟩ Z Z Z Z Z Z Z Z Z) (AD ⟨Z,?_⟩));refine Bz (JC Z (λA=>?_) (λA=>?_))
  .refine AC (AE (AB Z Z (AD (A2 ?_))));exact ⟨_,[40,50,51],_,A0 Z,Z,Z,by rw[tz (List.any_eq_true.2 ⟨_,ϑ b,by unfold cR;rw[v];simpa using A⟩)],Z⟩
  .refine AW (AE (J (Aj Z Z (AN (a+1) (by omega)) Z) (ek Z Z (AD ?_))));exact ⟨a+1,⟨by show a+1<=_;omega,by rw[ψ b];intro e w;rcases ϖ.1 w with w | w;exact u e w;rw[θ.1 w];unfold cR;rw[v];simpa using A⟩,by show x.pl.length-(a+1)<x.pl.length-a;omega,AX hF [910,40,50,51] Z (Z) ⟨Z,Z,Z,Z,Z,trivial⟩⟩
 .refine Aw (AC (AC ?_));have I:x.pl.any (cR N)=false:=by rw[List.any_eq_false];intro e w;have e1:a=x.pl.length:=(by have h:=B;omega);rw[e1,gy] at u;rw[u e w];simp
  refine AE ?_;refine ek Z Z (J (Dh Z Z) (J (Cd Z G2 Z Z Z) (J (Cd Z Dz Z Z Z) (J (EI (f:=40) Z Z (l) Z BH Z) (J (rP Z Z) (V (FH O Z [910,40,50,51] ⟨Z,Z,Z,Z,trivial⟩ Z Z Z Z Z Z Z Z Z) (AD (JC Z (λz=>?_) (λz=>?_)))))))))
  .refine AC (AE (AB Z Z (AD (A2 ?_))));exact ⟨_,[40,50,51],_,A0 Z,Z,Z,by rw[uB I (by simpa using z)],Z⟩
  .refine AW (AC (AE ?_));refine ek Z Z (J (Dh Z Z) (J (Cd Z LL Z Z Z) (J (EI (f:=40) Z Z (l) Z XW Z) (V (FH hc3 Z [40] ⟨Z,trivial⟩ Z Z Z Z Z Z Z Z Z) (J (NE Z Z) (AB Z Z (AD (A2 ?_))))))));exact ⟨_,[40,50,51],_,A0 Z,Z,Z,by rw[uA I (by simpa using z)],Z⟩
abbrev HG(wb mv:Nat)(bs:Option (List Nat×Nat))(L:List (Int×Value))(M:MF):Hp:=(920,[.blk 171 [.d (pD wb 0)]])::HW mv bs L M
theorem dy(g:Option (List Nat×Nat))(h:CX s t k j N M)(o:i6 N){i:Nat}{x:Nd}(l:N.nd[i]? =some x):
  AP prog 98 [.d (pD (k i) 0),.ptr 920 0 0] (HG s t g (G4 k (B8 N)) M) λr v=>r= .d (Ah (x.on && E4 N x))/\v=HG s t g (G4 k (B8 N)) M:=by
 have b:=h.n i x l;have a:=nJ g h o l
 obtain ⟨L,u⟩:∃L,G4 k (B8 N)=L:=⟨_,Z⟩
 rw[u] at a⊢;refine Av func98 Z Z ntmps98 Z Z Z λF w=>(AC (AE (AB Z Z ?_)));refine AD (AC (AE (ek Z Z (J (Dh Z Z) (J (Cd Z FT Z Z Z) (J (EI (f:=40) Z Z (b) Z p8 Z) (ek Z Z (Kf 8 Z (λc=>?_) (λc=>?_)))))))));refine AQ Z Z Z (J (AO Z Z Z XZ Z) (AQ Z Z Z (ek Z Z (AQ Z Z Z (V (FH a Z [40,50,51] ⟨Z,Z,Z,trivial⟩ Z Z Z Z Z Z Z Z Z) (J (BZ Z Z Z Z) ?_))))))
 rotate_left
 refine AI Z Z Z Z (AI Z Z Z Z (AI Z Z Z Z (J (Be Z Z Z Z) ?_)))
 all_goals
  refine AB Z Z (AD (A2 ?_));exact ⟨_,[920,40,50,51],_,A0 Z,Z,Z,by rcases Bool.eq_false_or_eq_true x.on with e | e<;>rw[e] at c⊢<;>first | rfl | (simp at c),rfl⟩
def Ov(N:gK)(i:Nat):Bool:=(N.nd.getD i CR).on && E4 N (N.nd.getD i CR)
theorem qX(C:Option (List Nat×Nat))(h:CX s t k j N M)(I:i6 N):
  AP prog 97 [.d (gN N.nh N.nd.length),.fn 98 [.ptr 920 0 0]] (HG s t C (G4 k (B8 N)) M) λr U=>r= .d (AF (Kw (Ov N) (List.range N.nd.length)))/\U=HG s t C (G4 k (B8 N)) M:=by
 have c:B1 M N.nh cO 1 ((List.range N.nd.length).map λi=>B2 (k i)):=h.rs.1 .n;have Q:N.nh=none->N.nd.length=0:=λe=>by have O:=VJ c e;rw[iF] at O;exact O
 have R:=I.n.1;have B:=λi x D=>dy (i:=i) (x:=x) C h I D
 obtain ⟨L,T⟩:∃L,G4 k (B8 N)=L:=⟨_,Z⟩
 rw[T] at B⊢;refine Av func97 Z Z ntmps97 Z Z Z λF K=>(AC (AE (AB Z Z (AD ?_))));refine AC (AC (AE (ek Z Z (J (Wg Q Z cj Z) (ek Z Z (AD (AZ (BM (α:=Nat) (λa=>⟨19,[(0,.d (gN N.nh N.nd.length)),(1,.fn 98 [.ptr 920 0 0]),(7,(.d (AF (N.nd.length:Int)))),(8,(.d (AF (a:Int))))],HG s t C L M⟩) (λa=>a<=N.nd.length/\∀x∈(List.range N.nd.length).take a,Ov N x=false) (λa=>N.nd.length-a) (0) (⟨ζ _,by simp⟩) (AX K [920,40,50,51] Z Z ⟨Z,Z,Z,Z,trivial⟩) ?_))))))));rintro a ⟨S,E⟩;refine AC (AE (J (Az Z Z Z) (AD (AC (A6 Z (λH=>?_) (λH=>?_))))))
 .have b:a<N.nd.length:=BQ H;refine AW (AC (AZ (AC ?_)));have g:a<(List.range N.nd.length).length:=by rw[iF];exact b
  obtain ⟨X,W,w⟩:=VU c g;have v:=Sc c w
  obtain ⟨z,o⟩:∃z,N.nd[a]? =some z:=⟨_,ω b⟩
  have G:=B a z o;have A:Ov N a=(z.on && E4 N z):=by unfold Ov;rw[Φ,o];rfl
  refine AE (ek Z Z ?_);refine AB Z Z (AD (AC (AE (ek Z Z (ek Z Z (ek Z Z (J (Wj w (a) Z Z Z b cj Mg Z) (J (nY (f:=40) (e:=a) (off:=0) Z (by omega) Z (v) ((by rw[ν,j1 b];rfl)) Z O2 Z) ?_))))))));refine V (VT G Z [920,40,50,51] ⟨Z,Z,Z,Z,trivial⟩ Z Z Z Z Z Z Z Z Z) (AD (JC Z (λl=>?_) (λl=>?_)))
  .refine AC (AE (ek Z Z (AB Z Z (AD (A2 ?_)))));exact ⟨_,[920,40,50,51],_,A0 Z,Z,Z,Ae (by unfold Kw;rw[G1 g E (by rw[k6,A];simpa using l)]),Z⟩
  .refine AW (AE (J (Aj Z Z (AN (a+1) (by omega)) Z) (ek Z Z (AD ?_))));exact ⟨a+1,⟨by show a+1<=_;omega,by rw[ψ g];intro y u;rcases ϖ.1 u with u | u;exact E y u;rw[θ.1 u,k6,A];simpa using l⟩,by show N.nd.length-(a+1)<N.nd.length-a;omega,AX K [920,40,50,51] Z (Z) ⟨Z,Z,Z,Z,trivial⟩⟩
 .refine Aw (AC (AE (AB Z Z (AD (A2 ?_)))));exact ⟨_,[920,40,50,51],_,A0 Z,Z,Z,Ae (by unfold Kw;rw[Ht (λx D=>E x (by rw[η (by rw[iF];have h:=H;omega)];exact D))]),Z⟩
theorem lZ(N:gK):iD (BL N)=iD N:=funext λi=>by unfold iD;rw[Fy];rfl
theorem ZS(N:gK):Dr (BL N)=Dr N:=funext λe=>by unfold Dr;rw[Fy,Hy];rfl
theorem aJ(N:gK)(x:Nd):E4 (BL N) (FD x)=E4 N x:=by
 have a:cR (BL N)=cR N:=funext λe=>by unfold cR;rw[Ir,lZ];rfl
 have b:(λe:Nat×Int=>T9 ((BL N).po.getD e.1 Cj) e.2)=λe=>T9 (N.po.getD e.1 Cj) e.2:=funext λe=>by rw[Ir];rfl
 unfold E4;rw[a,ZS]
 grind[FD]
theorem dz(N:gK):Ov (BL N)=Ov N:=funext λi=>by unfold Ov;rw[Fy,aJ];rfl
def QA(po:List Po)(e:Nat×Int):List Po:=match po[e.1]? with
 | some y=>po.set e.1 {y with room:=y.room+e.2}
 | none=>po
theorem nM{e:Nat×Int}(h:o[e.1]? =some y):QA o e=o.set e.1 {y with room:=y.room+e.2}:=by unfold QA;rw[h]
theorem VB:∀(l:List (Nat×Int)) (a:List Po),(l.foldl QA a).map Cg=l.foldl QA (a.map Cg)
 | [],_=>rfl
 | e::l,a=>by
  rw[List.foldl_cons,List.foldl_cons,VB l]
  congr 1
  unfold QA;rw[ν]
  cases a[e.1]? with
  | none=>rfl
  | some y=>show (a.set e.1 _).map Cg=_;rw[List.map_set];rfl
theorem aL(l:(a.map Ad.r).Nodup)(f:Ad->Po):∀(D:List (AU×Int)),(D.map Prod.fst).Nodup->(W1 (a.map Ad.r) D).foldl QA (a.map f)=a.map λx=>{f x with room:=(f x).room+Gm D x.r}:=by
 intro D
 induction D using aN with
 | h0=>
  intro _;show a.map f=_;refine hQ λx _=>?_;show f x={f x with room:=(f x).room+0}
  rw[Int.add_zero]
 | h1 D d b=>
  intro g;rw[Ω,kC] at g;have j:d.1∉D.map Prod.fst:=λh=>g.2.2 _ h _ (List.mem_singleton_self _) rfl;have b:=b g.1
  by_cases c:d.1∈a.map Ad.r
  .rw[W0 c,List.foldl_append,b];obtain ⟨o,k⟩:=Nb c
   grind[QA,SI,Dx,HI,D7]
  .rw[SK c,b];refine hQ λx i=>?_;have:Gm (D++ [d]) x.r=Gm D x.r:=D7 λe=>c (e▸Θ.2 ⟨x,i,Z⟩);rw[this]
def Kh(on:Nat->Bool):Nat->Bool:=λi=>!on i
def uL(ds:List (List (AU×Int)))(on:Nat->Bool)(x:Ad):Po:=⟨x.r,x.n+H1 ds (Kh on) x.r,H1 ds (λ_=>true) x.r,none,gM ds x.r,(gM ds x.r).length⟩
def gx(ros:List Ad)(its:List AJ)(on:Nat->Bool):gK:=⟨(List.range its.length).map (S9 (ros.map Ad.r) its on),ros.map (uL (its.map A3) on),none,none⟩
theorem Yf(b:List (List (AU×Int)))(r:AU):H1 b (Kh λ_=>true) r=0:=by
 unfold H1 Kh
 generalize List.range b.length=l
 induction l with
 | nil=>rfl
 | cons a l c=>rw[ie,List.sum_cons,c];rfl
theorem cz(a:List Ad)(b:List AJ):gx a b (λ_=>true)=gP a b λ_=>true:=by grind[gx,gP,hQ,uL,r7,Yf,Xd]
theorem ko{a:List (List (AU×Int))}(h:i<a.length)(f:c i=true)(r:AU):H1 a (Kh (BK c i)) r=H1 a (Kh c) r+Gm (a.getD i []) r:=by
 obtain ⟨B,b,g⟩:=JP h;unfold H1;rw[b,Ω,Ω,ie,ie,ji,ji,List.sum_cons,List.sum_cons]
 grind[Kh,hQ,JL,Li]
def te(N:gK)(i:Nat)(x:Nd):gK:={N with nd:=N.nd.set i (Em x),po:=x.ef.foldl QA N.po}
theorem vF(w:(a.map Ad.r).Nodup)(h:BL N=gx a f c)(g:i<f.length)(v:c i=true)(u:N.nd[i]? =some x):BL (te N i x)=gx a f (BK c i):=by
 have l:N.nd.map FD=(List.range f.length).map (S9 (a.map Ad.r) f c):=gV gK.nd h;have k:N.po.map Cg=a.map (uL (f.map A3) c):=gV gK.po h
 have b:FD x=S9 (a.map Ad.r) f c i:=by
  have s:(N.nd.map FD)[i]? =some (FD x):=by rw[ν,u];rfl
  grind
 have r:x.ef=W1 (a.map Ad.r) (A3 (f.getD i Ag)):=gV Nd.ef b;have gu:i<(f.map A3).length:=by simpa using g
 have o:(f.map A3).getD i []=A3 (f.getD i Ag):=by rw[FG [] gu,FG Ag g,iC]
 unfold BL te gx;dsimp only
 congr 1
 .rw[List.map_set,l]
  have:FD (Em x)=S9 (a.map Ad.r) f (BK c i) i:=by
   have s:FD (Em x)=Em (FD x):=rfl;rw[s,b];unfold S9 Em BK;rw[ς rfl]
  rw[this];refine jk λj=>?_;rw[kB]
  by_cases e:i=j
  .subst e;rw[ς Z,ς (by simpa using g),ν,j1 g];rfl
  .rw[κ e,ν,ν]
   cases hj:(List.range f.length)[j]? with
   | none=>rfl
   | some z=>
    have t:=φ.1 hj;have:z=j:=by have:=t.2;simp at this;exact this.symm
    subst this;show some _=some _;unfold S9 BK;rw[κ (λh=>e h.symm)]
 .rw[VB,k,r,aL w _ _ (DZ _)];refine hQ λz _=>?_;unfold uL;dsimp only;rw[ko gu v,o,Int.add_assoc]
theorem vq(a:List Ad)(b:List AJ)(c:Nat->Bool)(j:Nat):((gx a b c).po.getD j Cj).q=((gP a b c).po.getD j Cj).q:=by
 show ((a.map _).getD j Cj).q=((a.map _).getD j Cj).q;rw[Φ,Φ,ν,ν]
 cases a[j]?<;>rfl
theorem vp(h:rq a f)(b:Nat->Bool):i6 (gx a f b):=by
 have c:=v4 h b
 have k:∀y∈(gx a f b).po,y.q.length<=30/\y.mi<=30/\ -1000000000000000000<=y.room/\y.room<=1000000000000000000:=λy g=>by
  obtain ⟨x,i,e⟩:=Θ.1 g;subst e;have j:=Ki (f.map A3) x.r;rw[χ] at j;have o:=h.l;have s:=ob h (Kh b) x.r;have r:=h.n x i;refine ⟨by show (gM _ _).length<=_;omega,by show (gM _ _).length<=_;omega,?_,?_⟩
  .show _<=x.n+H1 (f.map A3) (Kh b) x.r;omega
  .show x.n+H1 (f.map A3) (Kh b) x.r<=_;omega
 refine ⟨c.i,c.a,c.l,c.e,λx i e l=>?_,λy g=>?_,λy g=>(k y g).2.2,?_,λy g=>?_⟩
 .rw[vq];exact c.p x i e l
 .grind
 .have j:=c.n
  grind[gx,gP]
 grind
theorem nc(h:BL N=gx a f c)(k:N.nd[i]? =some x):i<f.length/\x.on=c i/\x.it=f.getD i Ag:=by
 have b:(N.nd.map FD)[i]? =some (FD x):=by rw[ν,k];rfl
 rw[show N.nd.map FD=(List.range f.length).map (S9 (a.map Ad.r) f c) from gV gK.nd h] at b;have g:i<f.length:=by have:=(φ.1 b).1;simpa using this
 rw[ν,j1 g] at b;have j:FD x=S9 (a.map Ad.r) f c i:=(Option.some.inj b).symm;exact ⟨g,gV Nd.on j,gV Nd.it j⟩
theorem oe(h:BL N=gx a f c):N.nd.length=f.length:=by grind[χ,BL,gx]
theorem og(h:BL N=gx a f c):B8 N=f.map AJ.id:=by
 rw[<-Hy,h];exact VL a f c
def Ic(ros:List Ad)(its:List AJ)(on:Nat->Bool):Option Nat:=(List.range its.length).findIdx? (Ov (gx ros its on))
def NM(ros:List Ad)(its:List AJ):Nat->(Nat->Bool)->List Int
 | 0,_=> []
 | f+1,on=>match Ic ros its on with
  | none=> []
  | some i=>(its.getD i Ag).id::NM ros its f (BK on i)
def DV(p:gB):List Int:=NM (DT p) (gC p) (gC p).length λ_=>true
theorem O7(h:Ic a f c=some i):i<f.length/\c i=true/\Ov (gx a f c) i=true:=by grind[Ic,List.findIdx?_eq_some_iff_getElem,Ov,gx,S9]
theorem JN{b:Nat}(h:Ic a f c=none):NM a f b c=[]:=by
 cases b with
 | zero=>rfl
 | succ b=>unfold NM;rw[h]
theorem JM{b:List Ad}{a:List AJ}{f:Nat}{c:Nat->Bool}{i:Nat}(h:Ic b a c=some i):NM b a (f+1) c=(a.getD i Ag).id::NM b a f (BK c i):=by
 show (match Ic b a c with | none=>_ | some i=>_)=_;rw[h]
def QU(po:List Po)(b:Int):Prop:=∀y∈po,-b<=y.room/\y.room<=b
theorem Yz{b c:Int}(h:QU o b)(g:b<=c){j:Nat}(f: -c<=y.room/\y.room<=c):QU (o.set j y) c:=λz a=>by
 rcases kA a with a | rfl
 .have:=h z a;omega
 .exact f
theorem UQ(p:gB)(hf:GJ p)(hE:BB p=0):AL prog 43 [.d (Bf p)] (.tup [.sl none ((DV p).map AF),AF 0]):=by
 have H:=Ur p hf hE;have v:=nv hf hE;unfold DV;rw[cx,<-cz] at H
 obtain ⟨a,hits⟩:∃a,gC p=a:=⟨_,Z⟩
 obtain ⟨c,W⟩:∃c,DT p=c:=⟨_,Z⟩
 rw[hits,W] at H v⊢;have hl:=v.l;refine Av func43 Z Z ntmps43 Z Z Z λF hF=>?_;refine AC (AE (V (Bh 1 Z Z Z Z Z Z Z) (AB Z Z (AB Z Z (AD (AC (AE (J (Ay Z Z Bp Z Z Z) ?_))))))));refine Ca (VV H Z [40,50,51] ⟨Z,Z,Z,trivial⟩ Z Z Z Z (λr H' ⟨_,_,_,_,_,_,_,e1,e2,_⟩=>by subst e1 e2;exact ⟨Z,Z,Z⟩) Z) Z ?_;rintro _ ⟨r,H',⟨L,O,A,pb,N,M,bs,rfl,rfl,t,u⟩,rfl⟩;refine ek Z Z (J (De Z Z Z) (J (De Z Z Z) (V (Bx 920 sB Z Z Z Z) (V (B3 Z Z Z Z Z Z Z sX) (AB Z Z (AD ?_))))));refine AC (AC (AE (ek Z Z (J (C6 Z Z Z) (AD (Cr Z (Z) (AW (AC ?_))))))));rw[og u];refine AE (AB Z Z (AD (AZ (NF 6 900 BR Z Z Z Z (BM (α:=(Nat->Bool)×gK×MF×List Int×Nat) (λq=>⟨66,[(4,(.ptr 920 0 0)),(6,(.own 900 0 q.2.2.2.1.length))],(900,[.rowD 3 1 (q.2.2.2.1.map AF)])::HG L O bs (G4 A (a.map AJ.id)) q.2.2.1⟩) (λq=>CX L O A pb q.2.1 q.2.2.1/\BL q.2.1=gx c a q.1/\Et a.length q.1<=q.2.2.2.2/\q.2.2.2.1.length+q.2.2.2.2<=a.length/\q.2.2.2.1++NM c a q.2.2.2.2 q.1=NM c a a.length λ_=>true) (λq=>q.2.2.2.2) ((λ_=>true,N,M,[],a.length)) (⟨t,u,fE _ _,by simp,Z⟩) (AX hF [900,920,40,50,51] Z Z ⟨Z,Z,trivial⟩) ?_)))));rintro ⟨K,N,M,l,f⟩ ⟨t,u,hc,hal,w⟩;dsimp only at t u hc hal w⊢;refine AZ (AC ?_);have hw:=oa (N:=N) (by rw[u];exact vp v K);have T:=t.w;have hnr:B1 M N.nh cO 1 ((List.range N.nd.length).map λi=>B2 (A i)):=t.rs.1 .n;have z:=qX bs t hw;have hNl:=oe u;have hixv:Kw (Ov N) (List.range N.nd.length)=match Ic c a K with | some k=>(k:Int) | none=> -1:=by rw[<-dz,u,oe u];rfl
 rw[og u,hixv] at z;refine AE (J (AO Z Z Z XZ Z) (J (Dh Z Z) (J (Cd Z JX Z Z Z) (J (EI (f:=40) Z Z (T) Z HD Z) (J (rP Z Z) ?_)))))
 cases hne:Ic c a K<;>rw[hne] at z
 .refine V (FH z Z [920,40,50,51] ⟨Z,Z,Z,Z,trivial⟩ Z Z Z Z Z Z Z Z Z) (AB Z Z ?_);refine AD (AC (AC (AE (ek Z Z (J (Az Z Z Z) (AD (Bw Z (Z) (AC ?_))))))));rw[JN hne,iR] at w;refine KL (emb:=AF) 6 900 l Z Z Z Z Z Z Z (AE (ek Z Z (AB Z Z (AB Z Z (AD (A2 ?_))))));exact ⟨_,[],[],A0 Z,Z,Z,by rw[w],Z⟩
 .refine V (FH z Z [920,40,50,51] ⟨Z,Z,Z,Z,trivial⟩ Z Z Z Z Z Z Z Z Z) (AB Z Z (AD ?_));refine AC (AC (AE (ek Z Z (J (Az Z Z Z) (AD (Cr Z ((gp (by show ¬((_:Nat):Int)<0;omega))) (AW (AC ?_))))))))
  rename_i i
  obtain ⟨G,hoi,hgr⟩:=O7 hne;have g:i<N.nd.length:=by rw[hNl];exact G
  obtain ⟨x,C⟩:∃x,N.nd[i]? =some x:=⟨_,ω g⟩
  obtain ⟨_,hon,hit⟩:=nc u C;obtain ⟨rb,rc,X⟩:=VU hnr (j:=i) (by rw[iF];exact g);have U:=Sc hnr X;have hcn:=M0 G hoi
  obtain ⟨f2,rfl⟩:∃f2,f=f2+1:=⟨f-1,by omega⟩
  have hrs:=JM (f:=f2) hne;have B:=ξ C;have hxb:=(t.nn i x C).1;have hez:=VJ (t.nn i x C).2.1;have hrx:=(t.nn i x C).2.1;have hxe:=t.e x B;have h1:=t.setNd (x':=Em x) C Z Z Z Z;have S:(N.nd.set i (Em x))[i]? =some (Em x):=by rw[List.getElem?_set_self g]
  have he:=hw.e x B;have hel:=(hw.l x B).1;have hrB:QU N.po 1000000000000000000:=hw.rm;refine AE (J (AO Z Z Z XZ Z) (J (Dh Z Z) (J (Cd Z JX Z Z Z) (J (EI (f:=40) Z Z (T) Z HD Z) (ek Z Z (J (Wj X (i) Z Z Z g cj Mg Z) (J (nY (f:=40) (e:=i) (off:=0) Z (by omega) Z (U) ((by rw[ν,j1 g];rfl)) Z O2 Z) ?_)))))));refine AB Z Z (AD (AC ?_));refine AE (ek Z Z (J (Dh Z Z) (J (Cd Z FT Z Z Z) (V (QF (f:=40) Z Z Z Z (hxb) ((by show _<9;omega)) Z sO) (AD (AC (AC (AE ?_))))))));refine ek Z Z (J (Dh Z Z) (J (Cd Z LL Z Z Z) (J (EI (f:=40) Z Z ((GG _ _ _)) Z XW Z) (J (Wg hez Z underlying181 Z) (ek Z Z (AD (AZ (BM (α:=Nat×List Po×MF) (λq=>⟨66,[(4,(.ptr 920 0 0)),(6,(.own 900 0 l.length)),(8,(.d (pD (A i) 0))),(41,(.d (gN x.eh x.ef.length))),(42,(.d (AF (x.ef.length:Int)))),(43,(.d (AF (q.1:Int))))],(900,[.rowD 3 1 (l.map AF)])::HG L O bs (G4 A (a.map AJ.id)) q.2.2⟩) (λq=>q.1<=x.ef.length/\q.2.1=(x.ef.take q.1).foldl QA N.po/\CX L O A pb {N with nd:=N.nd.set i (Em x),po:=q.2.1} q.2.2/\QU q.2.1 (1000000000000000000+100000000000000000*(q.1:Int))/\q.2.1.length=N.po.length) (λq=>x.ef.length-q.1) ((0,N.po,B5 M (A i) (VP (Em x)))) (⟨ζ _,Z,h1,by show QU N.po (1000000000000000000+100000000000000000*((0:Nat):Int));simpa using hrB,Z⟩) (AX hF [900,920,40,50,51] Z Z ⟨Z,Z,Z,Z,Z,Z,trivial⟩) ?_))))))));rintro ⟨k,po,M2⟩ ⟨hk0,E,b,hS,s⟩;dsimp only at hk0 E b hS s⊢;refine AC (AE (J (Az Z Z Z) (AD (AC (A6 Z (λI=>?_) (λI=>?_))))))
  .have o:k<x.ef.length:=BQ I;refine AW (AC (AZ (AC ?_)));obtain ⟨eb,ec,hee⟩:=VU hrx o;have D:=Sc (b.nn i (Em x) S).2.1 hee;have hjl:x.ef[k].1<po.length:=by rw[s];exact hxe.1 _ (ϑ o)
   obtain ⟨y,hy⟩:∃y,po[x.ef[k].1]? =some y:=⟨_,ω hjl⟩
   have Q:=b.p _ y hy;have hys:=hS y (ξ hy);have heb:=he _ (ϑ o);refine AE ?_;refine J (Wj hee (k) Z Z Z o underlying181 Sq Z) (J (EM (f:=40) (e:=k) Z (Z) Z (D) (A1 o) Z bk Z) (V (Bx 2 aa Z Z Z Z) (V (B3 Z Z Z Z Z Z Z Sq) (AD (CK [[],[0],[0,1],[0,1,2],[0,1,2,3],[],[5],rg 7,rg 8,rg 9,rg 10] mixed Z (By (AR [10] Z (AK Z SG Z Z Z) (Aq [47] [2] Z Z (λ_=>Aa (AO Z Z Z FE Z)) ?_))))))));refine AR [48] Z (Dh Z Z) (AR [49] Z (Cd Z SE Z Z Z) (Aq [50] [40] Z Z (λ_=>Aa (EI (f:=40) Z Z (Q) Z Fo Z)) (AR [10] Z (AK Z SF Z Z Z) (Aq [52] [2] Z Z (λ_=>Aa (AO Z Z Z Fo Z)) (Bu 7 Z Z Z (Ab 8 Z Z (J (Aj Z Z (Ξ _ (by omega)) Z) (AD ⟨Z,?_⟩))))))));refine Ab 9 Z Z (J (Dh Z Z) (AD ⟨Z,?_⟩));refine Ab 10 Z Z (J (Cd Z SE Z Z Z) (AD ⟨Z,?_⟩));refine Ab 11 Z Z (V (QF (f:=40) Z Z Z Z (Q) ((by show _<10;omega)) Z u1) (AD ⟨Z,?_⟩));refine Bz (AE (J (Aj Z Z (AN (k+1) (by omega)) Z) (ek Z Z (AD ?_))));exact ⟨(k+1,po.set x.ef[k].1 {y with room:=y.room+x.ef[k].2},B5 M2 (pb x.ef[k].1) (VO {y with room:=y.room+x.ef[k].2})),⟨by show k+1<=_;omega,by show po.set _ _=_;rw[MP o,<-E,nM hy],b.setPo hy Z Z,by show QU _ (1000000000000000000+100000000000000000*((k+1:Nat):Int));exact Yz hS (by omega) (by show _<=y.room+x.ef[k].2/\y.room+x.ef[k].2<=_;omega),by show (po.set _ _).length=_;rw[iB];exact s⟩,by show x.ef.length-(k+1)<x.ef.length-k;omega,AX hF [900,920,40,50,51] Z (Z) ⟨Z,Z,Z,Z,Z,Z,trivial⟩⟩
  .refine Aw ?_;have Y:po=x.ef.foldl QA N.po:=by rw[E,η (by have h:=I;omega)]
   have hR2:CX L O A pb (te N i x) M2:=by unfold te;rw[<-Y];exact b
   have R:=(b.nn i (Em x) S).1;refine AE (ek Z Z ?_);refine ek Z Z (J (Dh Z Z) (J (Cd Z G2 Z Z Z) (J (Cd Z Nr Z Z Z) (J (EI (f:=40) Z Z (R) Z Am Z) (V (C1 3 BR Z Z Z Z Z Z Z Z) (V (Ev (l) ([x.it.id]) Z Z Z Z Z Z Z Z BR (by simp only[υ];omega) Z Z Z Z) (AB Z Z (AD ?_))))))));exact ⟨(BK K i,te N i x,M2,l++ [x.it.id],f2),⟨hR2,vF v.r u G hoi C,by show Et a.length (BK K i)<=f2;omega,by show (l++ [x.it.id]).length+f2<=_;rw[Δ];simp;omega,by show (l++ [x.it.id])++NM c a f2 (BK K i)=_;rw[jx,<-w,hrs,hit];rfl⟩,by show f2<f2+1;omega,AX hF [900,920,40,50,51] Z (Z) ⟨Z,Z,trivial⟩⟩
def VC(a:List UInt8):S8:=⟨a,0,[67,65,83,72]⟩
def Pn(id:Int)(a b:List UInt8)(n:Int):AJ:=⟨id,0,id,[⟨VC a,0-n⟩,⟨VC b,n⟩],[],[]⟩
deriving instance DecidableEq for Pf
theorem Pf.eq_iff{x y:Pf}:x=y↔x.id=y.id/\x.re=y.re/\x.r=y.r/\x.by_=y.by_:=by cases x;cases y;simp
def lI(a:UInt8):AU:=⟨0,VC [a],[],[]⟩
def tK:List (List UInt8):=[[65],[66],[67]]
def R3:List Ad:=[⟨lI 65,0⟩,⟨lI 66,0⟩,⟨lI 67,0⟩]
theorem tn(a:List Ad)(b:List AJ)(c:Nat->Bool):BL (gP a b c)=gP a b c:=by
 unfold BL gP;dsimp only;rw[gw,gw]
 rfl
theorem Zv(n:Nat):Et n (λ_=>true)=n:=by
 unfold Et;rw[List.filter_eq_self.2 λ_ _=>rfl,iF]
theorem lA(u:(f.map AJ.id).Nodup):∀(b:Nat) (c:Nat->Bool),(GN a f b c).1.length+Et f.length (GN a f b c).2=Et f.length c:=by
 intro b
 induction b with
 | zero=>intro c;show 0+_=_;rw[i9];rfl
 | succ b s=>
  intro c
  cases hn:Fs (gP a f c) with
  | none=>rw[TF hn];show 0+_=_;rw[i9]
  | some e=>
   obtain ⟨i,x,t,j,o⟩:=X7 hn;obtain ⟨g,h,k⟩:=S5 (tn a f c) t;rw[j] at h;have l:i<(f.map AJ.id).length:=by rw[χ];exact g
   have r:(f.map AJ.id)[i]=e.id:=by rw[o,k,iC,FG Ag g]
   rw[TE hn,<-r,Qk u l];have w:=s (BK c i);have v:=M0 g h.symm;show (GN a f b (BK c i)).1.length+1+Et f.length (GN a f b (BK c i)).2=Et f.length c;omega
theorem Z7(p:gB):(gF p).length=Et (gC p).length (Mw p).2:=by
 unfold gF El Et;rw[χ]
theorem eL(a:BB g=0):(Mw g).1.length+(gF g).length=g.it.length:=by grind[gC,lA,GY,Zv,Z7,Mw,aW]
theorem Ks(a:BB g=0):gF g=((gC g).map AJ.id).filter λx=>decide (x∈gF g):=Rf (GY a) _
theorem Z6(b:BB g=0){y:Int}(a:y∈gF g):y∈g.it.map AJ.id:=by grind[gC,Ks,aQ]
theorem Ij(a:BB g=0):(gF g).Nodup:=by
 rw[Ks a];exact (GY a).sublist jM
theorem MJ(a:BB g=0):(gF g).length<=g.it.length:=by have:=eL a;omega
structure S7 (R:Int->Int->Prop) (l Y:List Ad):Prop where
 len:Y.length=l.length
 at_:∀(j:Nat) x y,l[j]? =some x->Y[j]? =some y->y.r=x.r/\ -4*Mx<=y.n/\y.n<=4*Mx/\R x.n y.n
theorem S7.set(a:S7 R h Y)(f:u<Y.length){n:Int}(g: -4*Mx<=n/\n<=4*Mx)(i:∀x,R x Y[u].n->R x n):S7 R h (Y.set u ⟨Y[u].r,n⟩):=
 ⟨by rw[iB];exact a.len,λj x y c b=>by
  rw[kB] at b
  split at b
  .rename_i e;subst e
   first | (rw[ς f] at b;injection b with b;subst b) | (injection b with b;subst b)
   have:=a.at_ u x _ c (ω f);exact ⟨this.1,g.1,g.2,i _ this.2.2.2⟩
  .exact a.at_ j x y c b⟩
theorem S7.map(a:S7 R h Y):Y.map Ad.r=h.map Ad.r:=by
 refine ir (by rw[χ,χ,a.len]) λj c b=>?_;rw[χ] at c b;rw[iC,iC];exact (a.at_ j _ _ (ω b) (ω c)).1
theorem S7.mem(a:S7 R h Y):∀y∈Y,∃x∈h,y.r=x.r/\ -4*Mx<=y.n/\y.n<=4*Mx/\R x.n y.n:=λy f=>by
 obtain ⟨j,c,rfl⟩:=jC.1 f;have b:j<h.length:=by rw[<-a.len];exact c
 exact ⟨h[j],ϑ b,a.at_ j _ _ (ω b) (ω c)⟩
theorem S7.b(a:S7 R h Y)(b:u<Y.length): -4000000000000000<=Y[u].n/\Y[u].n<=4000000000000000:=by
 obtain ⟨x,_,_,f,c,_⟩:=a.mem _ (ϑ b)
 grind
section
variable{P:Program}{F:Fr}{s:AS}{d:Nat}{ty:TypeId}{pos:String}{aft:Array Edge}{g:Option (Nat×Bool)}{at_:Array TypeId}
end
variable{a:gB}
def tw(p:gB):List Int:=(BN p.it).map AJ.id
def uW(id:Int)(y:AJ):AJ:=⟨y.id,y.pr,y.sq,y.po,y.pa,Wn y.af id⟩
def XI(id:Int)(its:List AJ):List AJ:=(its.filter λy=>decide (y.id≠id)).map (uW id)
def s0(p:gB)(id:Int):gB:=⟨p.ro.map λx=>⟨x.r,x.n+CB (B7 p id) x.r⟩,XI id p.it⟩
theorem Yt(id:Int)(a:List AJ):(XI id a).length<=a.length:=by
 unfold XI
 grind
structure uP (p:gB) (b:Int):Prop where
 f:GJ p
 r:(p.ro.map Ad.r).Nodup
 n:∀x∈p.ro,-b<=x.n/\x.n<=b
theorem uP.set{b:Int}(h:uP a b)(id:Int):uP (s0 a id) (b+1000000000000000):=by
 refine ⟨⟨?_,?_,λx g=>?_⟩,?_,λx g=>?_⟩
 .have:=Yt id a.it;have c:=h.f.i;show (XI id a.it).length<=30;omega
 .show (a.ro.map _).length<=100;rw[χ];exact h.f.r
 .obtain ⟨y,f,rfl⟩:=Θ.1 g;have c:=h.f.x y (gk.1 f).1;exact ⟨c.1,c.2.1,gY (iI _ _) c.2.2⟩
 .show ((a.ro.map _).map Ad.r).Nodup;rw[gw];exact h.r
 .obtain ⟨y,f,rfl⟩:=Θ.1 g;have c:=h.n y f;have i:=ep (B7 a id) y.r
  grind
noncomputable def kE:Nat->gB->List Int
 | 0,_=> []
 | f+1,p=>match (tw p).find? λid=>decide (eI p [id]) with
  | none=> []
  | some id=>id::kE f (s0 p id)
structure GI (G:List Int) (p:gB) (acc:List Int) (f:Nat) (ag:Bool):Prop where
 m:uP p (34000000000000000-1000000000000000*(f:Int))
 l:(tw p).length<=f
 a:acc.length+f<=30
 v:(ag=true->acc++kE f p=G)/\(ag=false->acc=G)
def YX(its:List AJ)(on:Nat->Bool)(u:List Int):Prop:=∀j,j<its.length->(on j=true↔(its.getD j Ag).id∉u)
theorem YX.off{a:List AJ}(f:(a.map AJ.id).Nodup){b:Nat->Bool}{u:List Int}(c:YX a b u){i:Nat}(g:i<a.length):YX a (BK b i) (u++ [(a.getD i Ag).id]):=by grind[q7,YX,BK]
theorem TG{ros:List Ad}{its:List AJ}:∀(f:Nat) (a:Nat->Bool),(NM ros its f a).length<=f
 | 0,_=>Γ _
 | f+1,a=>by
  cases hn:Ic ros its a with
  | none=>rw[JN hn];exact ζ _
  | some i=>rw[JM hn];have:=TG (ros:=ros) (its:=its) f (BK a i);simp;exact this
theorem ky(p:gB)(l:List Int)(j:p.it.length<=1000)(t:l.length<=100000):AL prog 35 [.d (Bf p),.d (Gl l)] (AF (K0 (p.it.map AJ.id) l)):=by
 refine Av func35 Z Z ntmps35 Z Z Z λF r=>(AC (AE (V (Bh 1 Z Z Z Z Z Z Z) ?_)));refine AB Z Z (AD (AC (AC (AE (AB Z Z (AD (AZ (BM (α:=Nat) (λk=>⟨27,[(1,.d (Gl l)),(2,(.ptr 1 0 0)),(5,(.d (AF (k:Int))))],[(1,[.blk 25 [.d (.sl none (p.ro.map Bj)),.d (.sl none (p.it.map Af))]])]⟩) (λk=>k<=l.length/\K0 (p.it.map AJ.id) l=BO (((List.range l.length).drop k).map (Eu (p.it.map AJ.id) l))) (λk=>l.length-k) (0) (⟨ζ _,Z⟩) (AX r [1] Z Z ⟨Z,Z,Z,trivial⟩) ?_))))))));rintro k ⟨s,o⟩;refine AC (AC (AE (ek Z Z (ek Z Z (J (BS Z E0 Z) (J (Az Z Z Z) (AD (A6 Z (λi=>?_) (λi=>?_)))))))))
 .have a:k<l.length:=BQ i;refine AW (AC (AZ (AC (AC ?_))));have c:=nW a o;have b:=FG 0 a;refine CK [[],[],[],[1,2],[1,2,3],rg 5,rg 6] mixed Z (By ?_);refine Aq [2] [1] Z Z (λ_=>Aa (Ay Z Z EE Z Z Z)) (Ap 1 Z Z (Ap 5 Z Z (AR [13,14] Z (BC (k) Z Z (Z) (A1 a) E0 Z BW Z) (AR [15] Z (CG Z Z Am Z) (Bu 5 Z Z Z (Ab 6 Z Z (J (Au (WX p l[k] (by omega)) Z Z) (AD ⟨Z,?_⟩))))))));refine Ab 7 Z Z (J (Az Z Z Z) (AD ⟨Z,?_⟩));refine Bz (A6 Z (λg=>?_) (λg=>?_))
  .refine AC (AE (AB Z Z (AD (A2 ?_))));exact ⟨_,[],[],A0 Z,Z,Z,Ae (c.2 9 (by unfold Eu;rw[b,ς (Xn g)]) (by decide)),Z⟩
  .refine AW (AC (CK [[],[],[0,1],[],[],[3,4],[3,4,5],rg 7] mixed Z (By (Ap 1 Z Z (Ap 5 Z Z ?_)))));refine AR [19,20] Z (kS (l) (k) Z Z Z (Z) (by omega) E0 BW (λ_=>rfl) Z) (Ap 1 Z Z (Ap 5 Z Z (AR [22,23] Z (BC (k) Z Z (Z) (A1 a) E0 Z BW Z) (AR [24] Z (CG Z Z Am Z) (Bu 7 Z Z Z (Ab 8 Z Z (J (Au (FP (l.take k) l[k] (by rw[ϱ];omega)) Z Z) (AD ⟨Z,?_⟩))))))));refine Bz (A6 Z (λf=>?_) (λf=>?_))
   .refine AC (AE (AB Z Z (AD (A2 ?_))));exact ⟨_,[],[],A0 Z,Z,Z,Ae (c.2 7 (by unfold Eu;rw[b,κ (λh=>h (WN (by omega))),ς f]) (by decide)),Z⟩
   .refine AW (AE (ek Z Z (J (Aj Z Z (AN (k+1) (by omega)) Z) (AB Z Z (AD ?_)))));exact ⟨k+1,⟨by show k+1<=_;omega,c.1 (by unfold Eu;rw[b,κ (λh=>h (WN (by omega))),κ f])⟩,by show l.length-(k+1)<l.length-k;omega,AX r [1] Z (Z) ⟨Z,Z,Z,trivial⟩⟩
 .refine Aw (AC (AE (AB Z Z (AD (A2 ?_)))));exact ⟨_,[],[],A0 Z,Z,Z,Ae (by rw[o,kI (by have h:=i;simp only[iF];omega)];rfl),Z⟩
abbrev tv(x:Int×Ad):D:= .agg [AF x.1,AF x.2.r.k,An x.2.r.acc.o,AF x.2.r.acc.k,An x.2.r.acc.a,An x.2.r.f,An x.2.r.t,AF x.2.n]
noncomputable def hG(p:gB)(id:Int):List Ad:=NI p (BP (gv p [id]))
noncomputable def iK(p:gB)(id:Int):Option (Int×Ad):=if id∈gF p then none else (hG p id).head?.map λx=>(id,x)
noncomputable def jr(p:gB):List (Int×Ad):=((BN p.it).map AJ.id).filterMap (iK p)
theorem Uv{id:Int}(h:id∈gF a):iK a id=none:=ς h
theorem fT{id:Int}(h:¬0<(hG a id).length):iK a id=none:=by grind[iK]
theorem nD{id:Int}(b:id∉gF a)(h:0<(hG a id).length):iK a id=some (id,(hG a id)[0]):=by
 unfold iK;rw[κ b,List.head?_eq_getElem?,ω h]
 rfl
theorem Rw{a b:Type}{f:a->Option b}{l:List a}{k:Nat}(c:k<l.length):(l.take (k+1)).filterMap f=(l.take k).filterMap f++(f l[k]).toList:=by grind[ψ]
theorem SV(b:BB a=0){l:List Int}(c:l.Nodup)(g:∀x∈l,x∈a.it.map AJ.id):CZ a l=0:=by
 unfold CZ;rw[κ (by omega)];unfold K0;refine VI.2 λk f=>?_
 grind[Eu,Kl]
theorem ms{S:List Int}:∀y∈gv a S,y∈a.it.map AJ.id:=by grind[gv,DQ]
theorem mr(b:BB a=0)(S:List Int):(gv a S).Nodup:=by
 unfold gv;exact (DQ _).nodup_iff.2 (List.Nodup.sublist jM (Da (P6 b).2.1))
theorem tf{l:List Ad}(h:0<l.length):(l.map Bj)[0]? =some (Bj l[0]):=A1 h
theorem aD(p:gB)(u:GJ p)(i:BB p=0):AL prog 31 [.d (Bf p)] (.tup [.sl none ((jr p).map tv),AF 0]):=by
 have C:=Jw p u i;have O:=u.i;have B:=u.r;have g:=I9 p u.b;rw[show gC p=BN p.it from ς i] at g;have Q:=MJ i;have H:=aW p.it;have w:=λ{id:Int} (c:id∈p.it.map AJ.id)=>mp p [id] u.b (by simp) (by omega) (by omega) (SV i (by simp) λx t=>by rw[θ.1 t];exact c) (by simp) λx t=>by rw[θ.1 t];exact c
 have v:∀id:Int,AL prog 28 [.d (Bf p),.d (Gl (gv p [id]))] (.tup [.sl none ((hG p id).map Bj),AF 0]):=λid=>by
  have h:=k9 p (gv p [id]) u.b (by have:=fJ (p:=p) (l:=[id]);omega);rw[SV i (mr i _) ms,ς rfl] at h;exact h
 obtain ⟨L,z⟩:∃L,(BN p.it).map AJ.id=L:=⟨_,Z⟩
 have U:L.length<=30:=by rw[<-z,χ,H];omega
 have I:∀x∈L,x∈p.it.map AJ.id:=λx t=>by rw[<-z] at t;exact ((aQ p.it).map AJ.id).mem_iff.1 t
 have E:jr p=L.filterMap (iK p):=by unfold jr;rw[z]
 rw[z] at g;rw[E];refine Av func31 Z Z ntmps31 Z Z Z λF A=>?_;refine AC (AE (V (Bh 1 Z Z Z Z Z Z Z) (AB Z Z (AB Z Z (AD (AC (AE (J (Ay Z Z Bp Z Z Z) ?_))))))));refine J (Au (C) Z Z) (ek Z Z (J (De Z Z Z) (J (De Z Z Z) (AB Z Z (AB Z Z (AD (AC (AC ?_))))))));refine AE (ek Z Z (J (C6 Z Z Z) (AD (Cr Z (gp (by decide)) (AW (AC (AE (ek Z Z ?_))))))));refine Ca (VV (Gp (gF p) (Ij i) (by omega)) Z [41] ⟨Z,trivial⟩ Z Z Z Z (λr W ⟨b,N,M,K,_⟩=>by subst M K;exact ⟨Z,Z,Z⟩) Z) Z ?_;rintro _ ⟨r,W,⟨b,N,M,K,S⟩,rfl⟩;subst M K;refine AB Z Z (AD (AC (AE (AB Z Z (AD (AC (AC ?_)))))));refine AE (J (Ay Z Z Bp Z Z Z) (J (Au (g) Z Z) (J (BS Z E0 Z) (ek Z Z (AD (AZ (NF 7 10 pM Z Z Z Z (BM (α:=Nat×List (Int×Ad)) (λq=>⟨65,[(1,(.ptr 1 0 0)),(6,(.d (Pa b))),(7,(.own 10 0 q.2.length)),(25,(.d (Gl L))),(26,(.d (AF (L.length:Int)))),(27,(.d (AF (q.1:Int))))],[(1,[.blk 39 [.d (.sl none (p.ro.map Bj)),.d (.sl none (p.it.map Af))]]),(41,[.multi N]),(10,[.rowD 66 8 (q.2.map tv)])]⟩) (λq=>q.1<=L.length/\q.2=(L.take q.1).filterMap (iK p)/\q.2.length<=q.1) (λq=>L.length-q.1) ((0,[])) (⟨ζ _,Z,ζ _⟩) (AX A [1,41,10] Z Z ⟨Z,Z,Z,Z,Z,Z,trivial⟩) ?_))))))));rintro ⟨k,T⟩ ⟨R,y,G⟩;dsimp only at R y G⊢;refine AC (AE (J (Az Z Z Z) (AD (AC (A6 Z (λs=>?_) (λs=>?_))))))
 .refine AW (AC (AZ (AC ?_)));have a:k<L.length:=BQ s;have c:=I _ (ϑ a);refine AE (J (BC (k) Z Z (Z) (A1 a) E0 Z BW Z) (J (CG Z Z Am Z) (AB Z Z ?_)));refine AD (AC (AC (AE (ek Z Z (ek Z Z (V (VT (EK S L[k]) Z [41] ⟨Z,trivial⟩ Z Z Z Z Z Z Z Z Z) (AD (A6 Z (λo=>?_) (λo=>?_)))))))))
  .refine Aw (AE (J (Aj Z Z (AN (k+1) (by omega)) Z) (ek Z Z (AD ?_))));exact ⟨(k+1,T),⟨a,by show _=(L.take (k+1)).filterMap _;rw[Rw a,Uv o,y];simp,by show T.length<=k+1;omega⟩,by show L.length-(k+1)<L.length-k;omega,AX A [1,41,10] Z (Z) ⟨Z,Z,Z,Z,Z,Z,trivial⟩⟩
  .refine AW (AC (AE (J (Ay Z Z Bp Z Z Z) (ek Z Z (V (C1 20 BR Z Z Z Z Z Z Z Z) ?_)))));refine VS (emb:=AF) 37 20 [L[k]] Z Z Z Z Z Z Z (V (FH (w c) Z [900] ⟨Z,trivial⟩ Z Z Z Z Z Z Z Z Z) (ek Z Z (J (DC Z Z Z) (J (DC Z Z Z) (AB Z Z (AB Z Z (AD (AC ?_))))))));refine KL (emb:=AF) 10 900 (gv p [L[k]]) Z Z Z Z Z Z Z (AE (J (Ay Z Z Bp Z Z Z) (ek Z Z (J (Au (v L[k]) Z Z) (ek Z Z (J (De Z Z Z) (J (De Z Z Z) (AB Z Z ?_))))))));refine AB Z Z (AD (AC (AE (ek Z Z (J (Jd Z (χ ..) underlying69 Z) (J (HV Z Z Z) (AD (A6 Z (λj=>?_) (λj=>?_)))))))))
   .have f:0<(hG p L[k]).length:=BQ j;refine CK [[],[],[],[2],[2,3],[2,3,4],[],[6],[6,7],[6,7,8],[1,2,3,4,5,6,7,8,9],[1,2,3,4,5,6,7,8,9,10],rg 12,rg 13] mixed Z (By (Ap 7 Z Z (Ap 9 Z Z (Ap 12 Z Z (AR [52] Z (BC (0) Z Z (Z) (tf f) underlying69 Z sM Z) (AR [53] Z (VK Z qg Z Z Z) (AR [54] Z (C7 Z Z C9 Z) (Ap 12 Z Z ?_))))))));refine AR [56] Z (BC (0) Z Z (Z) (tf f) underlying69 Z sM Z) (AR [57] Z (ND Z qf Z Z Z) (AR [58] Z (CG Z Z Fo Z) (AR [51,55,59] Z (E5 uT un Z Z Z) (F6 [60] [30] [(61,_)] Z Z (λ_=>F7 (C1 30 pM Z Z Z Z Z Z Z Z)) (.inr ⟨61,_,Z,Z,Z,Z,Z⟩) Z Z Z Z Z (Bu 12 Z Z Z (Ab 13 Z Z (V (Ev (T) ([(L[k],(hG p L[k])[0])]) Z Z Z Z Z Z Z Z pM (by simp only[υ];omega) Z Z Z Z) (AD ⟨Z,?_⟩))))))));refine Ab 14 Z Z (AB Z Z (AD ⟨Z,?_⟩));refine Bz (AE (J (Aj Z Z (AN (k+1) (by omega)) Z) (ek Z Z (AD ?_))));exact ⟨(k+1,T++ [(L[k],(hG p L[k])[0])]),⟨a,by show _=(L.take (k+1)).filterMap _;rw[Rw a,nD o f,y];rfl,by show (T++ [_]).length<=k+1;rw[Δ];simp only[υ];omega⟩,by show L.length-(k+1)<L.length-k;omega,AX A [1,41,10] Z (Z) ⟨Z,Z,Z,Z,Z,Z,trivial⟩⟩
   .refine AW (AE (J (Aj Z Z (AN (k+1) (by omega)) Z) (ek Z Z (AD ?_))));exact ⟨(k+1,T),⟨a,by show _=(L.take (k+1)).filterMap _;rw[Rw a,fT (λh=>j (by exact_mod_cast h)),y];simp,by show T.length<=k+1;omega⟩,by show L.length-(k+1)<L.length-k;omega,AX A [1,41,10] Z (Z) ⟨Z,Z,Z,Z,Z,Z,trivial⟩⟩
 .refine Aw (AC ?_);have D:k=L.length:=by have:=s;omega
  refine KL (emb:=tv) 7 10 T Z Z Z Z Z Z Z ?_;rw[show T=L.filterMap (iK p) by rw[y,D,gy]];refine AE (ek Z Z (AB Z Z (AB Z Z (AD (A2 ?_)))));exact ⟨_,[],[],A0 Z,Z,Z,Z,Z⟩
end Go.Proofs.YteifpcnphnhaoaaGreat
namespace Go.Proofs.YteifpcnphnhaoaaGreat
open Go.RowKit Go.Shelf
open Go.Sort (putRow Holds PermIn SortedIn SWO mapBlock onCells putCells)
variable{P:Program}
section
variable{ρr:Ren}{τ:Type}
theorem bO(L:SlLaysF.n6 P ρr){E:TypeId}{g g6:FuncId}{fn:Func}(hfn:P.funcs[g]? =some fn)(hnm:(fn.name== "runtime.NumGoroutine")=false){c:Code}(hbody:fn.body=some c){A:τ->D}(hag:∀x,(A x).cells=[A x])(cf:τ->τ->Int)(hO:SWO (ltOf cf))(l V:List τ)(M:List D)(hsz:l.length<4611686018427387904)(hc:∀x∈l,∀y∈l,AL P g [.d (A x),.d (A y)] (.raw (.int .i64 (cf x y))))(hu:∀ys:List τ,ys.Perm l->ys.Pairwise (λa b=>¬cf b a<0)->ys=V){F:Fr}{s:AS}{d:Nat}{x y:Operand}{ty:TypeId}{pos:String}{aft:Array Edge}{gd:Option (Nat×Bool)}{at_:Array TypeId}{f n:Nat}{fa:AV}{row:List D}{hp':Hp}(hg:ρr.f 6=g6)(hx:s.ev x=some (.own f 0 n))(hy:s.ev y=some fa)(hfa:∀w O R v,A7 w O R fa v->v= .func (.func g) #[] #[])(ho:ey s.hp f 0=some (.rowD E 1 row))(hrow:row=l.map A++M)(hn:n=l.length)(hh:B6 s.hp f 0 (.rowD E 1 (V.map A++M))=some hp')(hd:Nat.blt d s.n=true):
  AG P F ⟨some d,.call {callee:= .value (.func g6),args:= #[x,y],argTypes:=at_},ty,pos,aft,gd⟩ s ⟨s.n,(d,.d (.tup []))::s.env,hp'⟩ (λ_ _=>true):=by
 subst hg hrow hn;intro R act w hs
 obtain ⟨fn6,hf1,hf2,hf3⟩:∃fn,P.funcs[ρr.f 6]? =some fn/\(fn.name== "runtime.NumGoroutine")=false/\fn.body.isSome=true:=by
  obtain ⟨nm,hn,hf⟩:=L.f6;exact ⟨_,hf,hn,Z⟩
 unfold Oper.wp;rw[show (#[x,y]:Array Operand)=[x,y].toArray from rfl,DG hf1 hf2 hf3,Oper.upon_enter]
 suffices key:Calls P (ρr.f 6) ([x,y].map act.eval).toArray w λe w'=>e= .returned (.tuple #[])/\SR F ⟨s.n,s.env,hp'⟩ R act w' by
  refine key.mono λe w' ⟨T,hsr⟩=>?_;subst T;exact ⟨R,hsr.put (IW hd) (.d (.tup Z λi c v hc=>by cases hc)),λ_ _ _=>rfl⟩
 have r0:=hs.ev hx;have r1:=hfa _ _ _ _ (hs.ev hy);have hg0:=ho;have h3:=hs.heap;have S:=BA hh;obtain ⟨us,q1,q2,q3⟩:=h3.sim f 0 _ hg0;show Calls P (ρr.f 6) #[act.eval x,act.eval y] w _;rw[r1]
 generalize act.eval x=V0 at r0
 cases r0 with
 | own hρ hle=>
  rename_i N K a
  by_cases hx:l=[]
  .subst hx;refine (AnyF.slices_SortFunc_none {L with} a K _ w).mono λe w' ⟨T,e2⟩=>?_;subst T e2;refine ⟨Z,hs.writeG f 0 _ _ ho S Z Z Z (Γ _) (Γ _) (λ_ _ _=>rfl) (λ_ _ e=>by cases e) λhrep=>?_⟩;rw[<-hu [] (List.Perm.refl _) List.Pairwise.nil]
   have hO2:∀t,F.O R hp' t->F.O R s.hp t:=λt h=>h.imp id λ⟨g,i,o,J,Y⟩=>by
    rw[S] at J
    split at J
    .rename_i e;obtain ⟨rfl,rfl⟩:=e;exact ⟨g,0,_,hg0,Y⟩
    .exact ⟨g,i,o,J,Y⟩
   exact ⟨us,q1,⟨q2.1,q2.2.1,λi x hx j c hc=>by
    obtain ⟨u,J,Y,h4⟩:=q2.2.2 i x hx j c hc
    exact ⟨u,J,Y,h4.mono (Γ _) (λ_ _ _=>rfl) λt _=>hO2 t⟩⟩,q3⟩
  .have hn:0<l.length:=jf.2 hx;have hul:us.length=l.length+M.length:=by have:=q2.1;rwa [Δ,χ,jD] at this
   have hblkeq:∃b B,a=some ⟨b,0,none⟩/\w.heap[b]? =some (.cells B E (0,0))/\B.size=K/\l.length+M.length<=K/\K<=maxLen/\B.toList.take (l.length+M.length)=us/\N=l.length+M.length:=by
    rcases q1.2 with ⟨_,h⟩ | ⟨b,cap',B,T,_,e2,e3,e4,e5,e6⟩
    .rw[Δ,χ] at h;omega
    .rw[hρ] at T;injection T with T e7 e8
     subst T e8;rw[Δ,χ] at e3 e6 e7;exact ⟨b,B,Z,e2,by omega,e3,e4,by rwa [jD] at e6,e7⟩
   obtain ⟨b,B,rfl,p1,p2,p3,p3',p4,rfl⟩:=hblkeq;have hb:Br (R f 0)=some b:=by rw[hρ];rfl
   have hOb:F.O R s.hp b:= .inr ⟨f,0,_,hg0,hb⟩;have hlt:b<w.heap.size:=(iq.1 p1).1;have hOl:∀t,F.O R s.hp t->t<w.heap.size:=λt h=>h3.ltO h
   have hus:∀i,i<l.length+M.length->us[i]? =B[i]?:=λi I=>by
    have h:=gV (·[i]?) p4
    change (B.toList.take (l.length+M.length))[i]? =us[i]? at h
    rw[jt I,jH] at h;exact h.symm
   let x0:τ:=l[0]
   let W:Nat->Nat:=λi=>if i<l.length then i else 0
   have X:∀i,W i<l.length:=λi=>by show (if _ then _ else _)<_;split<;>omega
   let el:Nat->τ:=λi=>(l[W i]?).getD x0
   have hel:∀i,el i∈l:=λi=>by
    show (l[W i]?).getD x0∈l;rw[ω (X i)];exact ϑ (X i)
   have heli:∀i (I:i<l.length),el i=l[i]:=λi I=>by
    show (l[W i]?).getD x0=_;rw[show W i=i from ς I,ω I];rfl
   let r:Nat->Value:=λi=>(us[W i]?).getD undef
   have henc:∀i,us[W i]? =some (r i):=λi=>by
    have h:W i<us.length:=by have:=X i;omega
    show us[W i]? =some ((us[W i]?).getD undef);rw[ω h];rfl
   let cf':Nat->Nat->Int:=λi j=>cf (el i) (el j)
   have hO':SWO (ltOf cf'):=⟨λx=>hO.irrefl (el x),λx y z=>hO.trans (el x) (el y) (el z),λx y z=>hO.ntrans (el x) (el y) (el z)⟩
   have hrow:∀i,((l.map A++M)[W i]?)=some (A (el i)):=λi=>by
    rw[oh (by rw[χ];exact X i),ν,ω (X i)];show some (A _)=some (A ((l[W i]?).getD x0));rw[ω (X i)];rfl
   have H:∀i,(r i).oneCell'=true/\AY w (F.O R s.hp) (A (el i)) (r i):=λi=>by
    obtain ⟨u,J,Y,h4⟩:=q2.2.2 _ _ (hrow i) 0 (A (el i)) (by rw[hag];rfl);rw[jD,ib,henc] at J;injection J with J;subst J
    exact ⟨Y,h4⟩
   have henc1:OneCell r:=λi=>(H i).1;have hd0:∀i,i<l.length->(Array.range l.length)[i]! =i:=λi I=>by rw[getElem!_pos _ i (by simpa using I)];simp
   have hcu:∀i,i<l.length->B[i]? =some (r i):=λi I=>by
    rw[<-hus i (by omega)];have:=henc i
    rwa [show W i=i from ς I] at this
   have hH:Holds r w b 0 (Array.range l.length):=by
    intro j hj;simp only[jw] at hj;rw[hd0 _ hj];refine ⟨?_,?_⟩
    .simp only[World.cell?,p1,i9];rw[hcu j hj];rfl
    .simp only[World.frozen?,p1]
     simp
   have hcmp:CmpLays1 P g #[] r cf' b 0 (Array.range l.length).size w:=by
    intro m os dk _ x y;have Q:w.heap.size<=(sortWorld r w b 0 m dk os).heap.size:=H8;have hW:∀t,t<w.heap.size->¬F.O R s.hp t->(sortWorld r w b 0 m dk os).heap[t]? =w.heap[t]?:=λt hl hno=>rf (λe=>hno (e▸hOb)) hl;have ra:=(H x).2.mono Q hW (λ_ _ h=>h);have rb:=(H y).2.mono Q hW (λ_ _ h=>h)
    refine (R8 (hc (el x) (hel x) (el y) (hel y)) (w:=sortWorld r w b 0 m dk os) (λt h=>jB (hOl t h) Q) (vs:=[r x,r y]) Z (λi a v ha hv=>?_)).mono λe w' ⟨v,T,e2,e3,e4,e5⟩=>⟨?_,Ou e3 e4 e5⟩
    .match i,ha,hv with
     | 0,ha,hv=>injection ha with ha;injection hv with hv;subst ha hv;exact .d ra
     | 1,ha,hv=>injection ha with ha;injection hv with hv;subst ha hv;exact .d rb
    .cases e2 with
     | raw _=>exact T
   have eg:∀args w,(callFunc g args).run P w= .ok (.enter g args) w:=enters_of hfn hnm hbody;have key:=Any.slices_SortFunc L r henc1 cf' hO' g #[] b 0 K (Array.range l.length) w eg hcmp hH hlt (by simpa using hsz);rw[jw] at key;refine key.mono λe w' ⟨T,U,n,os,hp,hsort,hw⟩=>?_;subst T hw;obtain ⟨s1,_,s3⟩:=hp;rw[jw] at s1
   have hperm:U.toList.Perm (List.range l.length):=by
    have T:U.extract 0 l.length=U:=by rw[<-s1];exact Array.extract_size
    have e2:(Array.range l.length).extract 0 l.length=Array.range l.length:=by
     conv=>lhs;arg 3;rw[<-jw (n:=l.length)]
     exact Array.extract_size
    rw[T,e2] at s3
    simpa using s3
   refine ⟨Z,?_⟩
   have hys:U.toList.map el=V:=by
    apply hu
    .refine (hperm.map el).trans (List.Perm.of_eq ?_)
     apply ir (by simp)
     intro i h5 h6;simp only[iC,k6];exact heli i h6
    .rw[ia];intro i j I hj hij;simp only[χ,jn] at I hj;have:=hsort i j (ζ _) hij (by omega);rw[getElem!_pos _ j hj,getElem!_pos _ i I] at this;simp only[ltOf,decide_eq_false_iff_not] at this
     simpa using this
   have hlen':V.length=l.length:=by rw[<-hys];simp[s1]
   have Q:w.heap.size<=(sortWorld r w b 0 n U os).heap.size:=H8;have hW:∀t,t<w.heap.size->¬F.O R s.hp t->(sortWorld r w b 0 n U os).heap[t]? =w.heap[t]?:=λt hl hno=>rf (λe=>hno (e▸hOb)) hl
   have hheap:(sortWorld r w b 0 n U os).heap[b]? =some (.cells (putCells r 0 U B) E (0,0)):=by
    unfold sortWorld;rw[Go.Sort.heap_grow_old _ _ (by rw[Go.Sort.size_putRow];exact hlt)];show (w.heap.modify b _)[b]? =_;rw[js,ς Z,p1];rfl
   have hcs:(putCells r 0 U B).size=K:=by simp only[putCells,Array.size_mapIdx];omega
   have hO2:∀t,F.O R hp' t->F.O R s.hp t:=λt h=>h.imp id λ⟨g,i,o,J,Y⟩=>by
    rw[S] at J
    split at J
    .rename_i e;obtain ⟨rfl,rfl⟩:=e;exact ⟨g,0,_,hg0,Y⟩
    .exact ⟨g,i,o,J,Y⟩
   have ey:∀i,i<l.length+M.length->(putCells r 0 U B).toList[i]? =if h:i<l.length then some (r (U[i]'(by omega))) else us[i]?:=λi I=>by
    rw[jH,iW (by omega)];simp only[putCells,Array.getElem_mapIdx]
    by_cases h:i<l.length
    .rw[ς ⟨ζ _,by omega⟩,dif_pos h];simp only[Nat.sub_zero];rw[getElem!_pos _ i (by omega)]
    .rw[κ (λY=>h (by omega)),dif_neg h,hus i I,iW (by omega)]
   refine hs.writeG f 0 _ _ ho S Z Z Z Q (Nat.le_add_right _ _) (λt hl hno=>rf (λe=>hno (by rw[e];exact hb)) hl) (λ_ _ e=>by cases e) λhrep=>?_;have hlr:(V.map A++M).length=l.length+M.length:=by rw[Δ,χ,hlen']
   have hlu:((putCells r 0 U B).toList.take (l.length+M.length)).length=(V.map A++M).length*1:=by
    have e2:(putCells r 0 U B).toList.length=K:=hcs;rw[hlr,jD,ϱ,e2];exact Nat.min_eq_left p3
   refine ⟨(putCells r 0 U B).toList.take (l.length+M.length),⟨hlu,.inr ⟨b,K,_,by rw[hρ,hlr],ζ _,hheap,by rw[hlr];exact p3,p3',by omega,by rw[hlr,jD]⟩⟩,⟨hlu,λx C=>?_,λi x C j c G=>?_⟩,λx C c G=>?_⟩
   .rcases ϖ.1 C with h | h
    .obtain ⟨y,_,rfl⟩:=Θ.1 h;rw[hag];rfl
    .exact q2.2.1 _ (ϖ.2 (.inr h))
   .have I:i<l.length+M.length:=by rw[<-hlr];exact (φ.1 C).1
    by_cases h:i<l.length
    .rw[oh (by rw[χ];omega),ν,<-hys,ν,jH,iW (by omega)] at C;injection C with C;subst C
     rw[hag] at G
     match j,G with
     | 0,G=>
      injection G with G;subst G
      exact ⟨_,by rw[jD,ib,jt I,ey i I,dif_pos h],(H _).1,(H _).2.mono Q hW λt _=>hO2 t⟩
    .rw[List.getElem?_append_right (by rw[χ];omega),χ,hlen'] at C;obtain ⟨u,J,Y,h4⟩:=q2.2.2 i x (by rw[List.getElem?_append_right (by rw[χ];omega),χ];exact C) j c G
     have hj:j=0:=by
      have J:x.cells.length=1:=q2.2.1 x (ϖ.2 (.inr (ξ C)));have:=(φ.1 G).1;omega
     subst hj;rw[jD,ib] at J;exact ⟨u,by rw[jD,ib,jt I,ey i I,dif_neg h];exact J,Y,h4.mono Q hW λt _=>hO2 t⟩
   .rcases ϖ.1 C with h | h
    .obtain ⟨y,_,rfl⟩:=Θ.1 h;rw[hag] at G
     obtain ⟨k,hk⟩:∃k,el k=y\/y∉l:=by
      by_cases hy:y∈l
      .obtain ⟨k,hk,e⟩:=jC.1 hy;exact ⟨k,.inl ((heli k hk).trans e)⟩
      .exact ⟨0,.inr hy⟩
     have hyx:y∈l:=by
      rename_i hy
      rw[<-hys] at hy;obtain ⟨q,_,rfl⟩:=Θ.1 hy;exact hel q
     exact q3 (A y) (ϖ.2 (.inl (Θ.2 ⟨y,hyx,Z⟩))) c (by rw[hag];exact G)
    .exact q3 x (ϖ.2 (.inr h)) c G
end
end Go.Proofs.YteifpcnphnhaoaaGreat
namespace Go.Proofs.YteifpcnphnhaoaaGreat
open Go.RowKit
variable{a:List (List Nat)}{k:Nat}
set_option maxRecDepth 100000
def Hx(l:List Nat):Bool:=decide (l.length<2)
theorem YJ(l:List Nat)(a:l.length<=100000):AL prog 82 [.d (gD l)] (Ah (Hx l)):=by
 refine Av func82 Z Z ntmps82 Z Z Z λF b=>(AC (AE (AB Z Z ?_)));refine AD (AC (AE (ek Z Z (J (BS Z E0 Z) (J (Az Z Z Z) (AB Z Z (AD (A2 ?_))))))));exact ⟨_,[],_,A0 Z,Z,Z,Vo (by omega),Z⟩
def gu(l:List Nat):Int:=((l.getD 0 0:Nat):Int)
theorem mw(a b:List Nat)(h:0<a.length)(g:0<b.length)(f:a.getD 0 0<=100000)(c:b.getD 0 0<=100000):AL prog 84 [.d (gD a),.d (gD b)] (AF (gu a-gu b)):=by
 have j:a.getD 0 0=a[0]:=by rw[Φ,ω h];rfl
 have i:b.getD 0 0=b[0]:=by rw[Φ,ω g];rfl
 unfold gu;rw[j] at f⊢;rw[i] at c⊢;refine Av func84 Z Z ntmps84 Z Z Z λF k=>(AC (AE (AB Z Z (AD (AC (CK [[],[0],[0,1],[],[3],[3,4],rg 6,rg 7] mixed Z (By (Ap 0 Z Z ?_))))))));refine AR [5] Z (BC (0) Z Z (Z) (A1 h) E0 Z BW Z) (AR [6] Z (CG Z Z Am Z) (Ap 1 Z Z (AR [8] Z (BC (0) Z Z (Z) (A1 g) E0 Z BW Z) (AR [9] Z (CG Z Z Am Z) (Bu 6 Z Z Z (Ab 7 Z Z (J (P4 Z Z (Ξ _ (by omega)) Z) (AD ⟨Z,?_⟩))))))));refine Ab 8 Z Z (AB Z Z (AD ⟨Z,?_⟩));refine Bz (A2 ?_);exact ⟨_,[],[],A0 Z,Z,Z,Z,Z⟩
theorem qY(l:List (List Nat))(r:l.length<=100000)(g:∀c∈l,c.length<=100000):AL prog 135 [.d (.sl none (l.map gD)),.d (.fn 82 [] [])] (AF (Kw Hx l)):=by
 refine Av func135 Z Z ntmps135 Z Z Z λF s=>(AC (AE (AB Z Z (AD ?_))));refine AC (AC (AE (ek Z Z (J (BS Z T1 Z) (ek Z Z (AD (AZ (Gi (α:=Nat) (λk=>⟨19,[(0,.d (.sl none (l.map gD))),(1,.d (.fn 82 [] [])),(7,(.d (AF (l.length:Int)))),(8,(.d (AF (k:Int))))],[]⟩) (λk=>k<=l.length/\∀x∈l.take k,Hx x=false) (λk=>l.length-k) (0) (⟨ζ _,by simp⟩) (aV ⟨Z,Z,Z,Z,trivial⟩) ?_))))))));rintro k ⟨o,i⟩;refine AC (AE (J (Az Z Z Z) (AD (AC (A6 Z (λj=>?_) (λj=>?_))))))
 .have a:k<l.length:=BQ j;refine AW (AC (AZ (AC (AE (ek Z Z (AB Z Z (AD (AC ?_))))))));refine AE (ek Z Z (ek Z Z (ek Z Z (J (BC (k) Z Z (Z) (A1 a) T1 Z DD Z) (J (CG Z Z BH Z) (J (Lg (YJ l[k] (g _ (ϑ a))) Z Z) (AD (A6 Z (λf=>?_) (λf=>?_)))))))))
  .refine AC (AE (ek Z Z (AB Z Z (AD (A2 ?_)))));exact ⟨_,[],[],A0 Z,Z,Z,Ae (by unfold Kw;rw[G1 a i (by unfold Hx;simpa using f)]),Z⟩
  .refine AW (AE (J (Aj Z Z (AN (k+1) (by omega)) Z) (ek Z Z (AD ?_))));exact ⟨k+1,⟨by show k+1<=_;omega,by rw[ψ a];intro x b;rcases ϖ.1 b with b | b;exact i x b;rw[θ.1 b];unfold Hx;simpa using f⟩,by show l.length-(k+1)<l.length-k;omega,⟨Z,Z,λ_ _=>Sd.get (l:=[(0,_),(1,_),(7,_),(8,_)]) ⟨Z,Z,Z,Z,trivial⟩⟩⟩
 .refine Aw (AC (AE (AB Z Z (AD (A2 ?_)))));exact ⟨_,[],[],A0 Z,Z,Z,Ae (by unfold Kw;rw[Ht (λx b=>i x (by rw[η (by have h:=j;omega)];exact b))]),Z⟩
def iE(l:List (List Nat)):List (List Nat):=l.filter λx=>!Hx x
theorem Xi(h:∀x∈a,Hx x=false):iE a=a:=List.filter_eq_self.2 λx b=>by rw[h x b];rfl
theorem qC(b:k<a.length)(h:Hx a[k]=false):iE (a.take (k+1))=iE (a.take k)++ [a[k]]:=by
 unfold iE;rw[Es b,ς (by rw[h];rfl)]
theorem Xh(b:k<a.length)(h:Hx a[k]=true):iE (a.take (k+1))=iE (a.take k):=by grind[iE,Es]
theorem dU(l:List (List Nat)):(iE l).length<=l.length:=iI _ _
def eO:Option (List Nat)->D
 | some l=>gD l
 | none=> .raw (.slice none 0 0)
theorem e9(l:List (List Nat)):l.map gD=(l.map some).map eO:=by rw[gw];rfl
theorem qt(l:List (List Nat))(S:l.length<=100000)(z:∀c∈l,c.length<=100000):AP prog 81 [.own 10 0 l.length,.d (.fn 82 [] [])] [(10,[.rowD 28 1 (l.map gD)])] λr T=>r= .own 10 0 (iE l).length/\T=[(10,[.rowD 28 1 ((iE l).map gD++(List.replicate (l.length-(iE l).length) none).map eO)])]:=by
 have f:=qY l S z
 cases hfi:l.findIdx? Hx with
 | none=>
  have G:∀x∈l,Hx x=false:=λx I=>by have:=List.findIdx?_eq_none_iff.1 hfi x I;simpa using this
  have b:Kw Hx l= -1:=by unfold Kw;rw[hfi]
  rw[b] at f;have A:=Xi G;refine Av func81 Z Z ntmps81 Z Z Z λF H=>(AC (AE (AB Z Z (AD (AC (AE ?_))))));refine ek Z Z (ek Z Z (J (EO [10] f (by exact ⟨.inr ⟨_,_,Z,.own Z Z (by simp) (η (by simp)),Z⟩,.inl Z,trivial⟩) Z Z) (AB Z Z (AD (AC (AC (AE (ek Z Z ?_))))))));refine J (GR Z Z Z) (AD (Bw Z (Z) (AC (AE (ek Z Z (AB Z Z (AD (A2 ?_))))))));exact ⟨_,[10],_,A0 Z,Z,Z,by rw[A],by rw[A];simp⟩
 | some k=>
  obtain ⟨L,B,C⟩:=List.findIdx?_eq_some_iff_getElem.1 hfi;have b:Kw Hx l=(k:Int):=by unfold Kw;rw[hfi]
  rw[b] at f
  have y:∀x∈l.take k,Hx x=false:=λx I=>by
   obtain ⟨j,U,rfl⟩:=jh.1 I;have:=C j (by omega)
   simpa using this
  rw[e9 l] at f⊢;have K:iE (l.take (k+1))=l.take k:=by rw[Xh L B,Xi y]
  refine Av func81 Z Z ntmps81 Z Z Z λF H=>(AC ?_);refine AE (AB Z Z (AD (AC (AE (ek Z Z (ek Z Z (J (EO [10] f (by exact ⟨.inr ⟨_,_,Z,.own Z Z (by simp) (η (by simp)),Z⟩,.inl Z,trivial⟩) Z Z) (AB Z Z ?_))))))));refine AD (AC (AC (AE (ek Z Z (J (GR Z Z Z) (AD (Cr Z ((gp (by omega))) (AW ?_))))))));refine AC (AC (AE (ek Z Z (J (Aj Z Z (AN (k+1) (by omega)) Z) (AB Z Z (AD (AZ (BM (α:=Nat×Nat×List (Option (List Nat))) (λq=>⟨42,[(0,(.own 10 0 l.length)),(1,(.d (.fn 82 [] []))),(5,(.d (AF (q.1:Int)))),(6,(.d (AF (q.2.1:Int))))],[(10,[.rowD 28 1 (q.2.2.map eO)])]⟩) (λq=>q.2.1<=l.length/\q.1<q.2.1/\q.2.2.length=l.length/\q.2.2.take q.1=(iE (l.take q.2.1)).map some/\q.2.2.drop q.2.1=(l.drop q.2.1).map some) (λq=>l.length-q.2.1) ((k,k+1,l.map some)) (⟨by show k+1<=_;omega,jG _,by show (l.map some).length=_;simp,by show (l.map some).take k=_;rw[K,List.map_take],by show (l.map some).drop (k+1)=_;rw[List.map_drop]⟩) (AX H [10] Z Z ⟨Z,Z,Z,Z,trivial⟩) ?_))))))));rintro ⟨i,j,c⟩ ⟨N,O,g,o,s⟩;dsimp only at N O g o s⊢;refine AC (AC (AE (ek Z Z (ek Z Z (J (RL Z T1 Z) (J (Az Z Z Z) (AD (A6 Z (λw=>?_) (λw=>?_)))))))))
  .have a:j<l.length:=BQ w;refine AW (AC (AZ (AC (AE ?_))));have D:j<c.length:=by omega
   have Q:c[j]=some l[j]:=by have R:(c.drop j)[0]? =((l.drop j).map some)[0]?:=by {rw[s]};rw[jl,ν,jl,ib,ω D,ω a] at R;injection R
   refine ek Z Z (ek Z Z (J (DB (j) Z Z (Z) (a) Z T1 DD Z) (J (EC Z Z ((show (c.map eO)[j]? =some (gD l[j]) from by rw[ν,ω D,Q];rfl)) Z BH Z) ?_)));refine AB Z Z ?_;refine AD (AC (AE (ek Z Z (ek Z Z (J (Lg (YJ l[j] (z _ (ϑ a))) Z Z) (J (KH Z Z) (AD (A6 Z (λv=>?_) (λv=>?_)))))))))
   .have u:Hx l[j]=false:=by unfold Hx;simpa using v
    refine AC (AE (ek Z Z (ek Z Z (ek Z Z (J (DB (i) Z Z (Z) ((by omega)) Z T1 DD Z) (V (FY (c) (some l[j]) Z Z Z Z Z Z (by omega) Z DD) (AD (AE ?_))))))));refine ek Z Z (J (Aj Z Z (AN (i+1) (by omega)) Z) (AB Z Z (AD (AE (ek Z Z (J (Aj Z Z (AN (j+1) (by omega)) Z) (AB Z Z (AD ?_))))))));exact ⟨(i+1,j+1,_),⟨by show j+1<=_;omega,by show i+1<j+1;omega,by show (c.set i (some l[j])).length=_;rw[iB];exact g,by show (c.set i (some l[j])).take (i+1)=(iE (l.take (j+1))).map some;rw[qC a u,Ω,<-o,ψ (by rw[iB];omega),List.getElem_set_self,List.take_set_of_le (Γ i)];rfl,by show (c.set i (some l[j])).drop (j+1)=(l.drop (j+1)).map some;rw[List.drop_set_of_lt (by omega),<-List.tail_drop,<-List.tail_drop,s,List.map_tail]⟩,by show l.length-(j+1)<l.length-j;omega,AX H [10] Z (Z) ⟨Z,Z,Z,Z,trivial⟩⟩
   .have u:Hx l[j]=true:=by unfold Hx;simpa using v
    refine AW (AE (ek Z Z (J (Aj Z Z (AN (j+1) (by omega)) Z) (AB Z Z (AD ?_)))));exact ⟨(i,j+1,c),⟨by show j+1<=_;omega,by show i<j+1;omega,g,by show c.take i=(iE (l.take (j+1))).map some;rw[Xh a u,o],by show c.drop (j+1)=(l.drop (j+1)).map some;rw[<-List.tail_drop,<-List.tail_drop,s,List.map_tail]⟩,by show l.length-(j+1)<l.length-j;omega,AX H [10] Z (Z) ⟨Z,Z,Z,Z,trivial⟩⟩
  .refine Aw (AC ?_);have M:j=l.length:=by have h:=w;omega
   have t:c.take i=(iE l).map some:=by rw[o,M,gy]
   have E:i=(iE l).length:=by have h:=gV List.length t;rw[ϱ,χ] at h;omega
   refine AE (ek Z Z (ek Z Z (Mo (emb:=eO) (zd:=none) c i Z Z Z Z g.symm Z (by omega) T1 DD zeroValue28 Z Z Z Z Z Z ?_)));refine AD (AC (AE (ek Z Z (ek Z Z (J (Gs (i) Z Z Z (by simp only[χ,Δ,ϱ,List.length_replicate];omega) Z T1 DD Z) (AB Z Z (AD (A2 ?_))))))));exact ⟨_,[10],_,A0 Z,Z,Z,by rw[<-E],by rw[t,g,E,Ω,<-e9]⟩
end Go.Proofs.YteifpcnphnhaoaaGreat
namespace Go.Proofs.YteifpcnphnhaoaaGreat
end Go.Proofs.YteifpcnphnhaoaaGreat
namespace Go.Proofs.YteifpcnphnhaoaaGreat
open Go.RowKit
variable{a:Nat->Nat->Value}{c:Act}{w:World}{F:Fr}{f:Hp}{s:AS}{M:MF}
set_option maxRecDepth 100000
def n9(M:MF)(x y:D):Prop:=x=y\/∃h T zs,x=gN h zs.length/\B1 M h T 1 zs/\(∀z∈zs,z.one=true)/\y= .sl none zs
theorem AY.melt(hs:SR F s a c w){g:Nat}(S:fl s.hp g=some [.multi M])(O:∀b,F.O a f b->F.O a s.hp b)(N:∀i o b,ey s.hp g i=some o->Br (a g i)=some b->¬F.O a f b){x y:D}{v:Value}(hm:n9 M x y)(H:AY w (F.O a f) x v):AY w (F.O a f) y v:=by
 rcases hm with rfl | ⟨h,T,C,rfl,l,G,rfl⟩
 .exact H
 .match h,l with
  | none,l=>
   have l:C=[]:=l;subst l
   cases H with
   | raw _=>exact .sl 0 (λb r=>by cases r) (λ_=>rfl) Z (Γ _) (ζ _) (λx hx=>by cases hx) (λh=>absurd Z h) (λb o r=>by cases r)
  | some (b,j),l=>
   obtain ⟨hle,r⟩:=l
   cases H with
   | raw _=>
    obtain ⟨E,us,g1,U,g3⟩:=hs.rowN S r;obtain ⟨k,cap,e,Y,X,q3,W⟩:=Hf g1;injection e with e1 e2 e3
    subst e1 e3
    have K:∀z∈C,z.cells=[z]:=λz B=>by
     have h1:=G z B;have h2:=U.2.1 z B
     cases z with
     | agg cs=>simp[D.one] at h1
     | _=>rfl
    refine .sl 1 (λb r=>by cases r) (λh=>by cases h) Z Y X (λz B=>by rw[K z B];rfl) (λ_=>⟨b,0,Z⟩) (λb' o t i z J=>?_);injection t with t
    injection t with hb1 hb2
    subst hb1 hb2;have hil:i<C.length:=(φ.1 J).1;obtain ⟨b2,cur,A,R,r3,V⟩:=W (by omega);injection A with A
    injection A with A
    subst A;have I:b<w.heap.size:=(iq.1 R).1
    have hex:∀(q:Nat) j,z.cells[q]? =some j->∃u,w.cell? ⟨b,0+i*1+q,none⟩=some u/\AY w (F.O a f) j u:=λq Q L=>by
     obtain ⟨u,d1,d2,d3⟩:=U.2.2 i z J q Q L;exact ⟨u,by rw[i9];exact Dk R V d1,d3.mono (Γ _) (λ_ _ _=>rfl) λb _=>O b⟩
    refine .ptr (λq=>(w.cell? ⟨b,0+i*1+q,none⟩).getD undef) I (N b _ b (by rw[Gj S,r];rfl) (by rw[E];rfl)) (g3 z (ξ J)) (λq Q L=>?_) (λq Q L=>?_)
    .grind
    grind
theorem SR.melt(U:SR F s a c w)(g i b:Nat){T:TypeId}{o B:List D}{v:List (Nat×AV)}{G A:Hp}(W:fl s.hp b=some [.multi M])(hE:A9 b s.env=some v)(hH:A8 b s.hp=some G)(hh:C3 b G=some A)(V:ey A g i=some (.rowD T 1 o))(l:B.length=o.length)(K:∀(j:Nat) x y,o[j]? =some x->B[j]? =some y->n9 M x y)(I:(∀x∈o,x.one=true)/\∀y∈B,y.one=true)(C:B6 A g i (.rowD T 1 B)=some f):SR F ⟨s.n,v,f⟩ a c w:=by
 obtain ⟨X,O,N⟩:=U.forget b hE hH hh (λj t cs e=>by
  rw[Gj W] at e
  cases hm:M j with
  | none=>rw[hm] at e;cases e
  | some m=>rw[hm] at e;injection e with e;exact Al.notBlk e)
 have k:∀z:D,z.one=true->z.cells=[z]:=λz hz=>by
  cases z with
  | agg cs=>simp[D.one] at hz
  | _=>rfl
 refine X.write g i (.rowD T 1 o) (.rowD T 1 B) V (BA C) Z Z Z Z (λ_ _=>rfl) (λ_ _ e=>by cases e) λE=>?_;obtain ⟨Y,k1,R,k3⟩:=X.heap.sim g i _ V;refine ⟨Y,by rw[l];exact k1,⟨by rw[l];exact R.1,λy J=>by rw[k y (I.2 y J)];rfl,λj y L q h r=>?_⟩,λy J h r=>by rw[k y (I.2 y J),θ] at r;rw[r];exact I.2 y J⟩;have H:j<o.length:=by rw[<-l];exact (φ.1 L).1
 have S:o[j]? =some o[j]:=ω H;rw[k y (I.2 y (ξ L))] at r
 cases q with
 | succ q=>cases r
 | zero=>
  injection r with r
  subst r;obtain ⟨u,d1,d2,d3⟩:=R.2.2 j _ S 0 _ (by rw[k _ (I.1 _ (ϑ H))];rfl);refine ⟨u,d1,d2,?_⟩;have h3:=AY.melt U W O N (K j _ _ S L) d3;have Q:=E (.d y) u (.d h3)
  cases Q with | d Q=>exact Q
section
variable{P:Program}{F:Fr}{Q:Exit->AS->Prop}{c:Code}{n:Nat}{env env':List (Nat×AV)}{hp hp1 hp2 hp':Hp}
theorem fg(g i f:Nat){M:MF}{T:TypeId}{l:List D}(k:List D)(z:fl hp f=some [.multi M])(B:A9 f env=some env')(A:A8 f hp=some hp1)(v:C3 f hp1=some hp2)(u:ey hp2 g i=some (.rowD T 1 l))(b:k.length=l.length)(o:∀(j:Nat) x y,l[j]? =some x->k[j]? =some y->n9 M x y)(C:(∀x∈l,x.one=true)/\∀y∈k,y.one=true)(a:B6 hp2 g i (.rowD T 1 k)=some hp')(h:CD P F c Q ⟨n,env',hp'⟩):CD P F c Q ⟨n,env,hp⟩:=
 λs r w t=>h s r w (t.melt g i f z B A v u b o C a)
end
theorem SR.weakRow{F:Fr}{s:AS}{I:Nat->Nat->Value}{B:Act}{w:World}(L:SR F s I B w)(g i:Nat){T:TypeId}{f k:List D}{r:Hp}(M:ey s.hp g i=some (.rowD T 1 f))(b:k.length=f.length)(E:∀(j:Nat) x y,f[j]? =some x->k[j]? =some y->∀w O v,AY w O x v->AY w O y v)(A:(∀x∈f,x.one=true)/\∀y∈k,y.one=true)(l:B6 s.hp g i (.rowD T 1 k)=some r):SR F ⟨s.n,s.env,r⟩ I B w:=by
 have a:∀z:D,z.one=true->z.cells=[z]:=λz R=>by
  cases z with
  | agg U=>simp[D.one] at R
  | _=>rfl
 refine L.write g i (.rowD T 1 f) (.rowD T 1 k) M (BA l) Z Z Z Z (λ_ _=>rfl) (λ_ _ e=>by cases e) λo=>?_;obtain ⟨N,Q,J,S⟩:=L.heap.sim g i _ M;refine ⟨N,by rw[b];exact Q,⟨by rw[b];exact J.1,λy C=>by rw[a y (A.2 y C)];rfl,λj y G q c h=>?_⟩,λy C c h=>by rw[a y (A.2 y C),θ] at h;rw[h];exact A.2 y C⟩;have t:j<f.length:=by rw[<-b];exact (φ.1 G).1
 have K:f[j]? =some f[j]:=ω t;rw[a y (A.2 y (ξ G))] at h
 cases q with
 | succ q=>cases h
 | zero=>
  injection h with h
  subst h;obtain ⟨u,d1,d2,d3⟩:=J.2.2 j _ K 0 _ (by rw[a _ (A.1 _ (ϑ t))];rfl);refine ⟨u,d1,d2,?_⟩;have H:=o (.d y) u (.d (E j _ _ K G _ _ _ d3))
  cases H with | d H=>exact H
section
variable{P:Program}{F:Fr}{Q:Exit->AS->Prop}{c:Code}{n:Nat}{env:List (Nat×AV)}{hp hp':Hp}
theorem RJ(g i:Nat){T:TypeId}{k:List D}(f:List D)(t:ey hp g i=some (.rowD T 1 k))(b:f.length=k.length)(l:∀(j:Nat) x y,k[j]? =some x->f[j]? =some y->∀w O v,AY w O x v->AY w O y v)(u:(∀x∈k,x.one=true)/\∀y∈f,y.one=true)(a:B6 hp g i (.rowD T 1 f)=some hp')(h:CD P F c Q ⟨n,env,hp'⟩):CD P F c Q ⟨n,env,hp⟩:=
 λr o w s=>h r o w (s.weakRow g i t b l u a)
end
variable{a:Nat->List Nat}{c:Nat}{g:List (List Nat)}{f:Nat->Nat}{h:List (List Int)}{i:Nat->List Nat}{j:List (Nat×Nat)}{k:Nat}{S:TS}{o:Option Nat}{s t:Nat}{u:Nat->Hd}{w:Nat}{x:List Nat}{y:List (Nat×Nat)}{z:Nat->Nat}{A:Nat->Int}{B:Nat}{C:List (Nat×Nat)}{E:List Nat}{F G:Nat}{M:MF}{H:Nat}
structure NT (M:MF) (n:Nat) (hs:Nat->Hd) (ls:Nat->List Nat):Prop where
 at_:∀j,j<n->B1 M (hs j) 3 1 ((ls j).map AT)
 inj:∀j k b c c',j<n->k<n->hs j=some (b,c)->hs k=some (b,c')->j=k
abbrev iO(n:Nat)(hs:Nat->Hd)(ls:Nat->List Nat):List D:=(List.range n).map λj=>gN (hs j) (ls j).length
theorem K5(h:G<c):(iO c u i)[G]? =some (gN (u G) (i G).length):=by simp[h]
theorem Fj(n:Nat)(b:Nat->Hd)(a:Nat->List Nat):(iO n b a).length=n:=by simp
theorem TL{h:Hd}:(iO c u i).set G (gN h x.length)=iO c (BJ u G h) (BJ i G x):=by grind[NX,HX,L6]
theorem NT.zero(n:Nat):NT (λ_=>none) n (λ_=>none) (λ_=> []):=⟨λ_ _=>rfl,λ_ _ _ _ _ _ _ h=>by cases h⟩
theorem NT.app(h:NT M c u i)(E:G<c){b:Nat}(H:Bi M (u G) b=none)(F:(x.map AT).length<=B):
  NT (B5 (Bi M (u G)) b (.row 3 1 B (x.map AT))) c (BJ u G (some (b,B))) (BJ i G x):=by
 have v:∀k,k<c->k≠G->∀f s,u k=some (f,s)->f≠b/\B5 (Bi M (u G)) b (.row 3 1 B (x.map AT)) f=M f:=by
  intro k g w f s e;have a:=h.at_ k g;rw[e] at a;have A:∀o,u G≠some (f,o):=λo t=>w (h.inj k G f s o g E e t);refine ⟨λI=>?_,?_⟩
  .subst I;have:=Ju a.2 A
   grind
  .rw[im H a.2 A,a.2]
 refine ⟨λk g=>?_,λk z L K J g y D t=>?_⟩
 .by_cases e:k=G
  .subst e;rw[L6,L6];exact ⟨F,GG _ _ _⟩
  .rw[HX e,HX e];have a:=h.at_ k g
   match hh:u k,a with
   | none,a=>exact a
   | some (f,s),a=>exact ⟨a.1,by rw[(v k g e f s hh).2];exact a.2⟩
 .by_cases C:k=G<;>by_cases r:z=G
  .rw[C,r]
  .grind[L6,HX]
  .grind[L6,HX]
  .rw[HX C] at D;rw[HX r] at t;exact h.inj k z L K J g y D t
def eC(n:Nat)(ls:Nat->List Nat):List (List Nat):=(List.range n).map ls
theorem VG(n:Nat)(a:Nat->List Nat):(eC n a).length=n:=by simp[eC]
theorem UT(h:s<c):fm (eC c i) s=i s:=by
 rw[Ff (by rw[VG];exact h)];simp[eC]
theorem NT.melt(h:NT M c u i):∀(j:Nat) x y,(iO c u i)[j]? =some x->((eC c i).map gD)[j]? =some y->n9 M x y:=by
 intro j x y b f;have g:j<c:=by have:=(φ.1 b).1;rwa [Fj] at this
 rw[K5 g] at b;injection b with b
 rw[Zo (by rw[VG];exact g),UT g] at f;injection f with f
 subst b f;exact .inr ⟨u j,3,(i j).map AT,by rw[χ],h.at_ j g,λz k=>by obtain ⟨a,_,rfl⟩:=Θ.1 k;rfl,Z⟩
theorem Ke(n:Nat)(f:Nat->Hd)(b:Nat->List Nat):∀x∈iO n f b,x.one=true:=λx c=>by
 obtain ⟨a,_,rfl⟩:=Θ.1 c;rfl
theorem cb(g:List (List Nat)):∀x∈g.map gD,x.one=true:=λx b=>by
 obtain ⟨a,_,rfl⟩:=Θ.1 b;rfl
theorem Tn(n:Nat):∀(j:Nat) x y,(List.replicate n (D.sl (some true) []))[j]? =some x->(iO n (λ_=>none) (λ_=> []))[j]? =some y->∀w O v,AY w O x v->AY w O y v:=by
 intro j x y a b w O v g;have f:j<n:=by have:=(φ.1 a).1;rwa [List.length_replicate] at this
 rw[K5 f] at b;injection b with b
 have c:x=D.sl (some true) []:=by rw[List.getElem?_replicate,ς f] at a;injection a with a;exact a.symm
 subst c b;exact g.nrm1
theorem XT(n:Nat):∀x∈List.replicate n (D.sl (some true) []),x.one=true:=λx a=>by rw[(List.mem_replicate.1 a).2];rfl
theorem qa(g:List (List Nat))(K:Nat->Nat):∃a,RM g K a/\∀y,¬DM g a y:=by
 have j:∀(m:Nat) (l:List Nat),RM g K l->g.length-l.length<=m->∃a,RM g K a/\∀y,¬DM g a y:=by
  intro m
  induction m with
  | zero=>
   intro l h t;refine ⟨l,h,λy c=>?_⟩;obtain ⟨A,w⟩:=JU h;have:=DJ (kL.2 ⟨c.2.1,A⟩) (m:=List.range g.length) λx o=>Ψ.2 ((Υ.1 o).elim (λe=>e▸c.1) (w x))
   grind
  | succ m s=>
   intro l h t
   by_cases v:∃y,DM g l y
   .have f:∀(b:Nat) y,DM g l y->K y<=b->∃x,DM g l x/\∀z,DM g l z->K x<=K z:=by
     intro b
     induction b with
     | zero=>intro y c B;exact ⟨y,c,λz _=>by omega⟩
     | succ b r=>
      grind
    obtain ⟨y,c⟩:=v;obtain ⟨x,o,k⟩:=f (K y) y c (Γ _);refine s (l++ [x]) (US h o k) ?_
    grind
   grind
 exact j _ [] (λi u=>by simp at u) (Γ _)
theorem Lw(g:List (List Nat))(K:Nat->Nat):RM g K (iJ g K)/\∀y,¬DM g (iJ g K) y:=Classical.epsilon_spec (p:=λa=>RM g K a/\∀y,¬DM g a y) (qa g K)
theorem lV{g:List (List Nat)}{K:Nat->Nat}(h:k<(iJ g K).length):fz (iJ g K) k<g.length:=(JU (Lw g K).1).2 _ (Du h)
theorem c9(g:List (List Nat))(K:Nat->Nat):(iJ g K).length<=g.length:=by
 obtain ⟨c,b⟩:=JU (Lw g K).1;have:=DJ c (m:=List.range g.length) λx a=>Ψ.2 (b x a)
 grind
def kP(of:Nat->Nat)(n:Nat):Nat->Nat->Nat
 | 0=>λ_=>0
 | d+1=>BJ (kP of n d) (of (n-1-d)) (n-1-d)
theorem Ih(a:Nat->Nat)(n:Nat):∀d,d<=n->∀c,(∃v,n-d<=v/\v<n/\a v=c)->a (kP a n d c)=c/\kP a n d c<n/\∀v,n-d<=v->v<n->a v=c->kP a n d c<=v
 | 0,_,c,⟨v,r,i,_⟩=>by omega
 | d+1,t,c,⟨v,r,i,h⟩=>by
  unfold kP
  by_cases e:c=a (n-1-d)
  .subst e;rw[L6];exact ⟨Z,by omega,λv o _ _=>by omega⟩
  .rw[HX e];have o:v≠n-1-d:=λf=>e (by rw[<-h,f]);obtain ⟨l,k,j⟩:=Ih a n d (by omega) c ⟨v,by omega,i,h⟩;refine ⟨l,k,λu s b g=>j u ?_ b g⟩;have:u≠n-1-d:=λf=>e (by rw[<-g,f]);omega
def VQ(of:Nat->Nat)(n cnt:Nat):List Nat:=(List.range cnt).map (kP of n n)
theorem N9{cnt:Nat}(h:B<cnt):fz (VQ f c cnt) B=kP f c c B:=by grind[VQ,QC]
theorem ln(a:Nat->Nat)(n cnt:Nat):(VQ a n cnt).length=cnt:=by simp[VQ]
theorem bt(n:Nat)(f:Nat->Nat):rowN n f=((List.range n).map f).map AT:=by rw[gw];rfl
theorem qD{cnt:Nat}(h:iL c a f cnt):∀g b,g<cnt->b<cnt->fz (VQ f c cnt) g=fz (VQ f c cnt) b->g=b:=by
 intro g b k j e;rw[N9 k,N9 j] at e;obtain ⟨v,l,i⟩:=h.use g k;obtain ⟨u,r,o⟩:=h.use b j;have s:=(Ih f c c (Γ _) g ⟨v,by omega,l,i⟩).1
 grind[Ih]
def YC(of:Nat->Nat)(a:Nat)(l:List Nat):List Nat:=(l.filter λx=>decide (of a≠of x)).map of
def Ni(g:List (List Nat))(of:Nat->Nat)(i k c:Nat):List Nat:=((List.range i).flatMap λa=>if of a=c then YC of a (fm g a) else [])++if of i=c then YC of i ((fm g i).take k) else []
theorem eX(g:List (List Nat))(a:Nat->Nat):Ni g a 0 0=λ_=> []:=by funext c;simp[Ni,YC]
theorem Xz(g:List (List Nat))(a:Nat->Nat)(i:Nat):Ni g a i (fm g i).length=Ni g a (i+1) 0:=by grind[Ni,iM,YC]
theorem U4{a:Nat}(b:k<x.length):YC f a (x.take (k+1))=YC f a (x.take k)++if f a≠f (fz x k) then [f (fz x k)] else []:=by grind[YC,ψ,QC]
theorem eY{of:Nat->Nat}(a:k<(fm g s).length)(h:of s≠of (fz (fm g s) k)):BJ (Ni g of s k) (of s) (Ni g of s k (of s)++ [of (fz (fm g s) k)])=Ni g of s (k+1):=by grind[L6,Ni,U4,HX]
theorem eZ{of:Nat->Nat}(a:k<(fm g s).length)(h:¬of s≠of (fz (fm g s) k)):Ni g of s k=Ni g of s (k+1):=by
 funext c
 unfold Ni;rw[U4 a,κ h,iR]
def Jl(g:List (List Nat))(i:Nat):Nat:=((List.range i).map λa=>(fm g a).length).sum
theorem YB(b:Nat->Nat)(a:Nat)(l:List Nat):(YC b a l).length<=l.length:=by unfold YC;rw[χ];exact iI _ _
theorem YA(g:List (List Nat))(b:Nat->Nat)(i k c:Nat):(Ni g b i k c).length<=Jl g i+((fm g i).take k).length:=by
 have f:∀m,((List.range m).flatMap λa=>if b a=c then YC b a (fm g a) else []).length<=Jl g m:=by
  intro m
  induction m with
  | zero=>exact ζ _
  | succ m h=>
   unfold Jl at h⊢;rw[iM,List.flatMap_append,Δ,Ω,ji,List.flatMap_singleton,List.map_singleton,List.sum_singleton]
   grind[YB]
 grind[Ni,YB]
theorem QI(g:List (List Nat)){i j:Nat}(h:i<=j):Jl g i<=Jl g j:=by
 induction j with
 | zero=>
  have:i=0:=by omega
  subst this;exact Γ _
 | succ j a=>
  grind[Jl,iM]
structure GT (g:List (List Nat)):Prop where
 gb:GB g
 tot:Jl g g.length<=1048576
def LS(g:List (List Nat))(of:Nat->Nat)(cnt:Nat):List (List Nat):=eC cnt (Ni g of g.length 0)
theorem qn{cnt:Nat}(o:GT g)(h:iL g.length (fm g) f cnt):GB (LS g f cnt):=by
 have t:=o.gb.n;have s:=h.le;refine ⟨by rw[LS,VG];omega,λl i=>?_,λl i x b=>?_⟩
 .obtain ⟨c,_,rfl⟩:=Θ.1 i;have:=YA g f g.length 0 c;have:=o.tot
  simp at*;omega
 .obtain ⟨c,_,rfl⟩:=Θ.1 i;rw[LS,VG]
  have j:∀a l,a<g.length->(∀x∈l,x<g.length)->x∈YC f a l->x<cnt:=λa l _ i b=>by
   unfold YC at b;obtain ⟨y,k,rfl⟩:=Θ.1 b;exact h.lt y (i y (gk.1 k).1)
  unfold Ni at b;rcases ϖ.1 b with b | b
  .obtain ⟨a,r,b⟩:=ja.1 b
   split at b
   .exact j a _ (Ψ.1 r) (λy k=>o.gb.suc (Ψ.1 r) k) b
   .cases b
  grind[YC]
def Df(seq:List Nat):Nat->Nat->Nat
 | 0=>λ_=>0
 | k+1=>BJ (Df seq k) (fz seq k) k
theorem X4(a:List Nat){cnt:Nat}(b:0<cnt)(f:a.length<=cnt):∀k,k<=a.length->∀c,Df a k c<cnt
 | 0,_,c=>b
 | k+1,g,c=>by
  unfold Df
  by_cases e:c=fz a k
  .subst e;rw[L6];omega
  .rw[HX e];exact X4 a b f k (by omega) c
noncomputable def ii(g:List (List Nat))(of:Nat->Nat)(cnt:Nat):List Nat:=iJ (LS g of cnt) (fz (VQ of g.length cnt))
noncomputable def gj(g:List (List Nat))(of:Nat->Nat)(cnt:Nat):Nat->Nat:=Df (ii g of cnt) (ii g of cnt).length
def GP(no:Nat->Nat)(i c:Nat):List Nat:=(List.range i).filter λv=>decide (no v=c)
def l4(of no:Nat->Nat)(i v:Nat):Nat:=if v<i then no v else of v
theorem ZL(a:Nat->Nat)(i:Nat):BJ (GP a i) (a i) (GP a i (a i)++ [i])=GP a (i+1):=by grind[L6,GP,iM,HX]
theorem c6(a:Nat->Nat)(i c:Nat):(GP a i c).length<=i:=by grind[GP]
theorem cg(b a:Nat->Nat)(i:Nat):BJ (l4 b a i) i (a i)=l4 b a (i+1):=by grind[L6,l4,HX]
structure CN (n:Nat) (suc:Nat->List Nat) (no:Nat->Nat) (cnt:Nat):Prop where
 lt:∀v,v<n->no v<cnt
 scc:∀i j,i<n->j<n->(no i=no j↔Rh suc i j/\Rh suc j i)
 use:∀c,c<cnt->∃v,v<n/\no v=c
 top:∀u v,u<n->v<n->v∈suc u->no u<=no v
 mn:∀c,c<cnt->∀i,i<n->c<=no i->(∀k,k<n->c<=no k->Rh suc k i->Rh suc i k)->∃j,j<n/\no j=c/\j<=i
theorem CN.rh{cnt:Nat}(h:CN c a z cnt)(i:∀w,w<c->∀y∈a w,y<c)(g:H<c)(j:Rh a H w):w<c/\z H<=z w:=by
 induction j with
 | refl=>exact ⟨g,Γ _⟩
 | step _ e b=>
  have f:=i _ b.1 _ e;exact ⟨f,gY b.2 (h.top _ _ b.1 f e)⟩
theorem CN.crit{cnt:Nat}(h:CN c a z cnt)(f:∀v,v<c->∀y∈a v,y<c)(j:s<c)(o:z s=B):∀k,k<c->B<=z k->Rh a k s->Rh a s k:=λk b l g=>by
 have:=(h.rh f b g).2;exact ((h.scc s k j b).1 (by omega)).1
theorem oZ(p:Nat->Prop):∀(m x:Nat),p x->x<=m->∃y,p y/\∀z,p z->y<=z:=by
 intro m
 induction m with
 | zero=>intro x a c;exact ⟨x,a,λz _=>by omega⟩
 | succ m b=>
  grind
theorem PQ{n:Nat}{g:Nat->List Nat}{t a:Nat->Nat}{cnt f:Nat}(h:CN n g t cnt)(B:CN n g a f)(E:∀v,v<n->∀y∈g v,y<n):
  ∀c,c<=cnt->c<=f->∀v,v<n->∀d,d<c->(t v=d↔a v=d)
 | 0,_,_,v,_,d,O=>by omega
 | c+1,S,R,v,s,d,O=>by
  have C:=PQ h B E c (by omega) (by omega)
  by_cases e:d<c
  .exact C v s d e
  .have e:d=c:=by omega
   subst e
   have b:∀v,v<n->(d<=t v↔d<=a v):=λv s=>by
    constructor
    .intro Q;rcases Nat.lt_or_ge (a v) d with r | r
     .have:=(C v s _ r).2 rfl;omega
     .exact r
    .intro Q;rcases Nat.lt_or_ge (t v) d with r | r
     .have:=(C v s _ r).1 rfl;omega
     .exact r
   obtain ⟨x,M,D⟩:=h.use d (by omega);obtain ⟨i,⟨A,l⟩,H⟩:=oZ (λy=>y<n/\t y=d) x x ⟨M,D⟩ (Γ _);obtain ⟨j,G,w,N⟩:=B.mn d (by omega) i A ((b i A).1 (by omega)) λk u o F=>h.crit E A l k u ((b k u).2 o) F;obtain ⟨L,J,z,K⟩:=h.mn d (by omega) j G ((b j G).2 (by omega)) λk u o F=>B.crit E G w k u ((b k u).1 o) F;have:=H L ⟨J,z⟩;have I:i=j:=by omega
   subst I;rw[<-l,h.scc v i s A,l,<-w,B.scc v i s A]
theorem mg{f:Nat->Nat}{cnt b:Nat}(h:CN c a z cnt)(g:CN c a f b)(o:∀v,v<c->∀y∈a v,y<c):cnt=b/\∀v,v<c->z v=f v:=by
 have i:∀{z f:Nat->Nat} {cnt b:Nat},CN c a z cnt->CN c a f b->cnt<=b:=by
  intro z f cnt b h g;rcases Nat.lt_or_ge b cnt with k | l
  .obtain ⟨v,j,r⟩:=h.use b k;have s:=g.lt v j;have:=(PQ h g o b (by omega) (Γ _) v j (f v) s).2 rfl;omega
  .exact l
 have e:cnt=b:=Nat.le_antisymm (i h g) (i g h);subst e;exact ⟨Z,λv j=>((PQ h g o cnt (Γ _) (Γ _) v j (f v) (g.lt v j)).2 Z)⟩
theorem SL{cnt x:Nat}(o:B<cnt):x∈fm (LS g f cnt) B↔∃a,a<g.length/\f a=B/\∃y∈fm g a,f a≠f y/\f y=x:=by
 rw[LS,UT o];unfold Ni YC;rw[List.take_zero];simp only[List.filter_nil,List.map_nil,ite_self,iR,ja,Ψ]
 constructor
 .rintro ⟨a,l,j⟩
  split at j
  .rename_i e
   obtain ⟨y,i,rfl⟩:=Θ.1 j;obtain ⟨h,b⟩:=gk.1 i;exact ⟨a,l,e,y,h,jc b,Z⟩
  .cases j
 .rintro ⟨a,l,e,y,i,k,rfl⟩;refine ⟨a,l,?_⟩;rw[ς e];exact Θ.2 ⟨y,gk.2 ⟨i,gi k⟩,Z⟩
theorem X5{a:List Nat}(b:a.Nodup):∀m,m<=a.length->∀k,k<m->Df a m (fz a k)=k
 | 0,_,k,c=>by omega
 | m+1,g,k,c=>by
  unfold Df
  by_cases e:k=m
  .subst e;rw[L6]
  .rw[HX,X5 b m (by omega) k (by omega)];rw[QC (by omega),QC (by omega)];intro f;exact e ((List.getElem_inj b).1 f)
theorem ma(O:GB g){cnt:Nat}(h:iL g.length (fm g) f cnt){K:Nat->Nat}{j:List Nat}(r:∀y,¬DM (LS g f cnt) j y):∀c,c<cnt->c∈j:=by
 let Rc:Nat->Nat->Prop:=λd c=>∃u v,u<g.length/\v<g.length/\f u=d/\f v=c/\Rh (fm g) u v
 have dec:∀c,DecidablePred λd=>Rc d c:=λc d=>Classical.propDecidable _
 let b:Nat->Nat:=λc=>((List.range cnt).filter λd=> @decide (Rc d c) (dec c d)).length
 have C:∀k c,k<cnt->c∈fm (LS g f cnt) k->b k<b c:=by
  intro k c G o;obtain ⟨a,s,rfl,y,w,E,rfl⟩:=(SL G).1 o;have i:=O.suc s w
  have:=DJ (l:=f y::(List.range cnt).filter λd=> @decide (Rc d (f a)) (dec (f a) d)) (m:=(List.range cnt).filter λd=> @decide (Rc d (f y)) (dec (f y) d)) (kL.2 ⟨λr=>by
   obtain ⟨_,J⟩:=gk.1 r;obtain ⟨u,v,B,A,M,L,D⟩:= @of_decide_eq_true _ (dec _ _) J;have R:=(h.scc u y B i).1 M;have I:=(h.scc v a A s).1 L
   exact E ((h.scc a y s i).2 ⟨Rh.one w,R.2.trans (D.trans I.1)⟩),List.nodup_range.filter _⟩) (λx z=>by
   rcases Υ.1 z with rfl | z
   .exact gk.2 ⟨Ψ.2 (h.lt y i), @decide_eq_true _ (dec _ _) ⟨y,y,i,i,Z,Z,.refl y⟩⟩
   .obtain ⟨S,J⟩:=gk.1 z;obtain ⟨u,v,B,A,M,L,D⟩:= @of_decide_eq_true _ (dec _ _) J;have I:=(h.scc v a A s).1 L
    exact gk.2 ⟨S, @decide_eq_true _ (dec _ _) ⟨u,y,B,i,M,Z,D.trans (I.1.trans (Rh.one w))⟩⟩)
  grind
 have t:∀(m c:Nat),b c<=m->c<cnt->c∈j:=by
  intro m
  induction m with
  | zero=>
   intro c Q o;refine Classical.byContradiction λF=>r c ⟨by rw[LS,VG];exact o,F,λk G _ H=>?_⟩
   grind[LS,VG]
  | succ m T=>
   intro c Q o;refine Classical.byContradiction λF=>r c ⟨by rw[LS,VG];exact o,F,λk G N H=>?_⟩
   grind[LS,VG]
 exact λc o=>t (b c) c (Γ _) o
theorem W6(hg:GT g){cnt:Nat}(h:iL g.length (fm g) f cnt):CN g.length (fm g) (λv=>gj g f cnt (f v)) cnt:=by
 obtain ⟨N,h2⟩:=Lw (LS g f cnt) (fz (VQ f g.length cnt));have W:iJ (LS g f cnt) (fz (VQ f g.length cnt))=ii g f cnt:=rfl;rw[W] at N h2;have hM:∀c,gj g f cnt c=Df (ii g f cnt) (ii g f cnt).length c:=λ_=>rfl;have r:=ma hg.gb h (K:=fz (VQ f g.length cnt)) h2;obtain ⟨C,o⟩:=JU N;have z:(LS g f cnt).length=cnt:=by rw[LS,VG]
 rw[z] at o
 obtain ⟨b,A⟩:∃b,ii g f cnt=b:=⟨_,Z⟩
 rw[A] at N h2 r C o;simp only[A] at hM
 have hlen:b.length=cnt:=Nat.le_antisymm (by have:=DJ C (m:=List.range cnt) λx T=>Ψ.2 (o x T);rwa [iF] at this)
  (by have:=DJ (List.nodup_range (n:=cnt)) (m:=b) λx T=>r x (Ψ.1 T);rwa [iF] at this)
 have G:∀k,k<cnt->gj g f cnt (fz b k)=k:=λk t=>by rw[hM];exact X5 C _ (Γ _) k (by omega)
 have l:∀c,c<cnt->∃k,k<cnt/\fz b k=c/\gj g f cnt c=k:=λc F=>by
  obtain ⟨k,t,rfl⟩:=jC.1 (r c F)
  grind[QC]
 have J:∀c d,c<cnt->c<=gj g f cnt d->d<cnt->d∉b.take c:=λc d F hcd hd hm=>by
  obtain ⟨k,t,e⟩:=jC.1 hm;rw[ϱ] at t;rw[List.getElem_take,<-QC (by omega)] at e
  grind
 refine ⟨λv B=>?_,λi j s hj=>?_,λc F=>?_,λu v V B he=>?_,λc F i s E hcr=>?_⟩
 .obtain ⟨k,t,_,e⟩:=l (f v) (h.lt v B);omega
 .rw[<-h.scc i j s hj]
  constructor
  .intro e;obtain ⟨k,_,O,e2⟩:=l (f i) (h.lt i s);obtain ⟨m,_,R,e4⟩:=l (f j) (h.lt j hj);have e:gj g f cnt (f i)=gj g f cnt (f j):=e;rw[<-O,<-R,show k=m by omega]
  .intro e;show gj g f cnt (f i)=gj g f cnt (f j);rw[e]
 .obtain ⟨v,B,e⟩:=h.use (fz b c) (o _ (Du (by omega)));exact ⟨v,B,by show gj g f cnt (f v)=c;rw[e];exact G c F⟩
 .show gj g f cnt (f u)<=gj g f cnt (f v)
  by_cases e:f u=f v
  .rw[e];exact Γ _
  .obtain ⟨p,hp,O,e2⟩:=l (f v) (h.lt v B);have w:=(N p (by omega)).1;rw[O] at w;have D:f u∈b.take p:=Classical.byContradiction λhn=>w.2.2 (f u) (by rw[z];exact h.lt u V) hn ((SL (h.lt u V)).2 ⟨u,V,Z,v,he,e,Z⟩);obtain ⟨k,t,R⟩:=jC.1 D;rw[ϱ] at t;rw[List.getElem_take,<-QC (by omega)] at R;rw[<-R,G k (by omega),e2];omega
 .have E:c<=gj g f cnt (f i):=E
  have w:DM (LS g f cnt) (b.take c) (f i):=by
   refine ⟨by rw[z];exact h.lt i s,J c _ F E (h.lt i s),λk t Y D=>?_⟩;rw[z] at t;obtain ⟨a,Q,rfl,y,hy,X,I⟩:=(SL t).1 D;have S:=hg.gb.suc Q hy
   have hca:c<=gj g f cnt (f a):=by
    rcases Nat.lt_or_ge (gj g f cnt (f a)) c with hl | hl
    .obtain ⟨m,hm,O,e2⟩:=l (f a) (h.lt a Q);exact (Y (jC.2 ⟨m,by rw[ϱ];omega,by rw[List.getElem_take,<-QC (by omega)];exact O⟩)).elim
    .exact hl
   have H:=(h.scc y i S s).1 I;have M:Rh (fm g) a i:=(Rh.one hy).trans H.1;have:=(h.scc a i Q s).2 ⟨M,hcr a Q hca M⟩;exact X (by rw[this,I])
  have hK:=(N c (by omega)).2 _ w;have L:fz b c<cnt:=o _ (Du (by omega));rw[N9 L,N9 (h.lt i s)] at hK;obtain ⟨v,B,U⟩:=h.use _ L;obtain ⟨q1,q2,_⟩:=Ih f g.length g.length (Γ _) (fz b c) ⟨v,by omega,B,U⟩;obtain ⟨_,_,q3⟩:=Ih f g.length g.length (Γ _) (f i) ⟨i,by omega,s,Z⟩;exact ⟨_,q2,by show gj g f cnt (f _)=c;rw[q1];exact G c F,gY hK (q3 i (by omega) s Z)⟩
abbrev Xp(l:List Int):D:= .sl none (l.map AF)
abbrev oX(g:List (List Int)):D:= .sl none (g.map Xp)
def Lb(g:List (List Int))(i:Nat):Nat:=((g.take i).map List.length).sum
def aG(n:Nat)(l:List Int):Prop:=∃x∈l,¬(0<=x/\x<(n:Int))
instance (n:Nat) (l:List Int):Decidable (aG n l):=inferInstanceAs (Decidable (∃x∈l,¬(0<=x/\x<(n:Int))))
def Uq(g:List (List Int)):Int:=if 65536<g.length\/1048576<Lb g g.length then 8 else if ∃l∈g,aG g.length l then 2 else 0
theorem La(a:s<h.length):Lb h (s+1)=Lb h s+h[s].length:=by
 unfold Lb;rw[ψ a,Ω,ji];simp
theorem Wp{g:List (List Int)}(h:∀l∈g,l.length<=2000000):∀i,i<=g.length->Lb g i<=i*2000000
 | 0,_=>by simp[Lb]
 | i+1,a=>by
  have:=Wp h i (by omega);have:=h g[i] (ϑ (by omega));rw[La (by omega)];omega
theorem vH{l:List Int}(h:k<l.length):(l.map AF)[k]? =some (AF l[k]):=A1 h
theorem oY(a:s<h.length):(h.map Xp)[s]? =some (Xp h[s]):=A1 a
theorem tp(a:65536<h.length\/1048576<Lb h h.length):(8:Int)=Uq h:=by unfold Uq;rw[ς a]
theorem tq(c:¬65536<h.length)(b:¬1048576<Lb h h.length)(a:∃l∈h,aG h.length l):(2:Int)=Uq h:=by grind[Uq]
theorem tr(c:¬65536<h.length)(b:¬1048576<Lb h h.length)(a:¬∃l∈h,aG h.length l):(0:Int)=Uq h:=by grind[Uq]
theorem fO(g:List (List Int))(R:g.length<=1000000)(w:∀l∈g,l.length<=2000000):AL prog 133 [.d (oX g)] (AF (Uq g)):=by
 refine Av func133 Z Z ntmps133 Z Z Z λF V=>(AC (AE (AB Z Z (AD (AC (AE (AB Z Z (AD ?_))))))));refine AC (AC (AE (ek Z Z (J (Jd Z (χ ..) S1 Z) (ek Z Z (AD (AZ (Gi (α:=Nat) (λk=>⟨50,[(0,.d (oX g)),(3,(.d (AT (Lb g k)))),(10,(.d (oX g))),(11,(.d (AT g.length))),(12,(.d (AT k)))],[]⟩) (λk=>k<=g.length) (λk=>g.length-k) (0) (ζ _) (aV ⟨Z,Z,Z,Z,Z,trivial⟩) ?_))))))));intro k S;refine AC (AE (J (Az Z Z Z) (AD (AC (A6 Z (λs=>?_) (λs=>?_))))))
 .refine AW (AC (AZ (AC ?_)));have c:k<g.length:=BQ s;have Q:=Wp w k (by omega);have B:=w _ (ϑ c);have O:=La c;refine AE (J (BC (k) Z Z (Z) (oY c) S1 Z DD Z) (J (CG Z Z BH Z) (AB Z Z (AD (AE (ek Z Z (ek Z Z ?_)))))));refine J (Jd Z (χ ..) E0 Z) (J (Aj Z Z (Ξ _ (by omega)) Z) (Pq 19 (.d (AT (Lb g (k+1)))) Z (eqv (gV AF (by omega))) (AB Z Z (AD (AE (J (Aj Z Z (Ξ _ (by omega)) Z) (ek Z Z (AD ?_))))))));exact ⟨k+1,by omega,by omega,⟨Z,Z,λ_ _=>Sd.get (l:=[(0,_),(3,_),(10,_),(11,_),(12,_)]) ⟨Z,Z,Z,Z,Z,trivial⟩⟩⟩
 .refine Aw (AC (AC ?_));have E:k=g.length:=by have:=s;omega
  subst E;refine AE (ek Z Z (J (Jd Z (χ ..) S1 Z) (J (HV Z Z Z) (ek Z Z (CU 24 Z (λM=>?_) (λM=>?_))))))
  .refine AI Z Z Z Z ?_;refine AI Z Z Z Z (J (BZ Z Z Z Z) (AD (Bw Z Z (AC (AE (AB Z Z (AD (A2 ?_))))))));exact ⟨_,[],[],A0 Z,Z,Z,eqv (gV AF (tp (by omega))),Z⟩
  .refine AQ Z Z Z (ek Z Z (AQ Z Z Z (J (HV Z Z Z) (J (Be Z Z Z Z) (AD (A6 Z (λL=>?_) (λL=>?_)))))))
   .refine AC (AE (AB Z Z (AD (A2 ?_))));exact ⟨_,[],[],A0 Z,Z,Z,eqv (gV AF (tp (by omega))),Z⟩
   .refine AW (AC (AC ?_));have h:¬65536<g.length:=by omega
    have f:¬1048576<Lb g g.length:=by omega
    refine AE (ek Z Z (J (Jd Z (χ ..) S1 Z) (ek Z Z (AD (AZ (Gi (α:=Nat) (λi=>⟨50,[(0,.d (oX g)),(28,(.d (oX g))),(29,(.d (AT g.length))),(30,(.d (AT i)))],[]⟩) (λi=>i<=g.length/\∀l∈g.take i,¬aG g.length l) (λi=>g.length-i) (0) (⟨ζ _,λl w=>by simp at w⟩) (aV ⟨Z,Z,Z,Z,trivial⟩) ?_))))));rintro i ⟨U,N⟩;refine AC (AE (J (Az Z Z Z) (AD (AC (A6 Z (λr=>?_) (λr=>?_))))))
    .refine AW (AC (AZ (AC ?_)));have a:i<g.length:=BQ r;have B:=w _ (ϑ a);refine AE (J (BC (i) Z Z (Z) (oY a) S1 Z DD Z) (J (CG Z Z BH Z) (AB Z Z ?_)));refine AD (AC (AE (ek Z Z (J (Jd Z (χ ..) E0 Z) (ek Z Z (AD (AZ (Gi (α:=Nat) (λj=>⟨50,[(0,.d (oX g)),(28,(.d (oX g))),(29,(.d (AT g.length))),(30,(.d (AT i))),(34,(.d (Xp g[i]))),(35,(.d (AT g[i].length))),(36,(.d (AT j)))],[]⟩) (λj=>j<=g[i].length/\∀x∈g[i].take j,0<=x/\x<(g.length:Int)) (λj=>g[i].length-j) (0) (⟨ζ _,λx y=>by simp at y⟩) (aV ⟨Z,Z,Z,Z,Z,Z,Z,trivial⟩) ?_))))))));rintro j ⟨T,y⟩;refine AC (AE (J (Az Z Z Z) (AD (AC (A6 Z (λo=>?_) (λo=>?_))))))
     .refine AW (AC (AZ (AC ?_)));have b:j<g[i].length:=BQ o;refine AE (J (BC (j) Z Z (Z) (vH b) E0 Z BW Z) ?_);refine J (CG Z Z Am Z) (AB Z Z (AD (AC (AE (ek Z Z (J (Az Z Z Z) (ek Z Z (CU 42 Z (λK=>?_) (λK=>?_)))))))))
      .refine AI Z Z Z Z (AI Z Z Z Z (AI Z Z Z Z ?_));refine AI Z Z Z Z (J (BZ Z Z Z Z) (AD (Bw Z Z (AC (AE (AB Z Z (AD (A2 ?_))))))));exact ⟨_,[],[],A0 Z,Z,Z,eqv (gV AF (tq h f ⟨g[i],ϑ a,g[i][j],ϑ b,by omega⟩)),Z⟩
      .refine AQ Z Z Z (ek Z Z ?_);refine AQ Z Z Z (ek Z Z (AQ Z Z Z (J (Jd Z (χ ..) S1 Z) (AQ Z Z Z (J (EN Z Z Z) (J (Be Z Z Z Z) (AD (A6 Z (λI=>?_) (λI=>?_)))))))))
       .refine AC (AE (AB Z Z (AD (A2 ?_))));exact ⟨_,[],[],A0 Z,Z,Z,eqv (gV AF (tq h f ⟨g[i],ϑ a,g[i][j],ϑ b,by omega⟩)),Z⟩
       .refine AW (AE (J (Aj Z Z (Ξ _ (by omega)) Z) (ek Z Z (AD ?_))));exact ⟨j+1,⟨by omega,λx t=>by rw[ψ b] at t;exact (ϖ.1 t).elim (y x) λe=>by rw[θ.1 e];exact ⟨by omega,by omega⟩⟩,by omega,⟨Z,Z,λ_ _=>Sd.get (l:=[(0,_),(28,_),(29,_),(30,_),(34,_),(35,_),(36,_)]) ⟨Z,Z,Z,Z,Z,Z,Z,trivial⟩⟩⟩
     .refine Aw ?_;have G:j=g[i].length:=by have:=o;omega
      have u:¬aG g.length g[i]:=λ⟨x,A,z⟩=>z (y x (by rw[G,gy];exact A));refine AE (J (Aj Z Z (Ξ _ (by omega)) Z) (ek Z Z (AD ?_)));exact ⟨i+1,⟨by omega,λl v=>by rw[ψ a] at v;exact (ϖ.1 v).elim (N l) λe=>by rw[θ.1 e];exact u⟩,by omega,⟨Z,Z,λ_ _=>Sd.get (l:=[(0,_),(28,_),(29,_),(30,_)]) ⟨Z,Z,Z,Z,trivial⟩⟩⟩
    .refine Aw (AC (AE (AB Z Z (AD (A2 ?_)))));have H:i=g.length:=by have:=r;omega
     exact ⟨_,[],[],A0 Z,Z,Z,eqv (gV AF (tr h f (λ⟨l,D,C⟩=>N l (by rw[H,gy];exact D) C))),Z⟩
theorem Wt(h:TB c a t S j w k)(o:k=(a w).length)(s:S.low w≠S.idx w):
  ∃b u f,j=b++ [(u,f)]/\TH c a t {S with low:=BJ S.low u (min (S.low u) (S.low w)),cs:=j} none:=by
 subst o;have g:=V5 h;have l:=(h.ti.lw w g.2.1).1;obtain ⟨b,u,f,e,i⟩:=kf h.ti h.hcs (by omega);exact ⟨b,u,f,e,i,h.k1,h.old,.inl h.rt⟩
theorem Ws{gS gR:List Nat}(h:TB c a t S j w k)(o:k=(a w).length)(l:S.low w=S.idx w)(g:S.st=gS++w::gR):
  TH c a t {S with of:=λx=>if x∈w::gR then (S.cnt:Int) else S.of x,st:=gS,cs:=j,cnt:=S.cnt+1} none/\∀b u f,j=b++ [(u,f)]->BJ S.low u (min (S.low u) (S.low w))=S.low:=by
 subst o;obtain ⟨y,s⟩:=ke h.ti h.hcs l g;refine ⟨⟨s,h.k1,h.old,.inl h.rt⟩,λb u f e=>funext λx=>?_⟩
 by_cases i:x=u
 .subst i;have:=y (x,f) (by rw[e];exact jN _ (θ.2 Z));rw[L6]
  grind
 .rw[HX i]
theorem ow{b:Nat}(h:TB c a t S (y++ [(H,b)]) w k):H<c/\w≠H:=by
 have g:(H,b)∈S.cs:=by rw[h.hcs];exact j7 _ (jN _ (θ.2 Z))
 refine ⟨h.ti.lt H ((h.ti.st H).1 (h.ti.csm _ g)).1,λe=>?_⟩;have f:=h.ti.css;rw[h.hcs] at f
 grind
theorem bA{gS gR:List Nat}(h:TI c a S o)(b:S.st=gS++w::gR):w∉gR:=by
 have f:=h.srt;rw[b,List.pairwise_append] at f;intro g;exact jz _ ((jQ.1 f.2.1).1 w g)
theorem tg{m j:List (Nat×Nat)}{x:Nat×Nat}(h:k=C.length):((C++ [x]++m++j).map Zq)[k]? =some (Zq x):=by
 subst h;simp
theorem vG{a c j:List Nat}(h:k=(a++c).length):((a++(c++ [F])++j).map AT)[k]? =some (AT F):=by grind
theorem tH:(IP c (λx=>if x∈E then (B:Int) else A x)).set F (AT B)=IP c (λx=>if x∈F::E then (B:Int) else A x):=by grind[NX]
theorem cN{a gR:List Nat}(h:a++ [F]++E=w::gR)(b:F≠w):a++F::E=w::gR/\a≠ []:=by grind
theorem lL{b gR:List Nat}(h:b++ [F]++E=w::gR)(f:F=w)(g:w∉gR):b=[]/\E=gR:=by
 subst f
 cases b with
 | nil=>simp at h;exact ⟨Z,h⟩
 | cons a c=>
  grind
theorem RA{c:Type}{l:List c}(h:l≠ []):∃a b,l=a++ [b]:=by
 rcases List.eq_nil_or_concat l with e | ⟨a,b,e⟩
 .grind
 grind
theorem kj{g:List Nat}(h:TH c a t S o)(l:S.cs=j++ [(w,k)]/\o=none)(i:∃f,g=S.st++f):
  ∃b:TS,mu c a b=mu c a S/\TB c a t b j w k/\S.idx=b.idx/\S.low=b.low/\S.of=b.of/\S.st.length=b.st.length/\S.cnt=b.cnt/\S.clk=b.clk/\∃f,g=b.st++f:=by grind[ox]
theorem bS(h:TI c a S o):S.st.length<=c:=by
 have:=h.num;have:=(Sp h).1;omega
theorem Tf{f:Nat->Nat}(h:∀v,v<s->f v≠0)(a:f s≠0):∀v,v<s+1->f v≠0:=by grind
theorem ki(h:TI c a S none)(g:S.cs=[])(j:s<c)(l:S.idx s=0)(b:∀v,v<s->S.idx v≠0):TH c a s S (some s):=
 ⟨kd h g j l,λf k=>(by rw[g] at k;cases k),b,.inr Z⟩
theorem tj(h:TI c a S o)(e:S.cs++pend o=C):C.length<=c+1:=by
 have f:=(Sp h).2;have b:=bS h;rw[<-e,Δ];have:(pend o).length<=1:=by cases o<;>simp[pend]
 omega
theorem ay(h:TH c a t S o)(b:S.cs++pend o=[]):TI c a S none/\S.cs=[]/\S.idx t≠0:=by
 cases o with
 | some v=>simp[pend] at b
 | none=>exact ⟨h.ti,by simpa [pend] using b,h.rt.resolve_right λe=>by cases e⟩
structure PF (n:Nat) (suc:Nat->List Nat) (r:Nat) (S:TS) (cs0:List (Nat×Nat)) (v:Nat) (low:Nat->Nat):Prop where
 a:low v=S.low v
 b:low v≠S.idx v->TH n suc r {S with low:=low,cs:=cs0} none
 c:∀gS gR,low v=S.idx v->S.st=gS++v::gR->TH n suc r {S with low:=low,of:=λx=>if x∈v::gR then (S.cnt:Int) else S.of x,st:=gS,cs:=cs0,cnt:=S.cnt+1} none
theorem lQ{j:Nat}(h:TB c a t S (y++ [(H,j)]) w k)(l:k=(a w).length)(f:w≠H):
  ∃b,BJ S.low H (min (S.low H) (S.low w))=b/\PF c a t S (y++ [(H,j)]) w b:=by
 refine ⟨_,Z,⟨HX f,λi=>?_,λgS gR i g=>?_⟩⟩
 .grind[HX,Wt,List.append_inj_right']
 .rw[HX f] at i;obtain ⟨s,o⟩:=Ws h l i g
  grind
theorem lR(h:TB c a t S j w k)(i:k=(a w).length)(x:j=[]):
  ∃b,S.low=b/\PF c a t S j w b:=by
 refine ⟨_,Z,⟨Z,λg=>?_,λgS gR g f=>(Ws h i g f).1⟩⟩;obtain ⟨o,s,l,e,u⟩:=Wt h i g
 simp_all
theorem oq(a:∀v,v<k->A v= -1):∀v,v<k+1->BJ A k (-1) v= -1:=by grind[L6,HX]
theorem Uf(g:List (List Nat))(hg:GB g):AP prog 180 [.d (Ms g)] [] λr H'=>∃of cnt,iL g.length (fm g) of cnt/\r= .tup [.own 2 0 g.length,.d (AT cnt)]/\H'=[(2,[.rowD 3 1 (rowN g.length of)])]:=by
 have hn:=hg.n;refine Av func180 Z Z ntmps180 Z Z Z λF Q=>(AC (AE (AB Z Z (AB Z Z (AD (AC (AE (ek Z Z ?_))))))));refine J (Jd Z (χ ..) S1 Z) (AB Z Z (AD (AC (CK [[],[0],[],[2],[],[4],[0,1],[0,1,2,3,6],rg 8] mixed Z (By (Ap 4 Z Z (F6 [21] [0] [(22,_)] Z Z (λ_=>F7 (FL 0 BR Z Z Z (by omega) oj Z Z Z Z)) (.inr ⟨22,_,Z,Z,Z,Z,Z⟩) Z Z Z Z Z (Ap 4 Z Z ?_))))))));refine F6 [23] [1] [(24,_)] Z Z (λ_=>F7 (FL 1 BR Z Z Z (by omega) oj Z Z Z Z)) (.inr ⟨24,_,Z,Z,Z,Z,Z⟩) Z Z Z Z Z (Ap 4 Z Z (F6 [25] [2] [(26,_)] Z Z (λ_=>F7 (FL 2 BR Z Z Z (by omega) oj Z Z Z Z)) (.inr ⟨26,_,Z,Z,Z,Z,Z⟩) Z Z Z Z Z (AR [22] Z (JK Z Z) (AR [24] Z (JK Z Z) (Bu 8 Z Z Z (Ab 9 Z Z (AB Z Z (AD ⟨Z,?_⟩))))))));refine Bz (AC (AC ?_));rw[uc];refine AE (ek Z Z (J (RL Z E0 Z) (ek Z Z (AD (AZ (BM (α:=Nat×(Nat->Int)) (λq=>⟨214,[(0,.d (Ms g)),(5,(.own 0 0 g.length)),(6,(.own 1 0 g.length)),(7,(.own 2 0 g.length)),(28,(.d (AT g.length))),(29,(.d (AT q.1)))],[(0,[.rowD 3 1 (IP g.length λ_=>0)]),(1,[.rowD 3 1 (IP g.length λ_=>0)]),(2,[.rowD 3 1 (IP g.length q.2)])]⟩) (λq=>q.1<=g.length/\∀v,v<q.1->q.2 v= -1) (λq=>g.length-q.1) ((0,λ_=>0)) (⟨ζ _,λv h=>absurd h (Nat.not_lt_zero _)⟩) (AX Q [0,1,2] Z Z ⟨Z,Z,Z,Z,Z,Z,trivial⟩) ?_))))));rintro ⟨k,f⟩ ⟨hk,hf⟩;dsimp only at hk hf⊢;refine AC (AE (J (Az Z Z Z) (AD (AC (A6 Z (λh30=>?_) (λh30=>?_))))))
 .refine AW (AC (AZ (AC ?_)));have A:k<g.length:=BQ h30;refine AE (ek Z Z (AB Z Z (AD (AE ?_))));refine ek Z Z (ek Z Z (J (DB (k) Z Z (Z) (A) Z E0 BW Z) (V (YR Z Z Z Z Z (by rw[TK];exact A) bu Z BW) (AD (AE (J (Aj Z Z (Ξ _ (by omega)) Z) (ek Z Z (AD ?_))))))));exact ⟨(k+1,BJ f k (-1)),⟨A,oq hf⟩,by show g.length-(k+1)<g.length-k;omega,AX Q [0,1,2] Z (Z) ⟨Z,Z,Z,Z,Z,Z,trivial⟩⟩
 .refine Aw (AC ?_);have hke:k=g.length:=by have:=h30;omega
  subst hke;have hfe:IP g.length f=IP g.length (λ_=> -1):=hQ λv hv=>by rw[hf v (Ψ.1 hv)]
  rw[hfe];refine AE (AB Z Z ?_);skip;refine AD (AC (AE (AB Z Z (AB Z Z (AD (AC ?_))))));refine AC (AE (ek Z Z (J (Jd Z (χ ..) S1 Z) (ek Z Z (AD (AZ (NF 9 3 BR Z Z Z Z (BM (α:=Nat×TS×List Nat) (λq=>⟨214,[(0,.d (Ms g)),(5,(.own 0 0 g.length)),(6,(.own 1 0 g.length)),(7,(.own 2 0 g.length)),(9,(.own 3 0 q.2.1.st.length)),(10,(.d (AT q.2.1.cnt))),(11,(.d (AT q.2.1.clk))),(37,(.d (AT g.length))),(38,(.d (AT q.1)))],[(0,[.rowD 3 1 (rowN g.length q.2.1.idx)]),(1,[.rowD 3 1 (rowN g.length q.2.1.low)]),(2,[.rowD 3 1 (IP g.length q.2.1.of)]),(3,[.rowD 3 1 (q.2.2.map AT)])]⟩) (λq=>q.1<=g.length/\TI g.length (fm g) q.2.1 none/\q.2.1.cs=[]/\(∀v,v<q.1->q.2.1.idx v≠0)/\∃W,q.2.2=q.2.1.st++W) (λq=>g.length-q.1) ((0,⟨λ_=>0,λ_=>0,λ_=> -1,[],[],0,0⟩,[])) (⟨ζ _,kc _ _,Z,λv h=>absurd h (Nat.not_lt_zero _),[],Z⟩) (AX Q [0,1,2,3] Z Z ⟨Z,Z,Z,Z,Z,Z,Z,Z,Z,trivial⟩) ?_))))))));rintro ⟨i,S,E⟩ ⟨hi,hti,hcs,I,C⟩;dsimp only at hi hti hcs I C⊢;refine AC (AE (J (Az Z Z Z) (AD (AC (A6 Z (λh39=>?_) (λh39=>?_))))))
  .refine AW (AC (AZ (AC ?_)));have hil:i<g.length:=BQ h39;refine AE (ek Z Z (AB Z Z (AD (AC ?_))));refine AC (AE (ek Z Z (ek Z Z (J (DB (i) Z Z (Z) (hil) Z E0 BW Z) (J (EC Z Z (Np hil) Z Am Z) (J (C6 Z Z Z) (AD (A6 Z (λh45=>?_) (λh45=>?_)))))))))
   .refine Aw ?_
    first | have hE:=ay y (hfr▸List.length_eq_zero_iff.1 (by omega)) | skip
    refine AE (J (Aj Z Z (Ξ _ (by omega)) Z) (ek Z Z (AD ?_)));exact ⟨(i+1,S,E),⟨hil,hti,hcs,Tf I (λe2=>h45 (gV Int.ofNat e2)),C⟩,by show g.length-(i+1)<g.length-i;omega,AX Q [0,1,2,3] Z (Z) ⟨Z,Z,Z,Z,Z,Z,Z,Z,Z,trivial⟩⟩
   .refine AW (AC ?_);have h0:S.idx i=0:=Int.ofNat.inj (Classical.not_not.1 h45);refine AE (ek Z Z (J (E5 ng oL Z Z Z) (V (C1 4 b6 Z Z Z Z Z Z Z Z) (AB Z Z (AD (AZ (BM (α:=TS×Option Nat×List (Nat×Nat)×List Nat×List (Nat×Nat)) (λq=>⟨214,[(0,.d (Ms g)),(5,(.own 0 0 g.length)),(6,(.own 1 0 g.length)),(7,(.own 2 0 g.length)),(9,(.own 3 0 q.1.st.length)),(10,(.d (AT q.1.cnt))),(11,(.d (AT q.1.clk))),(13,(.own 4 0 q.2.2.1.length)),(37,(.d (AT g.length))),(38,(.d (AT i)))],[(0,[.rowD 3 1 (rowN g.length q.1.idx)]),(1,[.rowD 3 1 (rowN g.length q.1.low)]),(2,[.rowD 3 1 (IP g.length q.1.of)]),(3,[.rowD 3 1 (q.2.2.2.1.map AT)]),(4,[.rowD 318 2 (q.2.2.2.2.map Zq)])]⟩) (λq=>TH g.length (fm g) i q.1 q.2.1/\q.2.2.1=q.1.cs++pend q.2.1/\(∃W,q.2.2.2.1=q.1.st++W)/\∃U,q.2.2.2.2=q.2.2.1++U) (λq=>mu g.length (fm g) q.1) ((S,some i,[(i,0)],E,[(i,0)])) (⟨ki hti hcs hil h0 I,by rw[hcs];rfl,C,[],Z⟩) (AX Q [0,1,2,3,4] Z Z ⟨Z,Z,Z,Z,Z,Z,Z,Z,Z,Z,trivial⟩) ?_)))))));rintro ⟨S,p,fr,E,r4⟩ ⟨y,hfr,C,U,hr4⟩;dsimp only at y hfr C hr4⊢;have hclk:=Sp y.ti;refine AC (AC (AE (ek Z Z (J (RL Z ea Z) (J (HV Z Z Z) (AD (A6 Z (λh51=>?_) (λh51=>?_))))))))
    .refine AW (AZ (AC ?_));have hne:S.cs++pend p≠ []:=λe=>by rw[hfr,e] at h51;exact absurd h51 (by decide)
     obtain ⟨o,v,k,hcs2,s,hk0,hk1⟩:=kh y hne;have hfrl:=tj y.ti hcs2;have hfr2:=hfr.trans hcs2;subst hfr2;have hlen1:(((o++ [(v,k)]).length:Nat):Int)-1=(o.length:Int):=by simp
     have hlen2:o.length<(o++ [(v,k)]).length:=by simp
     subst hr4;refine AE (ek Z Z (ek Z Z (J (RL Z ea Z) (J (P4 Z Z (Ξ _ (by omega)) Z) (J (DB (o.length) Z Z (hlen1) (hlen2) Z ea bC Z) (AB Z Z (AD (AC ?_))))))));refine AC (AE (ek Z Z (J (aP Z Z) (J (YU Z LC Z Z Z) (J (EC Z Z (MN Z) Z Am Z) (J (GR Z Z Z) (AD (A6 Z (λh61=>?_) (λh61=>?_)))))))));refine AC ?_;obtain ⟨hcs3,hp3⟩:=hk0 (Int.ofNat.inj h61);have hcl:=hclk.1;refine AE (ek Z Z (J (Aj Z Z (Ξ _ (by omega)) Z) (Pq 63 (.d (AT (S.clk+1))) Z (eqv (gV AF (by omega))) (AB Z Z (AD (AC (CK [[],[],[1],[1,2],[1,2,3],[],[],[6],[6,7],[6,7,8],[],[],[0,1,2,3,4,6,7,8,9,10],[0,1,2,3,4,6,7,8,9,10,12],rg 14,rg 15] mixed Z (By ?_))))))));refine Ap 5 Z Z (Ap 14 Z Z (AR [65] Z (aP Z Z) (AR [66] Z (YU Z FQ Z Z Z) (Ao [67] Z Z (λ_=>Aa (EC Z Z (MN Z) Z Am Z)) (Ap 6 Z Z (Ap 14 Z Z (AR [70] Z (aP Z Z) (AR [71] Z (YU Z FQ Z Z Z) ?_))))))));refine Ao [72] Z Z (λ_=>Aa (EC Z Z (MN Z) Z Am Z)) (Ap 11 Z Z (Ap 11 Z Z (Ao [64,68] Z Z (λ_=>Aa (DB (v) Z Z (Z) (s) Z E0 BW Z)) (F6 [76,74] [0] [] Z Z (λ_=>F7 (YR Z Z Z Z Z (by rw[Dm];exact s) Dl Z BW)) (.inl ⟨Z,Z⟩) Z Z Z Z Z (Bu 14 Z Z Z (Ab 15 Z Z (J (DB (v) Z Z (Z) (s) Z E0 BW Z) (AD ⟨Z,?_⟩))))))));refine Ab 16 Z Z (V (YR Z Z Z Z Z (by rw[Dm];exact s) Dl Z BW) (AD ⟨Z,?_⟩));refine Bz ?_;obtain ⟨W,M⟩:=C;subst M;have hstl:=bS y.ti;refine AE (ek Z Z (ek Z Z (J (aP Z Z) (J (YU Z FQ Z Z Z) (J (EC Z Z (MN Z) Z Am Z) (V (C1 21 BR Z Z Z Z Z Z Z Z) (V (H6 Z Z Z (by simp) Z Z (by simp) BR (by omega) Z Z (np S.st W) Z Z) (AB Z Z ?_))))))));subst hp3;have X:=az y;have hmu0:mu g.length (fm g) _=mu g.length (fm g) S:=dB (S:=S) (l:=BJ S.low v (S.clk+1)) (st:=S.st++ [v]) (c:=S.clk+1) s (y.ti.pnd v Z).2.1
     obtain ⟨a,D⟩:∃a:TS,a=⟨BJ S.idx v (S.clk+1),BJ S.low v (S.clk+1),S.of,S.st++ [v],S.cs++ [(v,0)],S.cnt,S.clk+1⟩:=⟨_,Z⟩
     have e1:BJ S.idx v (S.clk+1)=a.idx:=by rw[D]
     have e2:BJ S.low v (S.clk+1)=a.low:=by rw[D]
     have e3:S.of=a.of:=by rw[D]
     have e4:S.st.length+1=a.st.length:=by rw[D];simp
     have e5:S.cnt=a.cnt:=by rw[D]
     have e6:S.clk+1=a.clk:=by rw[D]
     have z:∃W,S.st++ [v]=a.st++W:=⟨[],by rw[D,iR]⟩
     obtain ⟨E,hr3e⟩:∃E,S.st++ [v]=E:=⟨_,Z⟩
     rw[<-D] at X hmu0;rw[e1,e2,e3,e4,e5,e6,hr3e];rw[hr3e] at z;have N:=hmu0;have b:TB g.length (fm g) i a o v k:=by rw[hcs3,<-Int.ofNat.inj h61] at X;exact X
     refine AD ?_
     rotate_left
     obtain ⟨a,N,b,e1,e2,e3,e4,e5,e6,z⟩:=kj y (hk1 λe=>h61 (gV Int.ofNat e)) C;rw[e1,e2,e3,e4,e5,e6];refine AW ?_
     all_goals
      refine AC (AC ?_);refine CK [[],[0],[0,1],[0,1,2],[],[],[5],[5,6],[5,6,7],[4,5,6,7,8],[4,5,6,7,8,9],[4,5,6,7,8,9,10],rg 12] mixed Z (By (Ap 14 Z Z (AR [85] Z (aP Z Z) (AR [86] Z (YU Z LC Z Z Z) (Ao [87] Z Z (λ_=>Aa (EC Z Z (MN Z) Z Am Z)) (Ap 0 Z Z (Ap 14 Z Z (AR [90] Z (aP Z Z) ?_))))))));refine AR [91] Z (YU Z FQ Z Z Z) (Ao [92] Z Z (λ_=>Aa (EC Z Z (MN Z) Z Am Z)) (AR [89,93] Z (BC (v) Z Z (Z) (Zo s) S1 Z DD Z) (AR [94] Z (CG Z Z BH Z) (AR [95] Z (Jd Z (χ ..) E0 Z) (Bu 12 Z Z Z (Ab 13 Z Z (J (Az Z Z Z) (AD ⟨Z,?_⟩))))))));refine Bz (A6 Z (λh97=>?_) (λh97=>?_))
      .refine AC ?_;have A:k<(fm g v).length:=BQ h97;have B:fz (fm g v) k<g.length:=hg.suc s (Du A);have hgn:=Ow A;have hjk:(fm g v)[k]? =some (fz (fm g v) k):=cq A
       obtain ⟨j,hje⟩:∃j,fz (fm g v) k=j:=⟨_,Z⟩
       rw[hje] at B hgn hjk;have hsl:=hg.len s;refine CK [[],[],[1],[1,2],[1,2,3],rg 5,rg 6,[],[7],[7,8],[7,8,9],rg 11,rg 12,rg 13] mixed Z (By (Ap 0 Z Z (Ap 14 Z Z (AR [99] Z (aP Z Z) (AR [100] Z (YU Z FQ Z Z Z) (Ao [101] Z Z (λ_=>Aa (EC Z Z (MN Z) Z Am Z)) (AR [98,102] Z (BC (v) Z Z (Z) (Zo s) S1 Z DD Z) ?_)))))));refine AR [103] Z (CG Z Z BH Z) (Ap 14 Z Z (AR [105] Z (aP Z Z) (AR [106] Z (YU Z LC Z Z Z) (Ao [107] Z Z (λ_=>Aa (EC Z Z (MN Z) Z Am Z)) (Bu 11 Z Z Z (Ab 12 Z Z (J (BC (k) Z Z (Z) (hgn) E0 Z BW Z) (AD ⟨Z,?_⟩))))))));refine Ab 13 Z Z (J (CG Z Z Am Z) (AD ⟨Z,?_⟩));refine Ab 14 Z Z (AB Z Z (AD ⟨Z,?_⟩));refine Bz (AC (AE (ek Z Z (J (aP Z Z) (J (YU Z LC Z Z Z) ?_)))));refine J (EC Z Z (MN Z) Z Am Z) (J (Aj Z Z (Ξ _ (by omega)) Z) (Pq 115 (.d (AT (k+1))) Z (eqv (gV AF (by omega))) (J (aP Z Z) (J (YU Z LC Z Z Z) (V (QL (z':=Zq (v,k+1)) Z Z Z Z (MN Z) Z (Γ 2) (u8 Z) Z Z BW) (AD (AC (AC ?_))))))));rw[show (o++ [(v,k)]).length=(o++ [(v,k+1)]).length by simp] at hfrl⊢;refine AE (ek Z Z (ek Z Z (J (DB (j) Z Z (Z) (B) Z E0 BW Z) (J (EC Z Z (Np B) Z Am Z) (J (GR Z Z Z) (AD (A6 Z (λL=>?_) (λL=>?_))))))))
       .refine AE ?_;refine ek Z Z (ek Z Z (J (E5 ng oL Z Z Z) (V (C1 22 b6 Z Z Z Z Z Z Z Z) (V (H6 Z Z Z (by simp) Z Z (by simp) b6 (by omega) Z Z (sK (x:=(j,0)) (o++ [(v,k+1)]) U) Z Z) (Pq 127 (.own 4 0 (o++ [(v,k+1)]++ [(j,0)]).length) Z (by simp) (AB Z Z (AD (Aw ?_))))))));exact ⟨(⟨a.idx,a.low,a.of,a.st,o++ [(v,k+1)],a.cnt,a.clk⟩,some j,o++ [(v,k+1)]++ [(j,0)],E,o++ [(v,k+1)]++ [(j,0)]),⟨oy b hjk B (Int.ofNat.inj L),Z,z,[],(iR _).symm⟩,by rw[<-N];exact WD b.hcs A,AX Q [0,1,2,3,4] Z (Z) ⟨Z,Z,Z,Z,Z,Z,Z,Z,Z,Z,trivial⟩⟩
       .refine AC (AE (ek Z Z (ek Z Z (J (DB (j) Z Z (Z) (B) Z E0 BW Z) (J (EC Z Z (bv B) Z Am Z) (J (Az Z Z Z) (AD (A6 Z (λh132=>?_) (λh132=>?_)))))))))
        .refine CK [[],[],[1],[1,2],[1,2,3],[],[],[6],[6,7],[6,7,8],[5,6,7,8,9],[5,6,7,8,9,10],[],[],[12,13],[12,13,14],[5,6,7,8,9,10,11,12,13,14,15],rg 17,rg 18] mixed Z (By (Ap 6 Z Z (Ap 14 Z Z (AR [134] Z (aP Z Z) ?_))));refine AR [135] Z (YU Z FQ Z Z Z) (Ao [136] Z Z (λ_=>Aa (EC Z Z (MN Z) Z Am Z)) (Ap 6 Z Z (Ap 14 Z Z (AR [139] Z (aP Z Z) (AR [140] Z (YU Z FQ Z Z Z) (Ao [141] Z Z (λ_=>Aa (EC Z Z (MN Z) Z Am Z)) (Ao [138,142] Z Z (λ_=>Aa (DB (v) Z Z (Z) (s) Z E0 BW Z)) (Ao [143] Z Z (λ_=>Aa (EC Z Z (Np s) Z Am Z)) ?_))))))));refine Ap 5 Z Z (Ap 15 Z Z (Ao [145,146] Z Z (λ_=>Aa (DB (j) Z Z (Z) (B) Z E0 BW Z)) (Ao [147] Z Z (λ_=>Aa (EC Z Z (Np B) Z Am Z)) (AR [144,148] Z (RX Z Z (pz _ _) Z) (Bu 17 Z Z Z (Ab 18 Z Z (J (DB (v) Z Z (Z) (s) Z E0 BW Z) (AD ⟨Z,?_⟩))))))));refine Ab 19 Z Z (V (YR Z Z Z Z Z (by rw[Dm];exact s) Dl Z BW) (AD ⟨Z,?_⟩));refine Bz (Aw ?_);exact ⟨(⟨a.idx,BJ a.low v (min (a.low v) (a.idx j)),a.of,a.st,o++ [(v,k+1)],a.cnt,a.clk⟩,none,o++ [(v,k+1)],E,o++ [(v,k+1)]++U),⟨oz b hjk B (λe=>L (gV Int.ofNat e)) h132,(iR _).symm,z,U,Z⟩,by rw[<-N];exact WD b.hcs A,AX Q [0,1,2,3,4] Z (Z) ⟨Z,Z,Z,Z,Z,Z,Z,Z,Z,Z,trivial⟩⟩
        .refine AW (Aw ?_);exact ⟨(⟨a.idx,a.low,a.of,a.st,o++ [(v,k+1)],a.cnt,a.clk⟩,none,o++ [(v,k+1)],E,o++ [(v,k+1)]++U),⟨km b hjk B (λe=>L (gV Int.ofNat e)) h132,(iR _).symm,z,U,Z⟩,by rw[<-N];exact WD b.hcs A,AX Q [0,1,2,3,4] Z (Z) ⟨Z,Z,Z,Z,Z,Z,Z,Z,Z,Z,trivial⟩⟩
      .refine AW (AC ?_);have hke:k=(fm g v).length:=by have:=(V5 b).2.2.2;have:=h97;omega
       refine AE (ek Z Z (J (aP Z Z) (J (YU Z FQ Z Z Z) (J (EC Z Z (MN Z) Z Am Z) (AB Z Z ?_)))));refine AD (AC (AE (ek Z Z (ek Z Z (J (RL Z ea Z) (J (P4 Z Z (Ξ _ (by omega)) Z) (J (Gs o.length Z Z hlen1 (by simp) Z ea bC Z) (AB Z Z ?_))))))));refine AD (AC (AC (AE (ek Z Z (J (RL Z ea Z) (J (HV Z Z Z) (AD (A6 Z (λh162=>?_) (λh162=>?_)))))))));refine AC ?_;obtain ⟨R,⟨u,ku⟩,hcu⟩:=RA (l:=o) (λe=>by rw[e] at h162;exact absurd h162 (by decide));subst hcu;obtain ⟨hun,hvu⟩:=ow b;have hlen3:(((R++ [(u,ku)]).length:Nat):Int)-1=(R.length:Int):=by simp
       have hlen4:R.length<(R++ [(u,ku)]).length:=by simp
       refine AE (ek Z Z (ek Z Z (J (RL Z ea Z) (J (P4 Z Z (Ξ _ (by omega)) Z) (J (DB (R.length) Z Z (hlen3) (hlen4) Z ea bC Z) (J (YU Z FQ Z Z Z) (J (EC Z Z (tg Z) Z Am Z) (AB Z Z ?_))))))));refine AD (CK [[],[],[],[],[2,3],[2,3,4],[],[],[6,7],[6,7,8],[2,3,4,5,6,7,8,9],rg 11,rg 12] mixed Z (By (Ap 6 Z Z (Ap 17 Z Z (Ap 6 Z Z (Ap 17 Z Z (Ao [172,173] Z Z (λ_=>Aa (DB (u) Z Z (Z) (hun) Z E0 BW Z)) (Ao [174] Z Z (λ_=>Aa (EC Z Z (Np hun) Z Am Z)) ?_))))))));refine Ap 6 Z Z (Ap 16 Z Z (Ao [176,177] Z Z (λ_=>Aa (DB (v) Z Z (Z) (s) Z E0 BW Z)) (Ao [178] Z Z (λ_=>Aa (EC Z Z (Np s) Z Am Z)) (AR [175,179] Z (RX Z Z (pz _ _) Z) (Bu 11 Z Z Z (Ab 12 Z Z (J (DB (u) Z Z (Z) (hun) Z E0 BW Z) (AD ⟨Z,?_⟩))))))));refine Ab 13 Z Z (V (YR Z Z Z Z Z (by rw[Dm];exact hun) Dl Z BW) (AD ⟨Z,?_⟩));refine Bz ?_
       rotate_left
       refine AW ?_
       all_goals
        refine AC (AC ?_)
        first | (obtain ⟨H,G,hPX⟩:=lQ b hke hvu;rw[G];obtain ⟨t,hcX⟩:∃l,R++ [(u,ku)]=l:=⟨_,Z⟩;rw[hcX] at b hPX⊢) | (obtain ⟨H,G,hPX⟩:=lR b hke (List.length_eq_zero_iff.1 (by omega));rw[G];obtain ⟨t,hcX⟩:∃l,o=l:=⟨_,Z⟩;rw[hcX] at b hPX⊢)
        refine CK [[],[],[0,1],[0,1,2],[],[],[4,5],[4,5,6],rg 8] mixed Z (By (Ap 6 Z Z (Ap 16 Z Z (Ao [182,183] Z Z (λ_=>Aa (DB (v) Z Z (Z) (s) Z E0 BW Z)) ?_))));refine Ao [184] Z Z (λ_=>Aa (EC Z Z (Np s) Z Am Z)) (Ap 5 Z Z (Ap 16 Z Z (Ao [186,187] Z Z (λ_=>Aa (DB (v) Z Z (Z) (s) Z E0 BW Z)) (Ao [188] Z Z (λ_=>Aa (EC Z Z (Np s) Z Am Z)) (Bu 8 Z Z Z (Ab 9 Z Z (J (C6 Z Z Z) (AD ⟨Z,?_⟩))))))));refine Bz (A6 Z (λh190=>?_) (λh190=>?_))
        .refine Aw ?_;exact ⟨(⟨a.idx,H,a.of,a.st,t,a.cnt,a.clk⟩,none,t,E,t++ [(v,k)]++U),⟨hPX.b (λe=>h190 (gV Int.ofNat e)),(iR _).symm,z,[(v,k)]++U,jx _ _ _⟩,by rw[<-N];exact dC b.hcs,AX Q [0,1,2,3,4] Z (Z) ⟨Z,Z,Z,Z,Z,Z,Z,Z,Z,Z,trivial⟩⟩
        .refine AW (AC (AZ ?_));obtain ⟨gS,gR,hst⟩:=List.append_of_mem (V5 b).2.1;obtain ⟨W,M⟩:=z;have hndp:=bA b.ti hst;have hof:IP g.length a.of=IP g.length (λx=>if x∈([]:List Nat) then (a.cnt:Int) else a.of x):=(by simp);rw[hof,show a.st.length=(gS++(v::gR)).length by rw[hst]];have Y:=bS b.ti;have hstv:∀x∈gS++v::gR,x<g.length:=(λx hx=>b.ti.lt x ((b.ti.st x).1 (by rw[hst];exact hx)).1);rw[hst] at M Y;refine BM (α:=List Nat×List Nat) (λq=>⟨214,[(0,.d (Ms g)),(5,(.own 0 0 g.length)),(6,(.own 1 0 g.length)),(7,(.own 2 0 g.length)),(9,(.own 3 0 (gS++q.1).length)),(10,(.d (AT a.cnt))),(11,(.d (AT a.clk))),(13,(.own 4 0 t.length)),(16,(.d (AT v))),(37,(.d (AT g.length))),(38,(.d (AT i)))],[(0,[.rowD 3 1 (rowN g.length a.idx)]),(1,[.rowD 3 1 (rowN g.length H)]),(2,[.rowD 3 1 (IP g.length (λx=>if x∈q.2 then (a.cnt:Int) else a.of x))]),(3,[.rowD 3 1 (E.map AT)]),(4,[.rowD 318 2 ((t++ [(v,k)]++U).map Zq)])]⟩) (λq=>q.1++q.2=v::gR/\q.1≠ []) (λq=>q.1.length) ((v::gR,[])) (⟨iR _,λe=>by cases e⟩) (AX Q [0,1,2,3,4] Z Z ⟨Z,Z,Z,Z,Z,Z,Z,Z,Z,Z,Z,trivial⟩) ?_;rintro ⟨c,dn⟩ ⟨O,hcne⟩;dsimp only at O hcne⊢;refine AZ (AC ?_);obtain ⟨T,w,hcw⟩:=RA hcne;subst hcw;have hws:gS++v::gR++W=gS++(T++ [w])++(dn++W):=by rw[<-O];simp
         have hwn:w<g.length:=hstv w (by rw[<-O];simp);have hl6:(gS++(T++ [w])).length<=g.length:=by rw[<-O] at Y;simp at Y⊢;omega
         have hl7:(((gS++(T++ [w])).length:Nat):Int)-1=((gS++T).length:Int):=by simp<;>omega
         have hl8:(gS++T).length<(gS++(T++ [w])).length:=by simp
         have hl9:(gS++T).length<=(E.map AT).length:=by rw[M,hws];simp<;>omega
         have hgw:(E.map AT)[(gS++T).length]? =some (AT w):=by rw[M,hws];exact vG rfl
         refine AE (ek Z Z (ek Z Z (J (RL Z E0 Z) (J (P4 Z Z (Ξ _ (by omega)) Z) (J (DB ((gS++T).length) Z Z (hl7) (hl8) Z E0 BW Z) (J (EC Z Z (hgw) Z Am Z) (AB Z Z ?_)))))));refine AD (AC (AE (ek Z Z (ek Z Z (J (RL Z E0 Z) (J (P4 Z Z (Ξ _ (by omega)) Z) (J (Gs (gS++T).length Z Z hl7 hl9 Z E0 BW Z) (AB Z Z ?_))))))));skip;refine AD (AC (AE (ek Z Z (ek Z Z (ek Z Z (J (DB (w) Z Z (Z) (hwn) Z E0 BW Z) ?_))))));refine V (YR Z Z Z Z Z (by rw[TK];exact hwn) tH Z BW) (AD (AC (AE (ek Z Z (ek Z Z (J (GR Z Z Z) (AD (A6 Z (λK=>?_) (λK=>?_)))))))))
         .refine Aw ?_;obtain ⟨hc0,hdn⟩:=lL O (Int.ofNat.inj K) hndp;subst hc0;rw[iR,hdn,Int.ofNat.inj K];have hcl3:=b.ti.num;have hcl4:=(Sp b.ti).1;refine AE (ek Z Z (J (Aj Z Z (Ξ _ (by omega)) Z) (Pq 210 (.d (AT (a.cnt+1))) Z (eqv (gV AF (by omega))) (AB Z Z (AD ?_)))));exact ⟨(⟨a.idx,H,λx=>if x∈v::gR then (a.cnt:Int) else a.of x,gS,t,a.cnt+1,a.clk⟩,none,t,E,t++ [(v,k)]++U),⟨hPX.c gS gR (Int.ofNat.inj (Classical.not_not.1 h190)) hst,(iR _).symm,⟨v::gR++W,by rw[M];simp⟩,[(v,k)]++U,jx _ _ _⟩,by rw[<-N];exact dC b.hcs,AX Q [0,1,2,3,4] Z (Z) ⟨Z,Z,Z,Z,Z,Z,Z,Z,Z,Z,trivial⟩⟩
         .refine AW ?_;exact ⟨(T,w::dn),cN O (λe=>K (gV Int.ofNat e)),by show T.length<(T++ [w]).length;simp,AX Q [0,1,2,3,4] Z (Z) ⟨Z,Z,Z,Z,Z,Z,Z,Z,Z,Z,Z,trivial⟩⟩
    .refine Aw ?_
     first | have hE:=ay y (hfr▸List.length_eq_zero_iff.1 (by omega)) | skip
     refine AE (J (Aj Z Z (Ξ _ (by omega)) Z) (ek Z Z (AD ?_)));exact ⟨(i+1,S,E),⟨hil,hE.1,hE.2.1,Tf y.old hE.2.2,C⟩,by show g.length-(i+1)<g.length-i;omega,AX Q [0,1,2,3] Z (Z) ⟨Z,Z,Z,Z,Z,Z,Z,Z,Z,trivial⟩⟩
  .refine Aw (AC ?_);have hin:i=g.length:=by have:=h39;omega
   subst hin;obtain ⟨hof,hofe⟩:=ax hti hcs I;have hre:IP g.length S.of=rowN g.length (λv=>(S.of v).toNat):=hQ λv hv=>gV AF (hofe v (Ψ.1 hv));rw[hre];refine AE (ek Z Z (ek Z Z (AB Z Z (AB Z Z (AD (A2 ?_))))));exact ⟨_,[2],_,A0 Z,Z,Z,_,_,hof,Z,Z⟩
abbrev HL(lst:List Nat):Hp:=[(5,[.blk 28 [.own 6 0 lst.length]]),(6,[.rowD 3 1 (lst.map AT)])]
theorem lp(c:List Nat)(a b:Nat)(g:a<c.length)(f:b<c.length):AP prog 182 [.d (AT a),.d (AT b),.ptr 5 0 0] (HL c) λr h=>r= .d (Ah (decide (fz c a<fz c b)))/\h=HL c:=by
 refine Av func182 Z Z ntmps182 Z Z Z λF i=>(AC ?_);refine AE (AB Z Z (AD (AC (CK [[],[],[0,1],[0,1,2],[],[],[4,5],[4,5,6],rg 8,rg 9] mixed Z (By (Ao [2] Z Z (λ_=>Aa (AO Z Z Z BH Z)) (Ap 0 Z Z (Ao [6,7] Z Z (λ_=>Aa (DB (a) Z Z (Z) (g) Z E0 BW Z)) ?_))))))));refine Ao [8] Z Z (λ_=>Aa (EC Z Z (Ow g) Z Am Z)) (Ao [2] Z Z (λ_=>Aa (AO Z Z Z BH Z)) (Ap 1 Z Z (Ao [10,11] Z Z (λ_=>Aa (DB (b) Z Z (Z) (f) Z E0 BW Z)) (Ao [12] Z Z (λ_=>Aa (EC Z Z (Ow f) Z Am Z)) (Bu 8 Z Z Z (Ab 9 Z Z (J (Az Z Z Z) (AD ⟨Z,?_⟩))))))));refine Ab 10 Z Z (AB Z Z (AD ⟨Z,?_⟩));refine Bz (A2 ?_);exact ⟨_,[5,6],_,A0 Z,Z,Z,vL Int.ofNat_lt,Z⟩
abbrev NG(lst:List Nat)(l j:List Nat):Hp:=[(1,[.blk 323 [.own 2 0 l.length,.fn 182 [.ptr 5 0 0]]]),(2,[.rowD 3 1 ((l++j).map AT)]),(5,[.blk 28 [.own 6 0 lst.length]]),(6,[.rowD 3 1 (lst.map AT)])]
theorem UU{j:List Nat}(h:s<x.length):((x++j).map AT)[s]? =some (AT (fz x s)):=by
 rw[Ow (by rw[Δ];omega),X6 h]
theorem WI(a:List Nat)(l j:List Nat):AP prog 223 [.ptr 1 0 0] (NG a l j) λr b=>r= .d (AT l.length)/\b=NG a l j:=by
 refine Av func223 Z Z ntmps223 Z Z Z λF c=>(AC (AE (AB Z Z (AD (AC ?_)))));refine AE (ek Z Z (J (L4 Z Z) (J (AK Z YO Z Z Z) (J (AO Z Z Z BH Z) (J (RL Z E0 Z) (AB Z Z (AD (A2 ?_))))))));exact ⟨_,[1,2,5,6],_,A0 Z,Z,Z,Z,Z⟩
theorem Rm(c:List Nat)(l j:List Nat)(i:∀x∈l,x<c.length)(a b:Nat)(h:a<l.length)(g:b<l.length):AP prog 296 [.ptr 1 0 0,.d (AT a),.d (AT b)] (NG c l j) λr k=>r= .d (Ah (decide (fz c (fz l a)<fz c (fz l b))))/\k=NG c l j:=by
 have f:=lp c (fz l a) (fz l b) (i _ (Du h)) (i _ (Du g));refine Av func296 Z Z ntmps296 Z Z Z λF o=>(AC (AE ?_));refine AB Z Z (AD (AC (CK [[],[0],[0,1],[0,1,2],[],[4],[4,5],[4,5,6],[],[4,5,6,7,8],[4,5,6,7,8,9],[],[11],[11,12],[11,12,13],[],[11,12,13,14,15],[11,12,13,14,15,16],rg 18,rg 19] mixed Z (By (Ap 0 Z Z (AR [7] Z (L4 Z Z) (AR [8] Z (AK Z mM Z Z Z) (Ao [9] Z Z (λ_=>Aa (AO Z Z Z tD Z)) ?_))))))));refine Ap 0 Z Z (AR [11] Z (L4 Z Z) (AR [12] Z (AK Z YO Z Z Z) (Ao [13] Z Z (λ_=>Aa (AO Z Z Z BH Z)) (Ap 1 Z Z (Ao [14,15] Z Z (λ_=>Aa (DB (a) Z Z (Z) (h) Z E0 BW Z)) (Ao [16] Z Z (λ_=>Aa (EC Z Z (UU h) Z Am Z)) (Ap 0 Z Z (AR [18] Z (L4 Z Z) ?_))))))));refine AR [19] Z (AK Z YO Z Z Z) (Ao [20] Z Z (λ_=>Aa (AO Z Z Z BH Z)) (Ap 2 Z Z (Ao [21,22] Z Z (λ_=>Aa (DB (b) Z Z (Z) (g) Z E0 BW Z)) (Ao [23] Z Z (λ_=>Aa (EC Z Z (UU g) Z Am Z)) (Bu 18 Z Z Z (Ab 19 Z Z (V (VT f Z [5,6] ⟨Z,Z,trivial⟩ Z Z Z Z Z Z Z Z Z) (AD ⟨Z,?_⟩))))))));refine Ab 20 Z Z (AB Z Z (AD ⟨Z,?_⟩));refine Bz (A2 ?_);exact ⟨_,[1,2,5,6],_,A0 Z,Z,Z,Z,Z⟩
theorem RU(c:List Nat)(l j:List Nat)(a b:Nat)(g:a<l.length)(f:b<l.length):AP prog 299 [.ptr 1 0 0,.d (AT a),.d (AT b)] (NG c l j) λr k=>r= .tup []/\k=NG c (Mi l a b) j:=by
 have i:a<(l++j).length:=by rw[Δ];omega
 have h:b<((l++j).set a (fz l b)).length:=by rw[iB,Δ];omega
 refine Av func299 Z Z ntmps299 Z Z Z λF o=>(CK [[],[0],[0,1],[0,1,2],[],[],[5],[5,6],[5,6,7],[],[],[10],[10,11],[10,11,12],[],[10,11,12,13,14],[10,11,12,13,14,15],[],[17],[17,18],[17,18,19],[],[17,18,19,20,21],[17,18,19,20,21,22],[0,1,2,3,4,5,6,7,8,10,11,12,13,14,15,16,17,18,19,20,21,22,23],[0,1,2,3,4,5,6,7,8,10,11,12,13,14,15,16,17,18,19,20,21,22,23,24],rg 26,rg 27] mixed Z (By (Ap 0 Z Z (AR [6] Z (L4 Z Z) (AR [7] Z (AK Z YO Z Z Z) ?_)))));refine Ao [8] Z Z (λ_=>Aa (AO Z Z Z BH Z)) (Ap 1 Z Z (Ap 0 Z Z (AR [11] Z (L4 Z Z) (AR [12] Z (AK Z YO Z Z Z) (Ao [13] Z Z (λ_=>Aa (AO Z Z Z BH Z)) (Ap 2 Z Z (Ap 0 Z Z (AR [16] Z (L4 Z Z) ?_))))))));refine AR [17] Z (AK Z YO Z Z Z) (Ao [18] Z Z (λ_=>Aa (AO Z Z Z BH Z)) (Ap 2 Z Z (Ao [19,20] Z Z (λ_=>Aa (DB (b) Z Z (Z) (f) Z E0 BW Z)) (Ao [21] Z Z (λ_=>Aa (EC Z Z (UU f) Z Am Z)) (Ap 0 Z Z (AR [23] Z (L4 Z Z) (AR [24] Z (AK Z YO Z Z Z) (Ao [25] Z Z (λ_=>Aa (AO Z Z Z BH Z)) ?_))))))));refine Ap 1 Z Z (Ao [26,27] Z Z (λ_=>Aa (DB (a) Z Z (Z) (g) Z E0 BW Z)) (Ao [28] Z Z (λ_=>Aa (EC Z Z (UU g) Z Am Z)) (Ao [9,10] Z Z (λ_=>Aa (DB (a) Z Z (Z) (g) Z E0 BW Z)) (F6 [30,22] [2] [] Z Z (λ_=>F7 (FY (emb:=AT) (l++j) (fz l b) Z Z Z Z Z Z i Z BW)) (.inl ⟨Z,Z⟩) Z Z Z Z Z (Bu 26 Z Z Z (Ab 27 Z Z (J (DB (b) Z Z (Z) (f) Z E0 BW Z) (AD ⟨Z,?_⟩))))))));refine Ab 28 Z Z (V (FY (emb:=AT) ((l++j).set a (fz l b)) (fz l a) Z Z Z Z Z Z h Z BW) (AD ⟨Z,?_⟩));refine Bz ?_;exact ⟨_,[1,2,5,6],_,A0 Z,Z,Z,Z,by rw[NG,NS,<-u2 g f]⟩
theorem dF(a:List Nat)(l j:List Nat)(x:Nat)(c:l.length<=1000000):AP prog 298 [.ptr 1 0 0,.d (.raw (.iface 3 (.int .i64 (x:Int))))] (NG a l j) λr b=>r= .tup []/\b=NG a (l++ [x]) []:=by
 refine Av func298 Z Z ntmps298 Z Z Z λF f=>(CK [[],[],[1],[1,2],[1,2,3],[],[5],[5,6],[1,2,3,4,5,6,7],rg 9,rg 10,rg 11] mixed Z (By (Ap 0 Z Z (Ap 0 Z Z (AR [5] Z (L4 Z Z) (AR [6] Z (AK Z YO Z Z Z) ?_))))));refine Ao [7] Z Z (λ_=>Aa (AO Z Z Z BH Z)) (Ap 1 Z Z (AR [9] Z (OJ Z sf Z Z) (F6 [10] [20] [(11,_)] Z Z (λ_=>F7 (C1 20 BR Z Z Z Z Z Z Z Z)) (.inr ⟨11,_,Z,Z,Z,Z,Z⟩) Z Z Z Z Z (F6 [8,11] [1,2,5,6,20] [(12,_)] Z Z (λ_=>F7 (H6 Z Z Z (by simp) Z Z (by simp) BR (by omega) Z Z (np l j) Z Z)) (.inr ⟨12,_,Z,Z,Z,Z,Z⟩) Z Z Z Z Z (Bu 9 Z Z Z (Ab 10 Z Z (J (L4 Z Z) (AD ⟨Z,?_⟩))))))));refine Ab 11 Z Z (J (AK Z YO Z Z Z) (AD ⟨Z,?_⟩));refine Ab 12 Z Z (V (B3 Z Z Z Z Z Z Z DD) (AD ⟨Z,?_⟩));refine Bz ?_;exact ⟨_,[1,2,5,6],_,A0 Z,Z,Z,Z,by rw[NG];simp⟩
theorem ld(a:List Nat)(l j:List Nat)(g:l≠ [])(f:l.length<=1000000):AP prog 297 [.ptr 1 0 0] (NG a l j) λr i=>r= .d (.raw (.iface 3 (.int .i64 (fz l (l.length-1):Int))))/\i=NG a (l.take (l.length-1)) ([fz l (l.length-1)]++j):=by
 have h:0<l.length:=jf.2 g;have b:((l.length:Int)-1)=((l.length-1:Nat):Int):=by omega
 have c:l.length-1<=((l++j).map AT).length:=by rw[χ,Δ];omega
 refine Av func297 Z Z ntmps297 Z Z Z λF k=>(AC (AE (AB Z Z ?_)));refine AD (AC (CK [[],[0],[0,1],[0,1,2],[],[4],[4,5],[4,5,6],[4,5,6,7],[4,5,6,7,8],rg 10,rg 11,rg 12] mixed Z (By (Ap 0 Z Z (AR [4] Z (L4 Z Z) (AR [5] Z (AK Z YO Z Z Z) (Ao [6] Z Z (λ_=>Aa (AO Z Z Z BH Z)) (Ap 0 Z Z ?_))))))));refine AR [8] Z (L4 Z Z) (AR [9] Z (AK Z YO Z Z Z) (Ao [10] Z Z (λ_=>Aa (AO Z Z Z BH Z)) (AR [11] Z (RL Z E0 Z) (AR [12] Z (P4 Z Z (Ξ _ (by omega)) Z) (Bu 10 Z Z Z (Ab 11 Z Z (J (DB (l.length-1) Z Z (b) (by omega) Z E0 BW Z) (AD ⟨Z,?_⟩))))))));refine Ab 12 Z Z (J (EC Z Z (UU (by omega)) Z Am Z) (AD ⟨Z,?_⟩));refine Ab 13 Z Z (AB Z Z (AD ⟨Z,?_⟩));refine Bz (AC ?_);refine CK [[],[],[1],[1,2],[1,2,3],[],[5],[5,6],[5,6,7],[5,6,7,8],[5,6,7,8,9],[1,2,3,4,5,6,7,8,9,10],rg 12,rg 13,rg 14] mixed Z (By (Ap 0 Z Z (Ap 0 Z Z (AR [17] Z (L4 Z Z) (AR [18] Z (AK Z YO Z Z Z) (Ao [19] Z Z (λ_=>Aa (AO Z Z Z BH Z)) (Ap 0 Z Z (AR [21] Z (L4 Z Z) ?_))))))));refine AR [22] Z (AK Z YO Z Z Z) (Ao [23] Z Z (λ_=>Aa (AO Z Z Z BH Z)) (AR [24] Z (RL Z E0 Z) (AR [25] Z (P4 Z Z (Ξ _ (by omega)) Z) (Ao [20,26] Z Z (λ_=>Aa (Gs (l.length-1) Z Z b c Z E0 BW Z)) (Bu 12 Z Z Z (Ab 13 Z Z (J (L4 Z Z) (AD ⟨Z,?_⟩))))))));refine Ab 14 Z Z (J (AK Z YO Z Z Z) (AD ⟨Z,?_⟩));refine Ab 15 Z Z (V (B3 Z Z Z Z Z Z Z DD) (AD ⟨Z,?_⟩));refine Bz (AC (AE (ek Z Z (J (G6 sf Z Z) (AB Z Z (AD (A2 ?_)))))));exact ⟨_,[1,2,5,6],_,A0 Z,Z,Z,Z,by rw[NG,uj h,ϱ,Nat.min_eq_left (by omega)]⟩
end Go.Proofs.YteifpcnphnhaoaaGreat
