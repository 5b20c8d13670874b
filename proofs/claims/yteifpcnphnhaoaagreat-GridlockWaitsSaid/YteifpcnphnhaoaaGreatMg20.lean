import Derived.Test.YteifpcnphnhaoaaGreatMg19
import Derived.Shelf.SortG.Plain
import Derived.Shelf.SortG.SortNone
open Go.Proofs.Tryz
set_option maxHeartbeats 4000000
namespace Go.Proofs.YteifpcnphnhaoaaGreat
open Go.RowKit Go.Shelf
open Go.Sort (putRow Holds putCells)
def Ch(l:List Int):List Int:=l.mergeSort λx y=>decide (x<=y)
theorem jR(l:List Int):(Ch l).Perm l:=List.mergeSort_perm l _
theorem E7(l:List Int):(Ch l).length=l.length:=(jR l).length_eq
theorem Kv(l:List Int):(Ch l).Pairwise (· <= ·):=by grind[List.pairwise_mergeSort,Ch]
abbrev zD(z:Int):D:= .raw (.int .i64 z)
variable{P:Program}{ρr:Ren}
theorem UM(L:SlLaysN.n53 P ρr){E:TypeId}{g53:FuncId}(k:List Int)(hsz:k.length<4611686018427387904){F:Fr}{s:AS}{d:Nat}{x:Operand}{ty:TypeId}{pos:String}{aft:Array Edge}{gd:Option (Nat×Bool)}{at_:Array TypeId}{f n:Nat}{S:List D}{O:Hp}(hg:ρr.f 53=g53)(C:s.ev x=some (.own f 0 n))(ho:cj s.hp f 0=some (.rowD E 1 S))(V:S=k.map zD)(hn:n=k.length)(hh:Ba s.hp f 0 (.rowD E 1 ((Ch k).map zD))=some O)(hd:Nat.blt d s.n=true):
  AH P F ⟨some d,.call {callee:= .value (.func g53),args:= #[x],argTypes:=at_},ty,pos,aft,gd⟩ s ⟨s.n,(d,.d (.tup []))::s.env,O⟩ (λ_ _=>true):=by
 subst hg V hn;intro ρ H w hs
 obtain ⟨fn6,hf1,hf2,hf3⟩:∃fn,P.funcs[ρr.f 53]? =some fn/\(fn.name== "runtime.NumGoroutine")=false/\fn.body.isSome=true:=by
  obtain ⟨nm,hn,hf⟩:=L.f53;exact ⟨_,hf,hn,Z⟩
 unfold Oper.wp;rw[show (#[x]:Array Operand)=[x].toArray from rfl,DU hf1 hf2 hf3,Oper.upon_enter]
 suffices J:Calls P (ρr.f 53) ([x].map H.eval).toArray w λe w'=>e= .returned (.tuple #[])/\SR F ⟨s.n,s.env,O⟩ ρ H w' by
  refine J.mono λe w' ⟨R,hsr⟩=>?_;subst R;exact ⟨ρ,hsr.put (I4 hd) (.d (.tup Z λi c v hc=>by cases hc)),λ_ _ _=>rfl⟩
 have r0:=hs.ev C;have hg0:=ho;have h3:=hs.heap;have B:=BA hh;obtain ⟨us,q1,q2,q3⟩:=h3.sim f 0 _ hg0;show Calls P (ρr.f 53) #[H.eval x] w _
 generalize H.eval x=V0 at r0
 cases r0 with
 | own T hle=>
  rename_i N r a
  by_cases C:k=[]
  .subst C;refine (AnyG.slices_Sort_int_none L a r w).mono λe w' ⟨R,e2⟩=>?_;subst R e2;refine ⟨Z,hs.writeG f 0 _ _ ho B Z Z Z (Θ _) (Θ _) (λ_ _ _=>rfl) (λ_ _ e=>by cases e) λW=>?_⟩;have h0:Ch []=[]:=by simp[Ch]
   rw[h0];exact ⟨us,q1,⟨by simpa using q2.1,λx C=>(by cases C),λi x C=>by simp at C⟩,λx C=>(by cases C)⟩
  .have hn:0<k.length:=m8.2 C;have hul:us.length=k.length:=by have:=q2.1;rw[χ] at this;omega
   have G:∃b o,a=some ⟨b,0,none⟩/\w.heap[b]? =some (.cells o E (0,0))/\o.size=r/\k.length<=r/\r<=maxLen/\o.toList.take k.length=us/\N=k.length:=by
    rcases q1.2 with ⟨_,h⟩ | ⟨b,cap',o,R,_,e2,e3,e4,e5,e6⟩
    .grind
    grind
   obtain ⟨b,o,rfl,p1,p2,p3,p3',p4,rfl⟩:=G;have hb:CB (ρ f 0)=some b:=by rw[T];rfl
   have Y:b<w.heap.size:=(ld.1 p1).1
   have hus:∀i (hi:i<k.length),us[i]? =some (.int .i64 k[i]):=λi hi=>by
    have hm:(k.map zD)[i]? =some (zD k[i]):=by rw[ς,ω hi];rfl
    obtain ⟨u,hu,_,hr⟩:=q2.2.2 i _ hm 0 (zD k[i]) rfl;rw[lu,l7] at hu
    cases hr with
    | raw _=>exact hu
   have hH:Holds (Value.int .i64) w b 0 k.toArray:=by
    intro j hj
    grind[World.cell?,World.frozen?]
   have J:=AnyG.slices_Sort_int L b 0 r k w hH Y hsz;refine J.mono λe w' ⟨R,nd,os,hw⟩=>?_;subst R hw
   obtain ⟨z,K⟩:∃z,Ch k=z:=⟨_,Z⟩
   have U:(k.mergeSort λx y=>decide (x<=y))=z:=K;have M:z.length=k.length:=by rw[<-K,E7]
   rw[K] at B hh;rw[U];refine ⟨Z,?_⟩;have A:((putRow (Value.int .i64) (Go.Sort.ahead w nd) b 0 z.toArray)).heap.size=w.heap.size:=by rw[Go.Sort.size_putRow];rfl
   have X:∀I,I<w.heap.size->I≠b->(Go.Sort.grow (putRow (Value.int .i64) (Go.Sort.ahead w nd) b 0 z.toArray) os).heap[I]? =w.heap[I]?:=λI hl hne=>by
    rw[Go.Sort.heap_grow_old _ _ (by rw[A];exact hl)];show (w.heap.modify b _)[I]? =_;rw[mj,ν (Ne.symm hne)]
   refine hs.writeG f 0 _ _ ho B Z Z Z (by rw[Go.Sort.size_grow,A];exact Nat.le_add_right _ _) (Nat.le_add_right _ _) (λI hl hno=>X I hl (λe=>hno (by rw[e];exact hb))) (λ_ _ e=>by cases e) λW=>?_
   have Q:(Go.Sort.grow (putRow (Value.int .i64) (Go.Sort.ahead w nd) b 0 z.toArray) os).heap[b]? =some (.cells (putCells (Value.int .i64) 0 z.toArray o) E (0,0)):=by
    rw[Go.Sort.heap_grow_old _ _ (by rw[A];exact Y)];show (w.heap.modify b _)[b]? =_;rw[mj,ϱ Z,p1];rfl
   have hcs:(putCells (Value.int .i64) 0 z.toArray o).size=r:=by simp only[putCells,Array.size_mapIdx];exact p2
   have l:(z.map zD).length=k.length:=by rw[χ,M]
   refine ⟨z.map (Value.int .i64),⟨by rw[χ,l,M,lu],.inr ⟨b,r,_,by rw[T,l],κ _,Q,by rw[l];exact p3,p3',by omega,?_⟩⟩,⟨by rw[χ,l,M,lu],λx g=>?_,λi x g j c t=>?_⟩,λx g c t=>?_⟩
   .rw[l,lu]
    apply m0
    intro i
    by_cases hi:i<k.length
    .rw[mf hi,ly,ς,ω (by omega),lJ (by omega)];simp only[putCells,Array.getElem_mapIdx];rw[ϱ ⟨κ _,by simp;omega⟩];simp only[Nat.sub_zero,lW];rw[getElem!_pos _ i (by simp;omega)]
     simp
    .rw[mL (by rw[η];omega),mL (by rw[χ];omega)]
   .obtain ⟨y,_,rfl⟩:=Γ.1 g;rfl
   .rw[ς] at g
    cases hyi:z[i]? with
    | none=>rw[hyi] at g;cases g
    | some y=>
     rw[hyi] at g;injection g with g;subst g
     have hj0:j=0:=by have:=(φ.1 t).1;simp[D.cells] at this;exact this
     subst hj0;simp only[D.cells,List.getElem?_cons_zero,Option.some.injEq] at t;subst t;exact ⟨.int .i64 y,by rw[lu,l7,ς,hyi];rfl,Z,.raw Z⟩
   .obtain ⟨y,_,rfl⟩:=Γ.1 g;simp only[D.cells,ξ] at t;subst t;rfl
end Go.Proofs.YteifpcnphnhaoaaGreat
namespace Go.Proofs.YteifpcnphnhaoaaGreat
open Go.RowKit
set_option maxRecDepth 100000
section
variable{P:Program}{F:Fr}{s:AS}{α β:Type}[DecidableEq α]{eK:α->D}{eV:β->D}{K:TypeId}{kv:α->Value}{d:Nat}{ty T E:TypeId}{pos:String}{aft:Array Edge}{g:Option (Nat×Bool)}{x y z:Operand}{bs:Option (List Nat×Nat)}
variable{a:D}
theorem UR(m:List (α×β))(b:α)(o v:β){f i:Nat}(S:s.ev x=some (.map f i))(W:cj s.hp f i=some (.map bs (Bg eK eV m)))(R:s.ev y=some (.d (eK b)))(L:Bs P T K E=true)(k:CC P K eK kv)(Q:DK P E=some (.d a))(U:∀w O v,AZ w O a v->AZ w O (eV o) v)(V:Af m b o=v)(X:Nat.blt d s.n=true):
  AA P F ⟨some d,.lookup T x y false,ty,pos,aft,g⟩ s d (.d (eV v)):=
 DG _ X λl G w I=>by
  obtain ⟨mb,arr,c,N,_,M,C,B,_⟩:=I.mapAt S W;have J:G.eval y=kv b:=(I.repD R).val (k.val b);obtain ⟨H,A,u⟩:=Ew Q w
  have t:∀r O l,A8 r O l (.d (eV o)) H:=λr O l=>by
   have:=u r O l
   cases this with
   | d h=>exact .d (U _ _ _ h)
  subst V;rcases kP k C B b o with ⟨D,_,Z,_⟩ | ⟨j,e,D,g2,_,_,_,_,Y⟩
  .refine ⟨H,?_,by rw[Z];exact t _ _ _⟩
   simp[execOp,Instr.lookup,run_underlying (YC L),N,J,MapKept.run_getObj_map M,k.check,k.find w b _ _ (Zm k C B),D,A,Result.andThen]
  .refine ⟨e.val,?_,.d Y⟩
   simp[execOp,Instr.lookup,run_underlying (YC L),N,J,MapKept.run_getObj_map M,k.check,k.find w b _ _ (Zm k C B),D,Result.andThen]
theorem Oq(m:List (α×β))(b:α)(D:β){f i:Nat}(hx:s.ev x=some (.map f i))(ho:cj s.hp f i=some (.map bs (Bg eK eV m)))(hy:s.ev y=some (.d (eK b)))(W:Bs P T K E=true)(o:CC P K eK kv)(hz:DK P E=some (.d a))(hw:∀w O v,AZ w O a v->AZ w O (eV D) v)(hd:Nat.blt d s.n=true):
  AA P F ⟨some d,.lookup T x y true,ty,pos,aft,g⟩ s d (.tup [.d (eV (Af m b D)),.d (.raw (.bool (P0 m b)))]):=
 DG _ hd λk N w U=>by
  obtain ⟨mb,arr,c,Y,_,C,t,L,_⟩:=U.mapAt hx ho;have V:N.eval y=kv b:=(U.repD hy).val (o.val b);obtain ⟨S,J,I⟩:=Ew hz w
  have H:∀G O k,A8 G O k (.d (eV D)) S:=λG O k=>by
   have:=I G O k
   cases this with
   | d h=>exact .d (hw _ _ _ h)
  have l:∀{A u:Value} {R Q:AV},A8 w (F.O k s.hp) k R A->A8 w (F.O k s.hp) k Q u->A8 w (F.O k s.hp) k (.tup [R,Q]) (.tuple #[A,u]):=λ{A u R Q} C t=>by
   refine .tup (vs:=[A,u]) Z λi b v r B=>?_;rcases i with _ | _ | i
   .simp at r B;subst r B;exact C
   .simp at r B;subst r B;exact t
   .simp at r
  rcases kP o t L b D with ⟨M,X,g3,_⟩ | ⟨j,e,M,X,_,g4,_,_,g7⟩
  .refine ⟨.tuple #[S,.bool false],?_,l (by rw[g3];exact H _ _ _) (by rw[X];exact .d (.raw Z))⟩
   simp[execOp,Instr.lookup,run_underlying (YC W),Y,V,MapKept.run_getObj_map C,o.check,o.find w b _ _ (Zm o t L),M,J,Result.andThen]
  .refine ⟨.tuple #[e.val,.bool true],?_,l (.d g7) (by rw[g4];exact .d (.raw Z))⟩
   simp[execOp,Instr.lookup,run_underlying (YC W),Y,V,MapKept.run_getObj_map C,o.check,o.find w b _ _ (Zm o t L),M,Result.andThen]
end
theorem Ht:∀w O v,AZ w O (.agg [AE 0,AE 0,AE 0,.sl (some true) [],.sl (some true) [],.sl (some true) []]) v->AZ w O (Ah ek) v:=λw O v h=>h.aggMono Z (by simp[D.one]) λi c g b a v f=>by
 match i,b,a with
 | 0,b,a=>injection b with b;injection a with a;subst b a;exact f
 | 1,b,a=>injection b with b;injection a with a;subst b a;exact f
 | 2,b,a=>injection b with b;injection a with a;subst b a;exact f
 | 3,b,a=>injection b with b;injection a with a;subst b a;exact f.anyNil
 | 4,b,a=>injection b with b;injection a with a;subst b a;exact f.anyNil
 | 5,b,a=>injection b with b;injection a with a;subst b a;exact f.anyNil
def lC(l:List ey):List ey:=l.mergeSort λa b=>decide (BT a.r b.r<=0)
theorem qf(l:List ey):(lC l).Perm l:=List.mergeSort_perm l _
theorem P2(l:List ey):(lC l).length=l.length:=(qf l).length_eq
theorem qC{a b c:AW}(g:BT a b<=0)(f:BT b c<=0):BT a c<=0:=by
 by_cases i:BT a b=0
 .rw[Dq.1 i];exact f
 .by_cases h:BT b c=0
  .rw[<-Dq.1 h];exact g
  .have:=NQ.trans a b c (by omega) (by omega);omega
theorem N9(l:List ey):(lC l).Pairwise λa b=>¬BT b.r a.r<0:=by
 have:=List.pairwise_mergeSort (le:=λa b:ey=>decide (BT a.r b.r<=0)) (λa b c g f=>by simp only[l6] at*;exact qC g f) (λa b=>by simp only[Bool.or_eq_true,l6];have:=NQ.anti a.r b.r;omega) l
 exact this.imp λ{a b} h=>by
  have i:BT a.r b.r<=0:=by simpa using h
  have:=NQ.anti a.r b.r;omega
theorem Yb{g:Type}(f:g->AW){l m i:List g}(c:(l.map f).Nodup)(s:m.Perm l)(j:m.Pairwise λa b=>¬BT (f b) (f a)<0)(o:i.Perm l)(t:i.Pairwise λa b=>¬BT (f b) (f a)<0):i=m:=by
 have r:∀{k:List g},(k.map f).Nodup->(k.Pairwise λa b=>¬BT (f b) (f a)<0)->k.Pairwise λa b=>BT (f a) (f b)<0:=λ{k} c h=>by
  rw[List.Nodup,ky] at c;refine (h.and c).imp λ{a b} ⟨v,u⟩=>?_;have o:=NQ.anti (f a) (f b);have t:BT (f a) (f b)≠0:=λe=>u (Dq.1 e);omega
 exact sI (R:=λa b=>BT (f a) (f b)<0) (λx=>by rw[NQ.refl];omega) (λx y z=>NQ.trans _ _ _) (r ((o.map f).nodup_iff.2 c) t) (r ((s.map f).nodup_iff.2 c) j) λx=>by rw[o.mem_iff,s.mem_iff]
structure mF where
 r:AW
 n:Int
 q:List Int
abbrev P3(x:mF):D:= .agg [AE x.r.k,Ak x.r.acc.o,AE x.r.acc.k,Ak x.r.acc.a,Ak x.r.f,Ak x.r.t,AE x.n,.sl none (x.q.map AE)]
theorem gD(x:mF):∃a,P3 x= .agg a:=⟨_,Z⟩
def B9(p:hU)(x:ey):mF:=⟨x.r,max x.n 0,hY (hJ p) x.r⟩
def gg(p:hU):List mF:=(lC p.ro).map (B9 p)
theorem Iy(p:hU):(gg p).length=p.ro.length:=by unfold gg;rw[χ,P2]
theorem NZ{l:List ey}(h:D7 l=0):(l.map ey.r).Nodup:=by
 have c:=Tu.1 h;rw[List.Nodup,ky,l4];intro i j f a b e;have:=c j (Ω.2 a)
 grind[Il,Gi]
theorem ZI{p:hU}(f:Ac p=0){c:List mF}(h:c.Perm (p.ro.map (B9 p)))(g:c.Pairwise λa b=>¬BT b.r a.r<0):c=gg p:=by
 refine Yb mF.r (l:=p.ro.map (B9 p)) ?_ ((qf p.ro).map _) ?_ h g
 .rw[jw];exact NZ (IL f).1
 .unfold gg;rw[ky];exact N9 p.ro
theorem ud(a b:mF):AI prog 175 [.d (P3 a),.d (P3 b)] (AE (BT a.r b.r)):=by
 refine As func175 Z Z ntmps175 Z Z Z λF c=>(AD (AF (V (B7 1 Z Z Z Z Z Z Z) (V (B7 2 Z Z Z Z Z Z Z) (AB Z Z (AC (AD ?_)))))));refine AF (J (AM Z L4 Z Z Z) (J (Ap Z Z Cw Z Z Z) (J (AM Z L4 Z Z Z) (J (Ap Z Z Cw Z Z Z) (J (Aj (NI a.r b.r) Z Z) (AB Z Z (AC (A4 ?_))))))));exact ⟨_,[],[],A2 Z,Z,Z,Z,Z⟩
def DC(l:List cl):List (Int×cl):=l.map λi=>(i.id,i)
theorem X9{l:List cl}{i:cl}(h:i.id∉l.map cl.id):B1 (DC l) i.id i=DC (l++ [i]):=by
 induction l with
 | nil=>rfl
 | cons a l b=>
  grind[B1,DC]
section
variable{β:Type}
end
variable{a:hU}{f:Int->Bool}{c:Type}{g:c->c->Int}{k:Nat}{i:Int}{h:List c}{j:List Int}{o:Type}{s:Nat}{t:Type}{x:c}
def I3(p:hU):List Int:=(hJ p).map cl.id
abbrev HA(p:hU):Hp:=[(10,[.blk 229 [.map 11 0,.d (.sl none ((I3 p).map AE)),.d (.sl none ((gg p).map P3))]]),(11,[B5 AE Ah (DC p.it)])]
theorem wV(a:Int):(if 0>a then 0 else a)=max a 0:=by omega
theorem QK(p:hU)(t:Ek p)(C:Ac p=0):AO prog 126 [.d (BG p)] [] λr N=>r= .tup [.ptr 3 0 0,.d (AE 0)]/\N=[(3,[.blk 229 [.map 2 0,.d (.sl none ((I3 p).map AE)),.d (.sl none ((gg p).map P3))]]),(2,[B5 AE Ah (DC p.it)])]:=by
 have s:=EL p t;rw[C] at s;have B:=YE (IL C).2.1;have w:=Io p t;have I:=t.1;have H:=t.2.1;refine As func126 Z Z ntmps126 Z Z Z λF u=>(AD (AF (V (B7 1 Z Z Z Z Z Z Z) ?_)));refine AB Z Z (AB Z Z (AC (AD (AD (AF (J (Ap Z Z Bp Z Z Z) (J (Aj (s) Z Z) (AB Z Z ?_))))))));refine AC (AD (AF (ch Z Z (J (DJ Z Z Z) (AC (Cq Z ((by decide)) (AU (AD ?_))))))));refine AF (V (S2 2 Z Z Z Z) (J (Ap Z Z Bp Z Z Z) (J (Aj (w) Z Z) (J (Dz vK vz Z Z Z) (V (B7 3 Z Z Z Z Z Z Z) (AB Z Z (AC (AD ?_))))))));refine AD (AF (J (AM Z FN Z Z Z) (J (AQ Z Z Z Mf Z) (J (BU Z Qs Z) (ch Z Z (AC (AX (BC (α:=Nat) (λk=>⟨68,[(1,(.ptr 1 0 0)),(5,(.ptr 3 0 0)),(21,(.d (.sl none (p.it.map Ah)))),(22,(.d (AE (p.it.length:Int)))),(23,(.d (AE (k:Int))))],[(1,[B3 39 p]),(3,[.blk 229 [.map 2 0,.d (.sl none ((I3 p).map AE)),Gh]]),(2,[B5 AE Ah (DC (p.it.take k))])]⟩) (λk=>k<=p.it.length) (λk=>p.it.length-k) (0) (κ _) (AR u [1,3,2] Z Z ⟨Z,Z,Z,Z,Z,trivial⟩) ?_))))))));rintro k G;refine AD (AF (J (At Z Z Z) (AC (AD (A5 Z (λl=>?_) (λl=>?_))))))
 .have g:k<p.it.length:=BF l;refine AU (AD (AX (AD (AF ?_))));have z:p.it[k].id∉(p.it.take k).map cl.id:=λh=>by have D:=B;rw[List.Nodup,ky,l4] at D;obtain ⟨x,E,e⟩:=Γ.1 h;obtain ⟨j,O,rfl⟩:=mz.1 E;exact D j k (by omega) g (by omega) e
  refine J (Al (k) Z Z (Z) (AP g) Qs Z DP Z) (J (CY Z Z Cb Z) (V (CP 4 Fm Z Z Z Z) (V (Bi Z Z Z Z Z Z Z DP) (AC (Bq [[],[0],[0,1],[0,1,2],[],[4],[],rg 7] mixed Z (B2 (A7 5 Z Z (AK [27] Z (MC Z Z) ?_))))))));refine AK [28] Z (AM Z L6 Z Z Z) (Ay [29] Z Z (λ_=>Aa (AQ Z Z Z Up Z)) (AK [7] Z (AM Z QW Z Z Z) (Ay [31] Z Z (λ_=>Aa (AQ Z Z Z Ai Z)) (Ay [7] Z Z (λ_=>Aa (Ap Z Z Cb Z Z Z)) (BV 7 Z Z Z (A0 8 Z Z (V (Wf (DC (p.it.take k)) (p.it[k].id) (p.it[k]) Z Z Z VC I6 Z Z) (AC ⟨Z,?_⟩))))))));refine Bb (AF (J (Ad Z Z (AJ (k+1) (by omega)) Z) (ch Z Z (AC ?_))));exact ⟨k+1,by show k+1<=_;omega,by show p.it.length-(k+1)<p.it.length-k;omega,AR u [1,3,2] Z (by rw[ψ g,<-X9 z];rfl) ⟨Z,Z,Z,Z,Z,trivial⟩⟩
 .refine Aq (AD (AD ?_));rw[θ (show p.it.length<=k by have h:=l;omega)];refine D0 3 0 2 900 d9 Z Z Z Z Z Z Z (AF (J (AM Z Gp Z Z Z) (J (AQ Z Z Z Uo Z) (J (BU Z b0 Z) (ch Z Z (AC (AX (BC (α:=Nat×List mF) (λq=>⟨68,[(1,(.ptr 1 0 0)),(5,(.ptr 3 0 0)),(36,(.d (.sl none (p.ro.map BY)))),(37,(.d (AE (p.ro.length:Int)))),(38,(.d (AE (q.1:Int))))],[(900,[.rowD 233 8 (q.2.map P3)]),(1,[B3 39 p]),(3,[.blk 229 [.map 2 0,.d (.sl none ((I3 p).map AE)),.own 900 0 q.2.length]]),(2,[B5 AE Ah (DC p.it)])]⟩) (λq=>q.1<=p.ro.length/\q.2=(p.ro.take q.1).map (B9 p)) (λq=>p.ro.length-q.1) ((0,[])) (⟨κ _,Z⟩) (AR u [900,1,3,2] Z Z ⟨Z,Z,Z,Z,Z,trivial⟩) ?_))))))));rintro ⟨m,c⟩ ⟨A,v⟩;dsimp only at A v⊢;refine AD (AF (J (At Z Z Z) (AC (AD (A5 Z (λi=>?_) (λi=>?_))))))
  .have o:m<p.ro.length:=BF i;refine AU (AD (AX (AD (AF ?_))));have K:c.length<=100000:=by rw[v,χ,η];omega
   refine J (Al (m) Z Z (Z) (AP o) b0 Z Q0 Z) ?_;refine J (CY Z Z dj Z) (V (CP 5 Tx Z Z Z Z) (V (Bi Z Z Z Z Z Z Z Q0) (AC (Bq [[],[],[1],[1,2],[1,2,3],[],[5],[],[7],[7,8],[],[],[11],[10,11,12],[5,6,7,8,9,10,11,12,13],[5,6,7,8,9,10,11,12,13,14],[1,2,3,4,5,6,7,8,9,10,11,12,13,14,15],rg 17,rg 18,rg 19] mixed Z (B2 (A7 5 Z Z (A7 5 Z Z (AK [43] Z (MC Z Z) ?_))))))));refine AK [44] Z (AM Z L5 Z Z Z) (A1 [45] [3] Z Z (λ_=>Aa (AQ Z Z Z Yl Z)) (AK [9] Z (AM Z GM Z Z Z) (A1 [47] [5] Z Z (λ_=>Aa (Ap Z Z Cw Z Z Z)) (AK [9] Z (AM Z TN Z Z Z) (A1 [49] [5] Z Z (λ_=>Aa (AQ Z Z Z FJ Z)) (AK [50] Z (MR Z Z (wV _) Z) (A1 [1] [1] Z Z (λ_=>Aa (Ap Z Z Bp Z Z Z)) (AK [9] Z (AM Z GM Z Z Z) ?_))))))));refine A1 [53] [5] Z Z (λ_=>Aa (Ap Z Z Cw Z Z Z)) (AK [52,54] Z (Aj (oO p p.ro[m].r t) Z Z) (AK [48,51,55] Z (Dz cV vy Z Z Z) (Cv [56] [50] [(57,_)] Z Z (λ_=>Cg (CF 50 d9 Z Z Z Z Z Z Z Z)) (.inr ⟨57,_,Z,Z,Z,Z,Z⟩) Z Z Z Z Z (Cv [46,57] [900,50,3,2] [(58,_)] Z Z (λ_=>Cg (DN (c) ([B9 p p.ro[m]]) Z Z Z Z Z Z Z Z d9 (by simp only[ζ];omega) Z Z Z Z)) (.inr ⟨58,_,Z,Z,Z,Z,Z⟩) Z Z Z Z Z (BV 17 Z Z Z (A0 18 Z Z (J (MC Z Z) (AC ⟨Z,?_⟩))))))));refine A0 19 Z Z (J (AM Z L5 Z Z Z) (AC ⟨Z,?_⟩));refine A0 20 Z Z (V (Bi Z Z Z Z Z Z Z v9) (AC ⟨Z,?_⟩));refine Bb (AF (J (Ad Z Z (AJ (m+1) (by omega)) Z) (ch Z Z (AC ?_))));exact ⟨(m+1,c++ [B9 p p.ro[m]]),⟨by show m+1<=_;omega,by show c++ [B9 p p.ro[m]]=(p.ro.take (m+1)).map (B9 p);rw[EB o,v]⟩,by show p.ro.length-(m+1)<p.ro.length-m;omega,AR u [900,1,3,2] Z (Z) ⟨Z,Z,Z,Z,Z,trivial⟩⟩
  .refine Aq (AD ?_);have f:c=p.ro.map (B9 p):=by rw[v,θ (by have h:=i;omega)]
   refine AF (ch Z Z (J (MC Z Z) (J (AM Z L5 Z Z Z) (J (AQ Z Z Z Yl Z) (V (OJ tZ (k:=8) (by decide) isAgg233 sizeOf233 func175 Z Z gD (λa b=>BT a.r b.r) ((NQ.comap mF.r).swo) c (gg p) (by rw[f,χ];omega) (λx _ y _=>ud x y) (λys M L=>ZI C (by rw[<-f];exact M) L) Z Z Z NB Z Z Z Z Z) ?_)))));refine AC (AD (qe (ys:=(gg p).map P3) 3 0 2 900 Z Z Z (by rw[χ,Iy,f,χ];exact Θ _) (θ (by rw[χ,Iy,f,χ];exact Θ _)) Z Z Z Z Z Z (AF (ch Z Z (AB Z Z (AB Z Z (AC (A4 ?_))))))));exact ⟨_,[3,2],_,A2 Z,Z,Z,Z,Z⟩
theorem WW(p:hU)(b:Ek p)(c:Ac p≠0):AI prog 126 [.d (BG p)] (.tup [.raw (.pointer none),AE (Ac p)]):=by
 have a:=EL p b;refine As func126 Z Z ntmps126 Z Z Z λF f=>(AD (AF (V (B7 1 Z Z Z Z Z Z Z) (AB Z Z (AB Z Z (AC (AD (AD ?_))))))));refine AF (J (Ap Z Z Bp Z Z Z) (J (Aj (a) Z Z) (AB Z Z (AC (AD (AF (ch Z Z (J (DJ Z Z Z) ?_))))))));refine AC (CM Z ((Υ c)) (AD (AF (ch Z Z (AB Z Z (AB Z Z (AC (A4 ?_))))))));exact ⟨_,[],[],A2 Z,Z,Z,Z,Z⟩
theorem Xa(l:List cl)(i:Int):Af (DC l) i ek=l.getD ((l.map cl.id).idxOf i) ek:=by
 induction l with
 | nil=>rfl
 | cons a l b=>
  grind[Af,DC]
theorem K7(l:List cl)(i:Int):P0 (DC l) i=decide (i∈l.map cl.id):=by
 rw[nG,GG,l6];unfold DC;rw[jw];rfl
theorem Rr(p:hU)(i:Int):Af (DC p.it) i ek=hG p i:=Xa p.it i
theorem TA(b:Ek a)(i:Int):(hG a i).po.length<=100000/\(hG a i).pa.length<=100000/\(hG a i).af.length<=100000:=by grind[hG,ek,Ek]
theorem PI(p:hU)(l:List Int)(v:Ek p)(y:l.length<=100000)(c:EX p l=0):AO prog 71 [.d (BG p),.d (.sl none (l.map AE))] [] λr x=>r= .tup [.ptr 10 0 0,.map 2 0,.d (AE 0)]/\x=HA p++ [(2,[B5 AE Am (Av l)])]:=by
 have t:Ac p=0:=by
  unfold EX at c;split at c
  .exact c
  .rename_i h;simpa using h
 have o:=(QK p v t).by [(3,10),(2,11)] rfl;have w:EX p l=Sh (p.it.map cl.id) l:=ν (λh=>h t);rw[w] at c;refine As func71 Z Z ntmps71 Z Z Z λF s=>(AD (AF (V (B7 1 Z Z Z Z Z Z Z) ?_)));refine AB Z Z (AB Z Z (AB Z Z (AC (AD (AF (J (Ap Z Z Bp Z Z Z) (V (FX o Z [10,11] ⟨Z,Z,trivial⟩ Z Z Z Z Z Z Z Z Z) (ch Z Z ?_))))))));refine J (D3 Z Z Z) (J (D3 Z Z Z) (AB Z Z (AB Z Z (AC (AD (AD (AF (ch Z Z ?_))))))));refine J (DJ Z Z Z) (AC (Cq Z ((by decide)) (AU (AD (AF (V (S2 2 Z Z Z Z) (AB Z Z (AC ?_))))))));refine AD (AD (AF (ch Z Z (J (BU Z E0 Z) (ch Z Z (AC (AX (BC (α:=Nat) (λk=>⟨48,[(7,(.ptr 10 0 0)),(9,(.map 2 0)),(23,(.d (.sl none (l.map AE)))),(24,(.d (AE (l.length:Int)))),(25,(.d (AE (k:Int))))],HA p++ [(2,[B5 AE Am (Av (l.take k))])]⟩) (λk=>k<=l.length) (λk=>l.length-k) (0) (κ _) (AR s [10,11,2] Z Z ⟨Z,Z,Z,Z,Z,trivial⟩) ?_))))))));rintro k u;refine AD (AF (J (At Z Z Z) (AC (AD (A5 Z (λb=>?_) (λb=>?_))))))
 .have a:k<l.length:=BF b;refine AU (AD (AX (AD (AF ?_))));have i:l[k]∈p.it.map cl.id:=(Sg c).2 _ (ϑ a);have f:l[k]∉l.take k:=λh=>by have g:=(Sg c).1;rw[List.Nodup,l4] at g;obtain ⟨j,z,e⟩:=mz.1 h;exact g j k (by omega) a (by omega) e
  refine J (Al (k) Z Z (Z) (AP a) E0 Z BK Z) (J (BZ Z Z Ai Z) (AB Z Z (AC (AD (AD (AF (ch Z Z (J (MC Z Z) ?_))))))));refine J (AM Z L6 Z Z Z) (J (AQ Z Z Z Up Z) (ch Z Z (J (Oq (DC p.it) l[k] ek Z Z Z VC I6 nV Ht Z) (ch Z Z (J (D3 Z Z Z) (J (D3 Z Z Z) (V (CP 3 Fm Z Z Z Z) (V (Bi Z Z Z Z Z Z Z DP) ?_))))))));refine AB Z Z (AC (AD (AF (ch Z Z (J (QX Z Z) (AC (Cq Z ((by rw[K7,Υ i];rfl)) (AU ?_))))))));refine AD (AD (AF (ch Z Z (ch Z Z (J (I8 (Av (l.take k)) (l[k]) (false) _ Z Z Z KH I6 W8 Z Z) (AC (Cq Z ((by rw[Zl];exact kC f)) (AU ?_))))))));refine AF (ch Z Z (ch Z Z (V (Wf (Av (l.take k)) (l[k]) (true) Z Z Z KH I6 Z Z) (AC (AF (J (Ad Z Z (AJ (k+1) (by omega)) Z) (ch Z Z (AC ?_))))))));exact ⟨k+1,by show k+1<=_;omega,by show l.length-(k+1)<l.length-k;omega,AR s [10,11,2] Z (by rw[ψ a,<-jT f];rfl) ⟨Z,Z,Z,Z,Z,trivial⟩⟩
 .refine Aq ?_;refine AD (AF (ch Z Z (ch Z Z (AB Z Z (AB Z Z (AB Z Z (AC (A4 ?_))))))));exact ⟨_,[10,11,2],_,A2 Z,Z,Z,Z,by rw[θ (show l.length<=k by have h:=b;omega)];rfl⟩
theorem Ua(p:hU)(l:List Int)(z:Ek p)(C:l.length<=100000)(w:EX p l≠0):AI prog 71 [.d (BG p),.d (.sl none (l.map AE))] (.tup [.raw (.pointer none),.raw (.map none),AE (EX p l)]):=by
 by_cases s:Ac p=0
 .have t:=(QK p z s).by [(3,10),(2,11)] rfl;have x:EX p l=Sh (p.it.map cl.id) l:=ν (λh=>h s);rw[x] at w⊢
  obtain ⟨B,r⟩:∃e,Sh (p.it.map cl.id) l=e:=⟨_,Z⟩
  rw[r] at w⊢;refine As func71 Z Z ntmps71 Z Z Z λF v=>(AD (AF (V (B7 1 Z Z Z Z Z Z Z) ?_)));refine AB Z Z (AB Z Z (AB Z Z (AC (AD (AF (J (Ap Z Z Bp Z Z Z) (V (FX t Z [10,11] ⟨Z,Z,trivial⟩ Z Z Z Z Z Z Z Z Z) (ch Z Z ?_))))))));refine J (D3 Z Z Z) (J (D3 Z Z Z) (AB Z Z (AB Z Z (AC (AD (AD (AF (ch Z Z ?_))))))));refine J (DJ Z Z Z) (AC (Cq Z ((by decide)) (AU (AD (AF (V (S2 2 Z Z Z Z) (AB Z Z (AC ?_))))))));refine AD (AD (AF (ch Z Z (J (BU Z E0 Z) (ch Z Z (AC (AX (BC (α:=Nat) (λk=>⟨48,[(7,(.ptr 10 0 0)),(9,(.map 2 0)),(23,(.d (.sl none (l.map AE)))),(24,(.d (AE (l.length:Int)))),(25,(.d (AE (k:Int))))],HA p++ [(2,[B5 AE Am (Av (l.take k))])]⟩) (λk=>k<=l.length/\B=BM (((List.range l.length).drop k).map (IT (p.it.map cl.id) l))) (λk=>l.length-k) (0) (⟨κ _,r.symm⟩) (AR v [10,11,2] Z Z ⟨Z,Z,Z,Z,Z,trivial⟩) ?_))))))));rintro k ⟨A,y⟩;refine AD (AF (J (At Z Z Z) (AC (AD (A5 Z (λo=>?_) (λo=>?_))))))
  .have f:k<l.length:=BF o;refine AU (AD (AX (AD (AF ?_))));have j:=sK f y;have i:=Dy 0 f;refine J (Al (k) Z Z (Z) (AP f) E0 Z BK Z) (J (BZ Z Z Ai Z) (AB Z Z (AC (AD (AD (AF (ch Z Z ?_)))))));refine J (MC Z Z) (J (AM Z L6 Z Z Z) (J (AQ Z Z Z Up Z) (ch Z Z (J (Oq (DC p.it) l[k] ek Z Z Z VC I6 nV Ht Z) (ch Z Z (J (D3 Z Z Z) (J (D3 Z Z Z) (V (CP 3 Fm Z Z Z Z) ?_))))))));refine V (Bi Z Z Z Z Z Z Z DP) (AB Z Z (AC (AD (AF (ch Z Z (J (QX Z Z) (AC (KB Z (λb=>?_) (λb=>?_)))))))))
   .have g:¬l[k]∈p.it.map cl.id:=by rw[K7] at b;simpa using b
    refine AD (AF (AB Z Z (AB Z Z (AB Z Z (AC (A4 ?_))))));exact ⟨_,[],[],A2 Z,Z,Z,by rw[j.2 9 (by unfold IT;rw[i,ϱ g]) (by decide)],Z⟩
   .have g:l[k]∈p.it.map cl.id:=by rw[K7] at b;simpa using b
    refine AU (AD (AD (AF (ch Z Z (ch Z Z (J (I8 (Av (l.take k)) (l[k]) (false) _ Z Z Z KH I6 W8 Z Z) (AC (KB Z (λa=>?_) (λa=>?_)))))))))
    .have c:l[k]∈l.take k:=by rw[Zl] at a;simpa using a
     refine AD (AF (AB Z Z (AB Z Z (AB Z Z (AC (A4 ?_))))));exact ⟨_,[],[],A2 Z,Z,Z,by rw[j.2 7 (by unfold IT;rw[i,ν (λh=>h g),ϱ c]) (by decide)],Z⟩
    .have c:¬l[k]∈l.take k:=by rw[Zl] at a;simpa using a
     refine AU ?_;refine AF (ch Z Z (ch Z Z (V (Wf (Av (l.take k)) (l[k]) (true) Z Z Z KH I6 Z Z) (AC (AF (J (Ad Z Z (AJ (k+1) (by omega)) Z) (ch Z Z (AC ?_))))))));exact ⟨k+1,⟨by show k+1<=_;omega,j.1 (by unfold IT;rw[i,ν (λh=>h g),ν c])⟩,by show l.length-(k+1)<l.length-k;omega,AR v [10,11,2] Z (by rw[ψ f,<-jT c];rfl) ⟨Z,Z,Z,Z,Z,trivial⟩⟩
  .refine Aq ?_;refine AD (AF (ch Z Z (ch Z Z (AB Z Z (AB Z Z (AB Z Z (AC (A4 ?_))))))));exact absurd (by rw[y,mx (by have h:=o;simp only[kp];omega)];rfl) w
 .have x:EX p l=Ac p:=ϱ s;have u:=WW p z s;rw[x];refine As func71 Z Z ntmps71 Z Z Z λF v=>(AD (AF (V (B7 1 Z Z Z Z Z Z Z) (AB Z Z (AB Z Z ?_)))));refine AB Z Z (AC (AD (AF (J (Ap Z Z Bp Z Z Z) (J (Aj (u) Z Z) (ch Z Z (J (Cc Z Z Z) (J (Cc Z Z Z) ?_))))))));refine AB Z Z (AB Z Z (AC (AD (AD (AF (ch Z Z (J (DJ Z Z Z) (AC ?_))))))));refine CM Z ((Υ s)) (AD (AF (ch Z Z (AB Z Z (AB Z Z (AB Z Z (AC (A4 ?_))))))));exact ⟨_,[],[],A2 Z,Z,Z,Z,Z⟩
structure kU where
 i:Int
 m:Int
 r:AW
 deriving DecidableEq
abbrev HH:AW:=⟨0,Tn,[],[]⟩
abbrev II(x:kU):D:= .agg [AE x.i,AE x.m,AE x.r.k,Ak x.r.acc.o,AE x.r.acc.k,Ak x.r.acc.a,Ak x.r.f,Ak x.r.t]
def kH(i:Int)(q:List Int):Nat:=(max (Sz i q) 0).toNat
def j7(i:Int)(q:List Int):List Int:=q.take (kH i q)
def U5(i:Int)(af:List Int):List kU:=(Ch af).map λx=>⟨i,x,HH⟩
def CJ(i:Int)(x:mF):List kU:=(j7 i x.q).map λy=>⟨i,y,x.r⟩
def ka(p:hU)(i:Int):List kU:=U5 i (hG p i).af++(gg p).flatMap (CJ i)
def CS(jz:Int->Bool)(l:List kU):List kU:=l.filter λb=>!jz b.m
def jz(M:List (Int×Bool))(x:Int):Bool:=Af M x false
theorem eZ(i:Int)(q:List Int):kH i q<=q.length:=by grind[kH,Sz]
theorem e9(i:Int)(q:List Int):max (Sz i q) 0=(kH i q:Int):=by unfold kH;omega
theorem JS(f:Int->Bool)(l m:List kU):CS f (l++m)=CS f l++CS f m:=lv _ _
theorem cF(f:Int->Bool)(l:List kU):(CS f l).length<=l.length:=lE _ _
theorem Dr{l:List kU}(a:k<l.length):CS f (l.take (k+1))=CS f (l.take k)++(if !f l[k].m then [l[k]] else []):=cO a
theorem jQ{f:t->List o}{l:List t}(a:k<l.length):(l.take (k+1)).flatMap f=(l.take k).flatMap f++f l[k]:=by
 rw[ψ a,List.flatMap_append];simp
theorem JF{b c:Type}{f:b->List c}{n:Nat}:∀{l:List b},(∀x∈l,(f x).length<=n)->(l.flatMap f).length<=l.length*n
 | [],_=>by simp
 | a::l,h=>by
  have j:=h a (by simp);have i:=JF (l:=l) (λx g=>h x (by simp[g]));rw[List.flatMap_cons,Δ,mH,mY];omega
theorem gB(x:mF)(b:x∈gg a):x.q.length<=a.it.length:=by
 unfold gg at b;obtain ⟨y,_,rfl⟩:=Γ.1 b;show (hY (hJ a) y.r).length<=_
 grind[hY,DW]
theorem U4(i:Int)(x:mF)(b:x∈gg a):(CJ i x).length<=a.it.length:=by
 unfold CJ j7;rw[χ,η];have:=gB x b;omega
abbrev mapV(mv:Nat):AV:= .d (.raw (.map (some mv)))
abbrev nQ(p:hU)(mv:Nat)(bs:Option (List Nat×Nat))(M:List (Int×Bool)):Hp:=HA p++ [(12,[.map bs (Bg AE Am M)]),(13,[.addr 12 0 (.map (some mv))])]
theorem Xr(p:hU)(g:Nat)(K:Option (List Nat×Nat))(M:List (Int×Bool))(i:Int)(hb:Ek p)(h1:p.it.length<=1000)(h2:p.ro.length<=1000):AO prog 127 [.ptr 10 0 0,mapV g,.d (AE i)] (nQ p g K M) λr H'=>r= .d (.sl none ((CS (jz M) (ka p i)).map II))/\H'=nQ p g K M:=by
 have hI:=Rr p i;have hIb:=TA hb i;have hLl:=Iy p;have W:=(ig (hG p i).af (by omega)).by [(20,21)] rfl;have E:∀x∈gg p,(CJ i x).length<=1000:=λx N=>jp (U4 i x N) h1;have B:=E7 (hG p i).af
 obtain ⟨S,X⟩:∃S,Ch (hG p i).af=S:=⟨_,Z⟩
 have C:ka p i=(S.map λx=>(⟨i,x,HH⟩:kU))++(gg p).flatMap (CJ i):=by unfold ka U5;rw[X]
 rw[C];rw[X] at B;refine As func127 Z Z ntmps127 Z Z Z λF s=>(AD ?_);refine AF (AB Z Z (AC (AD (AF (AB Z Z (AC (AD (IU 7 900 Ow Z Z Z Z ?_))))))));refine AF (ch Z Z (J (MC Z Z) (J (AM Z L6 Z Z Z) (J (AQ Z Z Z Up Z) (ch Z Z (J (UR (DC p.it) i ek (hG p i) Z Z Z VC I6 nV Ht hI Z) (J (Wy Z GN Z Z) (V (FX W Z [21] ⟨Z,trivial⟩ Z Z Z Z Z Z Z Z Z) ?_))))))));refine AB Z Z (AC (AD (AF (ch Z Z (V (UM rx (hG p i).af (by omega) Z Z Z Z Z Z Z) (AC (AD (AD ?_))))))));rw[X];refine Fb (emb:=AE) 8 21 S Z Z Z B.symm Z Z Z (AF (ch Z Z (J (BU Z E0 Z) (ch Z Z (AC (AX (BC (α:=Nat×List kU) (λq=>⟨81,[(0,.ptr 10 0 0),(1,mapV g),(2,.d (AE i)),(7,(.own 900 0 q.2.length)),(26,(.d (.sl none (S.map AE)))),(27,(.d (AE (S.length:Int)))),(28,(.d (AE (q.1:Int))))],nQ p g K M++ [(900,[.rowD 144 8 (q.2.map II)])]⟩) (λq=>q.1<=S.length/\q.2=CS (jz M) ((S.map λx=>(⟨i,x,HH⟩:kU)).take q.1)) (λq=>S.length-q.1) ((0,[])) (⟨κ _,Z⟩) (AR s [10,11,12,13,900] Z Z ⟨Z,Z,Z,Z,Z,Z,Z,trivial⟩) ?_)))))));rintro ⟨k,c⟩ ⟨Q,I⟩;dsimp only at Q I⊢;refine AD (AF (J (At Z Z Z) (AC (AD (A5 Z (λA=>?_) (λA=>?_))))))
 .have t:k<S.length:=BF A;refine AU (AD (AX (AD (AF (J (Al (k) Z Z (Z) (AP t) E0 Z BK Z) (J (BZ Z Z Ai Z) (AB Z Z (AC ?_))))))));refine AD (AF (ch Z Z (EN 32 13 0 Z Z (ch Z Z (J (I8 M S[k] false (jz M S[k]) Z Z Z KH I6 W8 Z Z) (J (QX Z Z) (AC (KB Z (λz=>?_) (λz=>?_)))))))))
  .refine AF ?_;have hal:c.length<=100000:=by rw[I];refine jp (cF _ _) ?_;rw[η,χ];omega
   refine ch Z Z (ch Z Z (ch Z Z ?_));refine J (Dz c7 r9 Z Z Z) (V (CF 1 Ow Z Z Z Z Z Z Z Z) (V (DN (c) ([⟨i,S[k],HH⟩]) Z Z Z Z Z Z Z Z Ow (by simp only[ζ];omega) Z Z Z Z) (AB Z Z (AC (AF (J (Ad Z Z (AJ (k+1) (by omega)) Z) (ch Z Z (AC ?_))))))));exact ⟨(k+1,c++ [⟨i,S[k],HH⟩]),⟨by show k+1<=_;omega,by show c++ [⟨i,S[k],HH⟩]=CS (jz M) ((S.map λx=>(⟨i,x,HH⟩:kU)).take (k+1));rw[Dr (by simpa using t),kT,ϱ (by show (!jz M S[k])=true;simpa using z),I]⟩,by show S.length-(k+1)<S.length-k;omega,AR s [10,11,12,13,900] Z (Z) ⟨Z,Z,Z,Z,Z,Z,Z,trivial⟩⟩
  .refine AU (AF (J (Ad Z Z (AJ (k+1) (by omega)) Z) (ch Z Z (AC ?_))));exact ⟨(k+1,c),⟨by show k+1<=_;omega,by show c=CS (jz M) ((S.map λx=>(⟨i,x,HH⟩:kU)).take (k+1));rw[Dr (by simpa using t),kT,ν (by show ¬(!jz M S[k])=true;simpa using z),kY,I]⟩,by show S.length-(k+1)<S.length-k;omega,AR s [10,11,12,13,900] Z (Z) ⟨Z,Z,Z,Z,Z,Z,Z,trivial⟩⟩
 .refine Aq (AD (AD ?_));have H:c=CS (jz M) (S.map λx=>(⟨i,x,HH⟩:kU)):=by rw[I,θ (by rw[χ];have h:=A;omega)]
  have hal1:c.length<=100000:=by rw[H];refine jp (cF _ _) ?_;rw[χ];omega
  refine AF ?_;refine ch Z Z (J (MC Z Z) (J (AM Z L5 Z Z Z) (J (AQ Z Z Z Yl Z) (J (BU Z underlying227 Z) (ch Z Z (AC (AX (BC (α:=Nat×List kU) (λq=>⟨81,[(0,.ptr 10 0 0),(1,mapV g),(2,.d (AE i)),(7,(.own 900 0 q.2.length)),(46,(.d (.sl none ((gg p).map P3)))),(47,(.d (AE ((gg p).length:Int)))),(48,(.d (AE (q.1:Int))))],nQ p g K M++ [(900,[.rowD 144 8 (q.2.map II)])]⟩) (λq=>q.1<=(gg p).length/\q.2=c++CS (jz M) (((gg p).take q.1).flatMap (CJ i))) (λq=>(gg p).length-q.1) ((0,c)) (⟨κ _,by simp[CS]⟩) (AR s [10,11,12,13,900] Z Z ⟨Z,Z,Z,Z,Z,Z,Z,trivial⟩) ?_))))))));rintro ⟨m,b⟩ ⟨O,L⟩;dsimp only at O L⊢;refine AD (AF (J (At Z Z Z) (AC (AD (A5 Z (λy=>?_) (λy=>?_))))))
  .have o:m<(gg p).length:=BF y;refine AU (AD (AX (AD (AF ?_))));have hql:=gB _ (ϑ o);have T:=JF (f:=CJ i) (n:=1000) (l:=(gg p).take m) (λx N=>E x (lI N));have hbl:b.length<=1200000:=by rw[L,Δ];have:=cF (jz M) (((gg p).take m).flatMap (CJ i));rw[η] at T;have h3:min m (gg p).length*1000<=1000*1000:=lk _ (by omega);omega
   refine J (Al (m) Z Z (Z) (AP o) underlying227 Z YU Z) (J (CY Z Z rX Z) (V (CP 2 cV Z Z Z Z) (V (Bi Z Z Z Z Z Z Z YU) (AC (AD (AF ?_))))));refine J (AM Z ZW Z Z Z) (J (AQ Z Z Z BL Z) (ch Z Z (J (Aj (ZR (gg p)[m].q i (by omega)) Z Z) (AB Z Z (AC (AD (AF (J (AM Z ZW Z Z Z) ?_))))))));refine J (AQ Z Z Z BL Z) (ch Z Z (J (MR Z Z (wV _) Z) (J (YD ((gg p)[m].q) (kH i (gg p)[m].q) Z Z Z (e9 _ _) (eZ _ _) E0 BK (λ_=>rfl) Z) (J (BU Z E0 Z) (ch Z Z (AC (AX (BC (α:=Nat×List kU) (λq=>⟨81,[(0,.ptr 10 0 0),(1,mapV g),(2,.d (AE i)),(7,(.own 900 0 q.2.length)),(12,(.ptr 2 0 0)),(46,(.d (.sl none ((gg p).map P3)))),(47,(.d (AE ((gg p).length:Int)))),(48,(.d (AE (m:Int)))),(60,(.d (.sl none ((j7 i (gg p)[m].q).map AE)))),(61,(.d (AE ((j7 i (gg p)[m].q).length:Int)))),(62,(.d (AE (q.1:Int))))],nQ p g K M++ [(900,[.rowD 144 8 (q.2.map II)]),(2,[.blk 233 [.d (AE (gg p)[m].r.k),.d (Ak (gg p)[m].r.acc.o),.d (AE (gg p)[m].r.acc.k),.d (Ak (gg p)[m].r.acc.a),.d (Ak (gg p)[m].r.f),.d (Ak (gg p)[m].r.t),.d (AE (gg p)[m].n),.d (.sl none ((gg p)[m].q.map AE))]])]⟩) (λq=>q.1<=(j7 i (gg p)[m].q).length/\q.2=b++CS (jz M) ((CJ i (gg p)[m]).take q.1)) (λq=>(j7 i (gg p)[m].q).length-q.1) ((0,b)) (⟨κ _,by simp[CS]⟩) (AR s [10,11,12,13,900,2] Z Z ⟨Z,Z,Z,Z,Z,Z,Z,Z,Z,Z,Z,trivial⟩) ?_))))))));rintro ⟨j,a⟩ ⟨R,G⟩;dsimp only at R G⊢;refine AD (AF (J (At Z Z Z) (AC (AD (A5 Z (λw=>?_) (λw=>?_))))))
   .have u:j<(j7 i (gg p)[m].q).length:=BF w;refine AU (AD (AX (AD (AF (J (Al (j) Z Z (Z) (AP u) E0 Z BK Z) (J (BZ Z Z Ai Z) (AB Z Z (AC ?_))))))));refine AD (AF (ch Z Z (EN 66 13 0 Z Z (ch Z Z (J (I8 M (j7 i (gg p)[m].q)[j] false (jz M (j7 i (gg p)[m].q)[j]) Z Z Z KH I6 W8 Z Z) (J (QX Z Z) (AC (KB Z (λv=>?_) (λv=>?_)))))))))
    .refine AF ?_;have Y:a.length<=1300000:=by rw[G,Δ];have h3:=cF (jz M) ((CJ i (gg p)[m]).take j);have h4:=E _ (ϑ o);rw[η] at h3;omega
     refine ch Z Z (ch Z Z (ch Z Z (J (AM Z L4 Z Z Z) (J (Ap Z Z Cw Z Z Z) ?_))));refine J (Dz c7 r9 Z Z Z) (V (CF 3 Ow Z Z Z Z Z Z Z Z) (V (DN (a) ([⟨i,(j7 i (gg p)[m].q)[j],(gg p)[m].r⟩]) Z Z Z Z Z Z Z Z Ow (by simp only[ζ];omega) Z Z Z Z) (AB Z Z (AC (AF (J (Ad Z Z (AJ (j+1) (by have h5:(j7 i (gg p)[m].q).length<=1000:=by {unfold j7;rw[η];omega};omega)) Z) (ch Z Z (AC ?_))))))));exact ⟨(j+1,a++ [⟨i,(j7 i (gg p)[m].q)[j],(gg p)[m].r⟩]),⟨by show j+1<=_;omega,by show a++ [⟨i,(j7 i (gg p)[m].q)[j],(gg p)[m].r⟩]=b++CS (jz M) ((CJ i (gg p)[m]).take (j+1));rw[Dr (by unfold CJ;simpa using u),G,lh];congr 2;unfold CJ;rw[kT,ϱ (by show (!jz M (j7 i (gg p)[m].q)[j])=true;simpa using v)]⟩,by show (j7 i (gg p)[m].q).length-(j+1)<(j7 i (gg p)[m].q).length-j;omega,AR s [10,11,12,13,900,2] Z (Z) ⟨Z,Z,Z,Z,Z,Z,Z,Z,Z,Z,Z,trivial⟩⟩
    .refine AU (AF (J (Ad Z Z (AJ (j+1) (by have h5:(j7 i (gg p)[m].q).length<=1000:=by {unfold j7;rw[η];omega};omega)) Z) (ch Z Z (AC ?_))));exact ⟨(j+1,a),⟨by show j+1<=_;omega,by show a=b++CS (jz M) ((CJ i (gg p)[m]).take (j+1));rw[Dr (by unfold CJ;simpa using u),G];unfold CJ;rw[kT,ν (by show ¬(!jz M (j7 i (gg p)[m].q)[j])=true;simpa using v),kY]⟩,by show (j7 i (gg p)[m].q).length-(j+1)<(j7 i (gg p)[m].q).length-j;omega,AR s [10,11,12,13,900,2] Z (Z) ⟨Z,Z,Z,Z,Z,Z,Z,Z,Z,Z,Z,trivial⟩⟩
   .have D:a=b++CS (jz M) (CJ i (gg p)[m]):=by rw[G,θ (by unfold CJ;rw[χ];have h:=w;omega)]
    refine Aq (AF (J (Ad Z Z (AJ (m+1) (by omega)) Z) (ch Z Z (AC ?_))));exact ⟨(m+1,a),⟨by show m+1<=_;omega,by show a=c++CS (jz M) (((gg p).take (m+1)).flatMap (CJ i));rw[jQ o,JS,<-lh,<-L];exact D⟩,by show (gg p).length-(m+1)<(gg p).length-m;omega,AR s [10,11,12,13,900] Z (Z) ⟨Z,Z,Z,Z,Z,Z,Z,trivial⟩⟩
  .refine Aq (AD ?_);have U:b=CS (jz M) ((S.map λx=>(⟨i,x,HH⟩:kU))++(gg p).flatMap (CJ i)):=by rw[L,H,θ (by have h:=y;omega),JS]
   refine Fb (emb:=II) 7 900 b Z Z Z Z Z Z Z (AF (ch Z Z (AB Z Z (AC (A4 ?_)))));exact ⟨_,[10,11,12,13],_,A2 Z,Z,Z,by rw[U],Z⟩
def FP(p:hU)(f:Int->Bool)(i:Int):List kU:=if f i then CS f (ka p i) else []
def jc(p:hU)(f:Int->Bool):List kU:=(I3 p).flatMap (FP p f)
theorem OL(c:Ek a)(g:a.it.length<=1000)(k:a.ro.length<=1000)(i:Int):(ka a i).length<=1100000:=by
 unfold ka U5;rw[Δ,χ,E7];have j:=TA c i;have h:=JF (f:=CJ i) (n:=1000) (l:=gg a) (λx b=>jp (U4 i x b) g)
 grind[Iy]
theorem WT(b:Ek a)(g:a.it.length<=1000)(c:a.ro.length<=1000)(f:Int->Bool)(i:Int):(FP a f i).length<=1100000:=by grind[FP,cF,OL]
theorem ZM{a N:Nat}(h:a<=k*N):a<=(k+1)*N:=jp h (lk _ (Nat.le_succ _))
theorem VM{a b:List t}{N:Nat}(h:a.length<=k*N)(c:b.length<=N):(a++b).length<=(k+1)*N:=by grind
theorem ir(p:hU)(g:Nat)(u:Option (List Nat×Nat))(M:List (Int×Bool))(o:Ek p)(l:p.it.length<=1000)(t:p.ro.length<=1000):AO prog 72 [.ptr 10 0 0,mapV g] (nQ p g u M) λr C=>r= .d (.sl none ((jc p (jz M)).map II))/\C=nQ p g u M:=by
 have B:∀i,(FP p (jz M) i).length<=1100000:=WT o l t _;have j:(I3 p).length<=1000:=by unfold I3;rw[χ];exact jp (DW p) l
 have x:jc p (jz M)=(I3 p).flatMap (FP p (jz M)):=rfl;rw[x];refine As func72 Z Z ntmps72 Z Z Z λF z=>(AD (AF (AB Z Z ?_)));refine AC (AD (AF (AB Z Z (AC (AD (AD (IU 5 900 Ow Z Z Z Z (AF ?_))))))));refine ch Z Z (J (MC Z Z) (J (AM Z pO Z Z Z) (J (AQ Z Z Z BL Z) (J (BU Z E0 Z) (ch Z Z (AC (AX (BC (α:=Nat×List kU) (λq=>⟨28,[(0,.ptr 10 0 0),(1,mapV g),(5,(.own 900 0 q.2.length)),(11,(.d (.sl none ((I3 p).map AE)))),(12,(.d (AE ((I3 p).length:Int)))),(13,(.d (AE (q.1:Int))))],nQ p g u M++ [(900,[.rowD 144 8 (q.2.map II)])]⟩) (λq=>q.1<=(I3 p).length/\q.2=((I3 p).take q.1).flatMap (FP p (jz M))/\q.2.length<=q.1*1100000) (λq=>(I3 p).length-q.1) ((0,[])) (⟨κ _,Z,Θ _⟩) (AR z [10,11,12,13,900] Z Z ⟨Z,Z,Z,Z,Z,Z,trivial⟩) ?_))))))));rintro ⟨k,a⟩ ⟨v,s,y⟩;dsimp only at v s y⊢;refine AD (AF (J (At Z Z Z) (AC (AD (A5 Z (λf=>?_) (λf=>?_))))))
 .have b:k<(I3 p).length:=BF f;refine AU (AD (AX (AD (AF (J (Al (k) Z Z (Z) (AP b) E0 Z BK Z) (J (BZ Z Z Ai Z) (AB Z Z ?_)))))));refine AC (AD (AF (ch Z Z (EN 17 13 0 Z Z (ch Z Z (J (I8 M (I3 p)[k] false (jz M (I3 p)[k]) Z Z Z KH I6 W8 Z Z) (AC (KB Z (λc=>?_) (λc=>?_)))))))))
  .refine AF (ch Z Z (ch Z Z (ch Z Z (ch Z Z (V (FX (Xr p g u M (I3 p)[k] o l t) Z [10,11,12,13] ⟨Z,Z,Z,Z,trivial⟩ Z Z Z Z Z Z Z Z Z) ?_)))));have A:=jp (cF (jz M) _) (OL o l t (I3 p)[k]);refine V (Jr (a) (CS (jz M) (ka p (I3 p)[k])) Z Z Z Z Z Z (λ_=>rfl) Ow (by omega) Z Z Z Z) (AB Z Z (AC (AF (J (Ad Z Z (AJ (k+1) (by have h:=j;omega)) Z) (ch Z Z (AC ?_))))));exact ⟨(k+1,a++CS (jz M) (ka p (I3 p)[k])),⟨by show k+1<=_;omega,by show a++CS (jz M) (ka p (I3 p)[k])=((I3 p).take (k+1)).flatMap (FP p (jz M));rw[jQ b,<-s];unfold FP;rw[ϱ (by simpa using c)],VM y (jp (cF (jz M) _) (OL o l t (I3 p)[k]))⟩,by show (I3 p).length-(k+1)<(I3 p).length-k;omega,AR z [10,11,12,13,900] Z (Z) ⟨Z,Z,Z,Z,Z,Z,trivial⟩⟩
  .refine AU (AF (J (Ad Z Z (AJ (k+1) (by have h:=j;omega)) Z) (ch Z Z (AC ?_))));exact ⟨(k+1,a),⟨by show k+1<=_;omega,by show a=((I3 p).take (k+1)).flatMap (FP p (jz M));rw[jQ b,<-s];unfold FP;rw[ν (by simpa using c),kY],ZM y⟩,by show (I3 p).length-(k+1)<(I3 p).length-k;omega,AR z [10,11,12,13,900] Z (Z) ⟨Z,Z,Z,Z,Z,Z,trivial⟩⟩
 .refine Aq (AD ?_);have w:a=(I3 p).flatMap (FP p (jz M)):=by rw[s,θ (by have h:=f;omega)]
  refine Fb (emb:=II) 5 900 a Z Z Z Z Z Z Z (AF (ch Z Z (AB Z Z (AC (A4 ?_)))));exact ⟨_,[10,11,12,13],_,A2 Z,Z,Z,by rw[w],Z⟩
def DO(p:hU)(r:AW)(l:List (Int×Bool)):Int:=(l.map λe=>if e.2=true then BO (hG p e.1) r else 0).sum
theorem MN{r:AW}{l m:List (Int×Bool)}(h:l.Perm m):DO a r l=DO a r m:=Ui h _
theorem Zz(p:hU)(r:AW)(e:Int×Bool)(l:List (Int×Bool)):DO p r (e::l)=(if e.2=true then BO (hG p e.1) r else 0)+DO p r l:=by simp[DO]
theorem KN(p:hU)(r:AW)(k:Int)(v:Bool)(l:List (Int×Bool)):DO p r ((k,v)::l)=(if v=true then BO (hG p k) r else 0)+DO p r l:=Zz p r (k,v) l
theorem WO(h:EX a j=0):Ac a=0:=by grind[EX]
theorem Xj(i:cl)(r:AW): -1000000000000000<=BO i r/\BO i r<=1000000000000000:=by
 unfold BO
 split
 all_goals (simp[*,O6])
theorem MO(p:hU)(r:AW){l:List (Int×Bool)}(h:l.length<=1000): -1000000000000000000<=DO p r l/\DO p r l<=1000000000000000000:=by
 have:=J2 (l:=l) (f:=λe=>if e.2=true then BO (hG p e.1) r else 0) (B:=1000000000000000) (λe _=>by
  show _<=(if e.2=true then _ else _)/\_;have:=Xj (hG p e.1) r
  split<;>omega) 1000 h (by omega)
 unfold DO;omega
def KO(p:hU)(M:List (Int×Bool))(x:mF):List ey:=if x.n+DO p x.r M<0 then [⟨x.r,0-(x.n+DO p x.r M)⟩] else []
def Ju(p:hU)(M:List (Int×Bool)):List ey:=(gg p).flatMap (KO p M)
theorem gC(f:Ac a=0)(x:mF)(b:x∈gg a):0<=x.n/\x.n<=4000000000000000:=by
 unfold gg at b;obtain ⟨y,c,rfl⟩:=Γ.1 b;have:=HI (IL f).1 y ((qf a.ro).mem_iff.1 c);show 0<=max y.n 0/\max y.n 0<=_;omega
abbrev xM(p:hU)(mv:Nat)(M:List (Int×Bool)):Hp:=HA p++ [(12,[B5 AE Am M]),(13,[.addr 12 0 (.map (some mv))])]
theorem S7(p:hU)(j:Nat)(M:List (Int×Bool))(Q:Ac p=0)(E:Ek p)(D:M.length<=1000):AO prog 74 [.ptr 10 0 0,mapV j] (xM p j M) λr X=>r= .d (.sl none ((Ju p M).map BY))/\X=xM p j M:=by
 have S:=E.1;have T:=Iy p;refine As func74 Z Z ntmps74 Z Z Z λF t=>(AD (AF (AB Z Z ?_)));refine AC (AD (AF (AB Z Z (AC (AD (AD (IU 5 900 sm Z Z Z Z (AF ?_))))))));refine ch Z Z (J (MC Z Z) (J (AM Z L5 Z Z Z) (J (AQ Z Z Z Yl Z) (J (BU Z underlying227 Z) (ch Z Z (AC (AX (BC (α:=Nat×List ey) (λq=>⟨53,[(0,.ptr 10 0 0),(1,mapV j),(5,(.own 900 0 q.2.length)),(14,(.d (.sl none ((gg p).map P3)))),(15,(.d (AE ((gg p).length:Int)))),(16,(.d (AE (q.1:Int))))],xM p j M++ [(900,[.rowD 73 7 (q.2.map BY)])]⟩) (λq=>q.1<=(gg p).length/\q.2=((gg p).take q.1).flatMap (KO p M)/\q.2.length<=q.1) (λq=>(gg p).length-q.1) ((0,[])) (⟨κ _,Z,Θ _⟩) (AR t [10,11,12,13,900] Z Z ⟨Z,Z,Z,Z,Z,Z,trivial⟩) ?_))))))));rintro ⟨k,a⟩ ⟨A,y,U⟩;dsimp only at A y U⊢;refine AD (AF (J (At Z Z Z) (AC (AD (A5 Z (λs=>?_) (λs=>?_))))))
 .have g:k<(gg p).length:=BF s;refine AU (AD (AX (AD (AF ?_))));have I:=gC Q _ (ϑ g);refine J (Al (k) Z Z (Z) (AP g) underlying227 Z YU Z) (J (CY Z Z rX Z) ?_);refine V (CP 1 cV Z Z Z Z) (V (Bi Z Z Z Z Z Z Z YU) (AC (AD (AF (J (AM Z pN Z Z Z) (J (AQ Z Z Z FJ Z) (AB Z Z (AC ?_))))))));refine AD (AD (AF (ch Z Z (EN 22 13 0 Z Z (V (HC 2 Z Z Z KH Z Z Z Z) (AC (AX (BC (α:=List Nat×Int) (λq=>⟨53,[(0,.ptr 10 0 0),(1,mapV j),(5,(.own 900 0 a.length)),(7,(.ptr 1 0 0)),(8,(.d (AE q.2))),(14,(.d (.sl none ((gg p).map P3)))),(15,(.d (AE ((gg p).length:Int)))),(16,(.d (AE (k:Int)))),(23,(.ptr 2 0 0))],xM p j M++ [(900,[.rowD 73 7 (a.map BY)]),(1,[.blk 233 [.d (AE (gg p)[k].r.k),.d (Ak (gg p)[k].r.acc.o),.d (AE (gg p)[k].r.acc.k),.d (Ak (gg p)[k].r.acc.a),.d (Ak (gg p)[k].r.f),.d (Ak (gg p)[k].r.t),.d (AE (gg p)[k].n),.d (.sl none ((gg p)[k].q.map AE))]]),(2,[.iter 12 0 M.length q.1])]⟩) (λq=>q.2+DO p (gg p)[k].r (CX M (List.range M.length) q.1)=(gg p)[k].n+DO p (gg p)[k].r M) (λq=>(CX M (List.range M.length) q.1).length) (([],(gg p)[k].n)) (by show (gg p)[k].n+DO p (gg p)[k].r (CX M (List.range M.length) [])=_;rw[Dl (by simp)]) (AR t [10,11,12,13,900,1,2] Z Z ⟨Z,Z,Z,Z,Z,Z,Z,Z,Z,trivial⟩) ?_))))))));rintro ⟨seen,left⟩ x;dsimp only at x⊢;refine AD (AF (Mg (M) Z Z Z Z (λv=>?_) (λz c b H u w G f=>⟨_,Z,?_⟩)))
  .have i:left=(gg p)[k].n+DO p (gg p)[k].r M:=by have W:=x;rw[v] at W;have Y:DO p (gg p)[k].r []=0:=rfl;omega
   refine J (D3 Z Z Z) (AC ?_);refine AD (Cq Z Z (Aq (AD (AF (ch Z Z (J (At Z Z Z) (AC (A5 Z (λl=>?_) (λl=>?_)))))))))
   .refine AF ?_;have K:=MO p (gg p)[k].r D;refine ch Z Z (J (AM Z L4 Z Z Z) (J (Ap Z Z Cw Z Z Z) (ch Z Z (J (Wv Z (Ξ _ (by omega)) Z) ?_))));refine J (Dz xP xj Z Z Z) (V (CF 3 sm Z Z Z Z Z Z Z Z) (V (DN (a) ([⟨(gg p)[k].r,0-left⟩]) Z Z Z Z Z Z Z Z sm (by simp only[ζ];omega) Z Z Z Z) (AB Z Z (AC (AF (J (Ad Z Z (AJ (k+1) (by omega)) Z) (ch Z Z (AC ?_))))))));exact ⟨(k+1,a++ [⟨(gg p)[k].r,0-left⟩]),⟨by show k+1<=_;omega,by show a++ [⟨(gg p)[k].r,0-left⟩]=((gg p).take (k+1)).flatMap (KO p M);rw[jQ g,<-y];unfold KO;rw[<-i,ϱ (by simpa using l)],by show (a++ [_]).length<=k+1;rw[Δ];simp;omega⟩,by show (gg p).length-(k+1)<(gg p).length-k;omega,AR t [10,11,12,13,900] Z (Z) ⟨Z,Z,Z,Z,Z,Z,trivial⟩⟩
   .refine AU (AF (J (Ad Z Z (AJ (k+1) (by omega)) Z) (ch Z Z (AC ?_))));exact ⟨(k+1,a),⟨by show k+1<=_;omega,by show a=((gg p).take (k+1)).flatMap (KO p M);rw[jQ g,<-y];unfold KO;rw[<-i,ν (by simpa using l),kY],by show a.length<=k+1;omega⟩,by show (gg p).length-(k+1)<(gg p).length-k;omega,AR t [10,11,12,13,900] Z (Z) ⟨Z,Z,Z,Z,Z,Z,trivial⟩⟩
  .refine J (D3 Z Z Z) ?_;refine AC (AD (CM Z Z (AU (AX (AD (AF (J (HD (M) z c Z Z Z u w Z) (J (D3 Z Z Z) ?_))))))));refine J (D3 Z Z Z) (AB Z Z (AB Z Z (AC (AD (AF (ch Z Z (AC (KB Z (λo=>?_) (λo=>?_)))))))))
   .refine Bq [[],[],[1],[1,2],[1,2,3],[],[1,2,3,4,5],[],[7],[1,2,3,4,5,6,7,8],rg 10,rg 11] mixed Z (B2 ?_);have R:=TA E b;have O:=MO p (gg p)[k].r D;have N:=MO p (gg p)[k].r (jp (ZL (m:=M) (B:=List.range M.length) (seen:=seen)) D);have L:=Xj (hG p b) (gg p)[k].r;refine A7 8 Z Z (A7 0 Z Z (AK [31] Z (MC Z Z) (AK [32] Z (AM Z L6 Z Z Z) (Ay [33] Z Z (λ_=>Aa (AQ Z Z Z Up Z)) ?_))));refine A7 9 Z Z (Ay [34,35] Z Z (λ_=>Aa (UR (DC p.it) b ek (hG p b) Z Z Z VC I6 nV Ht (Rr p b) Z)) (AK [7] Z (AM Z L4 Z Z Z) (Ay [37] Z Z (λ_=>Aa (Ap Z Z Cw Z Z Z)) (AK [36,38] Z (Aj (Z5 (hG p b) (gg p)[k].r (by omega) (by omega) (by omega)) Z Z) (BV 10 Z Z Z (A0 11 Z Z (J (Ad Z Z (Ξ _ (by omega)) Z) (AC ⟨Z,?_⟩))))))));refine A0 12 Z Z (AB Z Z (AC ⟨Z,?_⟩));refine Bb ?_;exact ⟨(seen++ [c],left+BO (hG p b) (gg p)[k].r),(by show left+BO (hG p b) (gg p)[k].r+DO p (gg p)[k].r (CX M (List.range M.length) (seen++ [c]))=_;rw[<-x,MN f,KN,ϱ (by simpa using o)];omega),by show (CX M (List.range M.length) (seen++ [c])).length<(CX M (List.range M.length) seen).length;rw[f.length_eq];exact mN _,AR t [10,11,12,13,900,1,2] Z (Z) ⟨Z,Z,Z,Z,Z,Z,Z,Z,Z,trivial⟩⟩
   .refine AU ?_;exact ⟨(seen++ [c],left),(by show left+DO p (gg p)[k].r (CX M (List.range M.length) (seen++ [c]))=_;rw[<-x,MN f,KN,ν (by simpa using o)];omega),by show (CX M (List.range M.length) (seen++ [c])).length<(CX M (List.range M.length) seen).length;rw[f.length_eq];exact mN _,AR t [10,11,12,13,900,1,2] Z (Z) ⟨Z,Z,Z,Z,Z,Z,Z,Z,Z,trivial⟩⟩
 .refine Aq (AD ?_);have C:a=Ju p M:=by rw[y,θ (by have h:=s;omega)];rfl
  refine Fb (emb:=BY) 5 900 a Z Z Z Z Z Z Z (AF (ch Z Z (AB Z Z (AC (A4 ?_)))));exact ⟨_,[10,11,12,13],_,A2 Z,Z,Z,by rw[C],Z⟩
def C9(l:List Int)(x:Int):Bool:=decide (x∈l)
theorem nZ(p:hU)(l:List Int)(g:Ek p)(h:l.length<=1000):AI prog 28 [.d (BG p),.d (.sl none (l.map AE))] (.tup [.sl none ((if EX p l=0 then Ju p (Av l) else []).map BY),AE (EX p l)]):=by
 by_cases b:EX p l=0
 have a:=(PI p l g (by omega) b).by [(2,12)] rfl;have j:=WO b;rw[ϱ b,b];have f:=λc=>S7 p c (Av l) j g (by unfold Av;rw[χ];exact h);refine As func28 Z Z ntmps28 Z Z Z λF i=>(AD (AF (V (B7 1 Z Z Z Z Z Z Z) (AB Z Z (AB Z Z (AC (AD (AF ?_))))))));refine J (Ap Z Z Bp Z Z Z) (ch Z Z (V (FX a Z [10,11,12] ⟨Z,Z,Z,trivial⟩ Z Z Z Z Z Z Z Z Z) (ch Z Z (J (D3 Z Z Z) (J (D3 Z Z Z) (J (D3 Z Z Z) (AB Z Z (AB Z Z ?_))))))));refine AB Z Z (AC (AD (AD (AF (ch Z Z (J (DJ Z Z Z) (AC (Cq Z ((by decide)) ?_))))))));refine AU (AD (W1 13 12 0 Z Z Z Z Z λc=>(Zg 7 13 0 (.inl Z) Z (AF (ch Z Z (ch Z Z (V (FX (f c) Z [10,11,12,13] ⟨Z,Z,Z,Z,trivial⟩ Z Z Z Z Z Z Z Z Z) (AB Z Z ?_))))))))
 rotate_left
 have a:=Ua p l g (by omega) b;rw[ν b];refine As func28 Z Z ntmps28 Z Z Z λF i=>(AD (AF (V (B7 1 Z Z Z Z Z Z Z) (AB Z Z (Zk 4 Z ?_)))));refine AB Z Z (AC (AD (AF (J (Ap Z Z Bp Z Z Z) (ch Z Z (J (Aj (a) Z Z) (ch Z Z (J (Cc Z Z Z) ?_))))))));refine J (Cc Z Z Z) (J (Cc Z Z Z) (AB Z Z (AB Z Z (AB Z Z (AC (AD (AD (AF ?_))))))));refine ch Z Z (J (DJ Z Z Z) (AC (CM Z ((Υ b)) (AD (AF (ch Z Z (AB Z Z (Zk 4 Z ?_))))))))
 all_goals
  refine AB Z Z (AC (A4 ?_));exact ⟨_,[],[],A2 Z,Z,Z,Z,Z⟩
theorem TE(l:List Int)(x:Int)(i:l.length<=140737488355328):AI prog 156 [.d (.sl none (l.map AE)),.d (AE x)] (.raw (.bool (decide (x∈l)))):=by
 refine As func156 Z Z ntmps156 Z Z Z λF j=>(AD (AF ?_));refine AB Z Z (AC (AD (AD (AF (AB Z Z (AC (AX (FQ (α:=Nat) (λk=>⟨18,[(0,.d (.sl none (l.map AE))),(1,.d (AE x)),(5,(.d (AE (k:Int))))],[]⟩) (λk=>k<=l.length/\x∉l.take k) (λk=>l.length-k) (0) (⟨κ _,by simp⟩) (Zn ⟨Z,Z,Z,trivial⟩) ?_))))))));rintro k ⟨g,f⟩;refine AD (AD (AF (ch Z Z (ch Z Z (J (BU Z E0 Z) (J (At Z Z Z) (AC (A5 Z (λc=>?_) (λc=>?_)))))))))
 .have a:k<l.length:=BF c;refine AU (AD (AX (AD ?_)));refine AF (ch Z Z (ch Z Z (J (Al (k) Z Z (Z) (AP a) E0 Z BK Z) (J (BZ Z Z Ai Z) (ch Z Z (J (Fa Z Z Z) (AC (A5 Z (λb=>?_) (λb=>?_)))))))))
  .refine AD (AF (AB Z Z (AC (A4 ?_))));exact ⟨_,[],[],A2 Z,Z,Z,Sk (by rw[<-b];exact ϑ a),Z⟩
  .refine AU (AF (ch Z Z (J (Ad Z Z (AJ (k+1) (by omega)) Z) (AB Z Z (AC ?_)))));exact ⟨k+1,⟨by show k+1<=_;omega,xB a f (λe=>b e.symm)⟩,by show l.length-(k+1)<l.length-k;omega,⟨Z,Z,λ_ _=>S3.get (l:=[(0,_),(1,_),(5,_)]) ⟨Z,Z,Z,trivial⟩⟩⟩
 .refine Aq (AD (AF (AB Z Z (AC (A4 ?_)))));exact ⟨_,[],[],A2 Z,Z,Z,Hh (FC (by have h:=c;omega) f),Z⟩
theorem PC.le(h:PC g){x y z:c}(i:g x y<=0)(a:g y z<=0):g x z<=0:=by
 by_cases f:g x y=0
 .rw[h.eqv x y z f];exact a
 .by_cases j:g y z=0
  .have r:=h.anti y z;have b:g z y=0:=by omega
   have o:=h.eqv z y x b;have l:=h.anti z x;have k:=h.anti y x;omega
  .have:=h.trans x y z (by omega) (by omega);omega
theorem Hu{k:Type}{c:k->k->Int}(h:PC c){f:List k}{m:Nat}{x:k}(r:f.Pairwise λa b=>¬c b a<0)(w:∀y∈f.take m,c y x<0)(B:∀y,f[m]? =some y->¬c y x<0):((f.take m++ [x])++f.drop m).Pairwise λa b=>¬c b a<0:=by
 have u:∀y∈f.drop m,¬c y x<0:=λy g=>by
  cases hm:f[m]? with
  | none=>
   rw[mx (List.getElem?_eq_none_iff.1 hm)] at g;cases g
  | some z=>
   obtain ⟨j,s⟩:=φ.1 hm;rw[mM j] at g;have o:=B z hm;rcases jt.1 g with g | g
   .rw[g,s];exact o
   .have t:(f.drop m).Pairwise λa b=>¬c b a<0:=r.sublist (List.drop_sublist _ _);rw[mM j,lx] at t;have v:=t.1 y g;rw[s] at v;have A:=h.anti z x;have C:=h.anti y z;have E:=h.anti y x;have:=h.le (x:=x) (y:=z) (z:=y) (by omega) (by omega);omega
 rw[rA];refine ⟨?_,r.sublist (List.drop_sublist _ _),λa i b l=>?_⟩
 .rw[rA];refine ⟨r.sublist (List.take_sublist _ _),List.pairwise_singleton _ _,λa i b l=>?_⟩;rw[ξ.1 l];have:=w a i;have A:=h.anti a x;omega
 .rcases υ.1 i with i | i
  .have v:=w a i;have D:=u b l;have A:=h.anti a b;have C:=h.anti b x;have:=h.le (x:=a) (y:=x) (z:=b) (by omega) (by omega);omega
  .rw[ξ.1 i];exact u b l
theorem LX:((h.take s++ [x])++h.drop s).Perm (h++ [x]):=by
 have a:(h.take s++(x::h.drop s)).Perm (x::(h.take s++h.drop s)):=List.perm_middle;rw[mw] at a;rw[lh];exact a.trans (List.perm_append_singleton x h).symm
theorem qE{a b:Int}:¬DF b a<0↔a<=b:=by unfold DF;split<;>(try split)<;>omega
theorem Tc{a b:Int}:DF a b<0↔a<b:=by unfold DF;split<;>(try split)<;>omega
theorem Ot{l c:List Int}(g:c.Perm l)(f:c.Pairwise λa b=>¬DF b a<0):c=Ch l:=by grind[List.Perm.eq_of_pairwise,Kv,jR,DF]
theorem UU(l:List Int)(D:l.length<=100000):AI prog 111 [.d (.sl none (l.map AE))] (.sl none ((Ch l).map AE)):=by
 refine As func111 Z Z ntmps111 Z Z Z λF u=>(AD ?_);refine AF (AB Z Z (AC (AD (AF (AB Z Z (AC (AD (AD ?_))))))));refine JW 3 Z ?_;refine AF (AB Z Z (AC (AX (BC (α:=Nat×List Int) (λq=>⟨45,[(0,.d (.sl none (l.map AE))),(3,(.d (.sl none (q.2.map AE)))),(4,(.d (AE (q.1:Int))))],[]⟩) (λq=>q.1<=l.length/\q.2.Perm (l.take q.1)/\q.2.Pairwise λa b=>¬DF b a<0) (λq=>l.length-q.1) ((0,[])) (⟨κ _,by simp,List.Pairwise.nil⟩) (AR u [] Z Z ⟨Z,Z,Z,trivial⟩) ?_))));rintro ⟨k,c⟩ ⟨x,t,v⟩;dsimp only at x t v⊢;refine AD (AD (AF (ch Z Z (ch Z Z (J (BU Z E0 Z) (J (At Z Z Z) (AC (A5 Z (λz=>?_) (λz=>?_)))))))))
 .have j:k<l.length:=BF z;refine AU (AD (AX (AD ?_)));have C:c.length<=100000:=by rw[t.length_eq,η];omega
  refine AF (AB Z Z (AC (AD (AX (BC (α:=Nat) (λm=>⟨45,[(0,.d (.sl none (l.map AE))),(3,(.d (.sl none (c.map AE)))),(4,(.d (AE (k:Int)))),(5,(.d (AE (m:Int))))],[]⟩) (λm=>m<=c.length/\∀y∈c.take m,DF y l[k]<0) (λm=>c.length-m) (0) (⟨κ _,by simp⟩) (AR u [] Z Z ⟨Z,Z,Z,Z,trivial⟩) ?_)))));rintro m ⟨B,w⟩;refine AD (AD ?_);refine Bq [[],[],[1],[0,1,2],[0,1,2,3],rg 5,rg 5,rg 7,rg 8,rg 5,rg 5,[0,1,2,3,4,9,10],[0,1,2,3,4,9,10,11],rg 13,rg 14] mixed Z (B2 (A7 5 Z Z (A7 3 Z Z (AK [13] Z (BU Z E0 Z) (BV 3 Z Z Z (A0 4 Z Z (J (At Z Z Z) (AC ⟨Z,?_⟩))))))));refine A0 5 Z Z (ch Z Z (C7 16 Z (λo=>?_) (λo=>?_)))
  .refine AC ⟨Z,?_⟩;refine B2 ?_
   try have i:m<c.length:=BF o
   refine A1 [3,16] [] Z Z (λ_=>BR Z Z Z (FW Z Z)) (A1 [5,16] [] Z Z (λ_=>BR Z Z Z (FW Z Z)) (A1 [17,18,16] [] Z Z (λ_=>BR Z Z Z (Al (m) Z Z (Z) (AP i) E0 Z BK Z)) (A1 [19,16] [] Z Z (λ_=>BR Z Z Z (BZ Z Z Ai Z)) ?_)));refine A1 [0,16] [] Z Z (λ_=>BR Z Z Z (FW Z Z)) (A1 [4,16] [] Z Z (λ_=>BR Z Z Z (FW Z Z)) (A1 [21,22,16] [] Z Z (λ_=>BR Z Z Z (Al (k) Z Z (Z) (AP j) E0 Z BK Z)) (A1 [23,16] [] Z Z (λ_=>BR Z Z Z (BZ Z Z Ai Z)) (BV 13 Z Z Z (A0 14 Z Z (AT Z Z Z (J (At Z Z Z) (AC ⟨Z,?_⟩))))))));refine A0 15 Z Z (J (B8 Z Z Z Z) (AC ⟨Z,?_⟩));refine Bb (A5 Z (λr=>?_) (λr=>?_))
   .refine AU (AX (AF (ch Z Z (J (Ad Z Z (AJ (m+1) (by omega)) Z) (AB Z Z (AC ?_))))));exact ⟨m+1,⟨by show m+1<=_;omega,by rw[ψ i];intro y f;rcases υ.1 f with f | f;exact w y f;rw[ξ.1 f];exact Tc.2 r⟩,by show c.length-(m+1)<c.length-m;omega,AR u [] Z (Z) ⟨Z,Z,Z,Z,trivial⟩⟩
   .refine Aq ?_;have g:∀y,c[m]? =some y->¬DF y l[k]<0:=by first | (intro y f;have s:=(φ.1 f).1;exact absurd s (by have h:=o;omega)) | (intro y f;rw[ω i] at f;injection f with f;rw[<-f];intro s;exact r (Tc.1 s))
    refine Bq [[],[],[],[1,2],[0,1,2,3],[],[],[5,6],[5,6,7],[5,6,7,8],rg 10,[],[],[11,12],rg 14,rg 15] mixed Z (B2 (Cv [] [20] [(29,_)] Z Z (λ_=>Cg (CF 20 Ao Z Z Z Z Z Z Z Z)) (.inr ⟨29,_,Z,Z,Z,Z,Z⟩) Z Z Z Z Z ?_));refine A7 3 Z Z (A7 5 Z Z (AK [30,31] Z (YD (c) (m) Z Z Z (Z) (by omega) E0 BK (λ_=>rfl) Z) (Cv [29,32] [20] [(33,_)] Z Z (λ_=>Cg (Jr (([]:List Int)) (c.take m) Z Z Z Z Z Z (λ_=>rfl) Ao (by simp only[lT,η];omega) Z Z Z Z)) (.inr ⟨33,_,Z,Z,Z,Z,Z⟩) Z Z Z Z Z (A7 0 Z Z (A7 4 Z Z (AK [34,35] Z (Al (k) Z Z (Z) (AP j) E0 Z BK Z) (AK [36] Z (BZ Z Z Ai Z) (Cv [37] [21] [(38,_)] Z Z (λ_=>Cg (CF 21 Ao Z Z Z Z Z Z Z Z)) (.inr ⟨38,_,Z,Z,Z,Z,Z⟩) Z Z Z Z Z ?_))))))));refine Kj [29] [33,38] [20,21] [(39,_)] Z Z (λ_=>Cg (DN (([]++c.take m)) ([l[k]]) Z Z Z Z Z Z Z Z Ao (by simp only[kN,ζ,η];omega) Z Z Z Z)) (.inr ⟨39,_,Z,Z,Z,Z,Z⟩) Z Z Z Z Z ?_;refine A7 3 Z Z (A7 5 Z Z (AK [40,41] Z (cT (c) (m) Z Z Z (Z) (by omega) E0 BK (λ_=>rfl) Z) (BV 14 Z Z Z (A0 15 Z Z ?_))));refine V (Jr ((([]++c.take m)++ [l[k]])) (c.drop m) Z Z Z Z Z Z (λ_=>rfl) Ao (by simp only[kN,Δ,ζ,η,lX];omega) Z Z Z Z) ?_;refine AC ⟨Z,?_⟩;refine A0 16 Z Z (AB Z Z (AC ⟨Z,?_⟩));refine Bb (Fb (emb:=AE) 3 20 ((([]++c.take m)++ [l[k]])++c.drop m) Z Z Z Z Z Z Z (AF (ch Z Z (J (Ad Z Z (AJ (k+1) (by omega)) Z) (AB Z Z (AC ?_))))));exact ⟨(k+1,_),⟨by show k+1<=_;omega,by show (((([]++c.take m)++ [l[k]])++c.drop m):List Int).Perm (l.take (k+1));rw[ψ j,kN];exact LX.trans (t.append_right _),by show (((([]++c.take m)++ [l[k]])++c.drop m):List Int).Pairwise _;rw[kN];exact Hu kZ v w g⟩,by show l.length-(k+1)<l.length-k;omega,AR u [] Z (Z) ⟨Z,Z,Z,trivial⟩⟩
  .refine AC ⟨Z,?_⟩;refine B2 ?_
   try have i:m<c.length:=BF o
   refine A1 [3,16] [] Z Z (λ_=>Bw Z Z Z Z) (A1 [5,16] [] Z Z (λ_=>Bw Z Z Z Z) (A1 [17,18,16] [] Z Z (λ_=>Bw Z Z Z Z) ?_));refine A1 [19,16] [] Z Z (λ_=>Bw Z Z Z Z) (A1 [0,16] [] Z Z (λ_=>Bw Z Z Z Z) (A1 [4,16] [] Z Z (λ_=>Bw Z Z Z Z) (A1 [21,22,16] [] Z Z (λ_=>Bw Z Z Z Z) (A1 [23,16] [] Z Z (λ_=>Bw Z Z Z Z) (BV 13 Z Z Z (A0 14 Z Z (AN Z Z Z Z (AC ⟨Z,?_⟩))))))));refine A0 15 Z Z (J (Bx Z Z Z Z) (AC ⟨Z,?_⟩));refine Bb (Cq Z Z (Aq ?_));have g:∀y,c[m]? =some y->¬DF y l[k]<0:=by first | (intro y f;have s:=(φ.1 f).1;exact absurd s (by have h:=o;omega)) | (intro y f;rw[ω i] at f;injection f with f;rw[<-f];intro s;exact r (Tc.1 s))
   refine Bq [[],[],[],[1,2],[0,1,2,3],[],[],[5,6],[5,6,7],[5,6,7,8],rg 10,[],[],[11,12],rg 14,rg 15] mixed Z (B2 (Cv [] [20] [(29,_)] Z Z (λ_=>Cg (CF 20 Ao Z Z Z Z Z Z Z Z)) (.inr ⟨29,_,Z,Z,Z,Z,Z⟩) Z Z Z Z Z ?_));refine A7 3 Z Z (A7 5 Z Z (AK [30,31] Z (YD (c) (m) Z Z Z (Z) (by omega) E0 BK (λ_=>rfl) Z) (Cv [29,32] [20] [(33,_)] Z Z (λ_=>Cg (Jr (([]:List Int)) (c.take m) Z Z Z Z Z Z (λ_=>rfl) Ao (by simp only[lT,η];omega) Z Z Z Z)) (.inr ⟨33,_,Z,Z,Z,Z,Z⟩) Z Z Z Z Z (A7 0 Z Z (A7 4 Z Z (AK [34,35] Z (Al (k) Z Z (Z) (AP j) E0 Z BK Z) (AK [36] Z (BZ Z Z Ai Z) (Cv [37] [21] [(38,_)] Z Z (λ_=>Cg (CF 21 Ao Z Z Z Z Z Z Z Z)) (.inr ⟨38,_,Z,Z,Z,Z,Z⟩) Z Z Z Z Z ?_))))))));refine Kj [29] [33,38] [20,21] [(39,_)] Z Z (λ_=>Cg (DN (([]++c.take m)) ([l[k]]) Z Z Z Z Z Z Z Z Ao (by simp only[kN,ζ,η];omega) Z Z Z Z)) (.inr ⟨39,_,Z,Z,Z,Z,Z⟩) Z Z Z Z Z ?_;refine A7 3 Z Z (A7 5 Z Z (AK [40,41] Z (cT (c) (m) Z Z Z (Z) (by omega) E0 BK (λ_=>rfl) Z) (BV 14 Z Z Z (A0 15 Z Z ?_))));refine V (Jr ((([]++c.take m)++ [l[k]])) (c.drop m) Z Z Z Z Z Z (λ_=>rfl) Ao (by simp only[kN,Δ,ζ,η,lX];omega) Z Z Z Z) ?_;refine AC ⟨Z,?_⟩;refine A0 16 Z Z (AB Z Z (AC ⟨Z,?_⟩));refine Bb (Fb (emb:=AE) 3 20 ((([]++c.take m)++ [l[k]])++c.drop m) Z Z Z Z Z Z Z (AF (ch Z Z (J (Ad Z Z (AJ (k+1) (by omega)) Z) (AB Z Z (AC ?_))))));exact ⟨(k+1,_),⟨by show k+1<=_;omega,by show (((([]++c.take m)++ [l[k]])++c.drop m):List Int).Perm (l.take (k+1));rw[ψ j,kN];exact LX.trans (t.append_right _),by show (((([]++c.take m)++ [l[k]])++c.drop m):List Int).Pairwise _;rw[kN];exact Hu kZ v w g⟩,by show l.length-(k+1)<l.length-k;omega,AR u [] Z (Z) ⟨Z,Z,Z,trivial⟩⟩
 .refine Aq (AD (AF (ch Z Z (AB Z Z (AC (A4 ?_))))));exact ⟨_,[],[],A2 Z,Z,Z,by rw[Ot (l:=l) (by have A:=t;rw[θ (by have h:=z;omega)] at A;exact A) v],Z⟩
theorem SN:PC λa b:ey=>BT a.r b.r:=NQ.comap ey.r
theorem gA(g:Ac a=0){f:List ey}(i:f.Perm a.ro)(h:f.Pairwise λc b=>¬BT b.r c.r<0):f=lC a.ro:=
 Yb ey.r (NZ (IL g).1) (qf a.ro) (N9 a.ro) i h
theorem RM(p:hU)(B:Ac p=0)(E:p.ro.length<=100000):AI prog 112 [.d (BG p)] (.sl none ((lC p.ro).map BY)):=by
 refine As func112 Z Z ntmps112 Z Z Z λF u=>(AD (AF ?_));refine V (B7 1 Z Z Z Z Z Z Z) (AB Z Z (AC (AD (AF (AB Z Z (AC (AD (AD ?_))))))));refine JW 3 Z ?_;refine AF (AB Z Z (AC (AX (BC (α:=Nat×List ey) (λq=>⟨51,[(1,(.ptr 1 0 0)),(3,(.d (.sl none (q.2.map BY)))),(4,(.d (AE (q.1:Int))))],[(1,[B3 25 p])]⟩) (λq=>q.1<=p.ro.length/\q.2.Perm (p.ro.take q.1)/\q.2.Pairwise λa b=>¬BT b.r a.r<0) (λq=>p.ro.length-q.1) ((0,[])) (⟨κ _,by simp,List.Pairwise.nil⟩) (AR u [1] Z Z ⟨Z,Z,Z,trivial⟩) ?_))));rintro ⟨k,c⟩ ⟨x,t,v⟩;dsimp only at x t v⊢;refine AD ?_;refine AD (AF (ch Z Z (J (AM Z MD Z Z Z) (J (AQ Z Z Z E3 Z) (J (BU Z No Z) (J (At Z Z Z) (AC (A5 Z (λs=>?_) (λs=>?_)))))))))
 .have j:k<p.ro.length:=BF s;refine AU (AD (AX (AD ?_)));have D:c.length<=100000:=by rw[t.length_eq,η];omega
  refine AF (AB Z Z (AC (AD (AX (BC (α:=Nat) (λm=>⟨51,[(1,(.ptr 1 0 0)),(3,(.d (.sl none (c.map BY)))),(4,(.d (AE (k:Int)))),(5,(.d (AE (m:Int))))],[(1,[B3 25 p])]⟩) (λm=>m<=c.length/\∀y∈c.take m,BT y.r p.ro[k].r<0) (λm=>c.length-m) (0) (⟨κ _,by simp⟩) (AR u [1] Z Z ⟨Z,Z,Z,Z,trivial⟩) ?_)))));rintro m ⟨C,w⟩;refine AD (AD ?_);refine Bq [[],[],[1],[0,1,2],[0,1,2,3],rg 5,rg 5,rg 7,rg 8,rg 9,rg 5,[0,1,2,3,4,10],rg 5,[0,1,2,3,4,10,11,12],[0,1,2,3,4,10,11,12,13],[0,1,2,3,4,10,11,12,13,14],rg 16,rg 17,rg 18] mixed Z (B2 (A7 5 Z Z (A7 3 Z Z (AK [14] Z (BU Z No Z) (BV 3 Z Z Z (A0 4 Z Z (J (At Z Z Z) (AC ⟨Z,?_⟩))))))));refine A0 5 Z Z (ch Z Z (C7 17 Z (λl=>?_) (λl=>?_)))
  .refine AC ⟨Z,?_⟩;refine B2 ?_
   try have i:m<c.length:=BF l
   refine A1 [3,17] [] Z Z (λ_=>BR Z Z Z (FW Z Z)) (A1 [5,17] [] Z Z (λ_=>BR Z Z Z (FW Z Z)) (A1 [18,19,17] [] Z Z (λ_=>BR Z Z Z (Al (m) Z Z (Z) (AP i) No Z Bc Z)) (A1 [20,17] [] Z Z (λ_=>BR Z Z Z (KL Z Qh Z Z Z)) (A1 [21,17] [] Z Z (λ_=>BR Z Z Z (CY Z Z Cf Z)) (A1 [1,17] [] Z Z (λ_=>BR Z Z Z (AM Z MD Z Z Z)) (Ay [23,17] Z Z (λ_=>BR Z Z Z (AQ Z Z Z E3 Z)) ?_))))));refine A1 [4,17] [] Z Z (λ_=>BR Z Z Z (FW Z Z)) (A1 [24,25,17] [] Z Z (λ_=>BR Z Z Z (Al (k) Z Z (Z) (AP j) No Z Bc Z)) (A1 [26,17] [] Z Z (λ_=>BR Z Z Z (KL Z Qh Z Z Z)) (A1 [27,17] [] Z Z (λ_=>BR Z Z Z (CY Z Z Cf Z)) (BV 16 Z Z Z (A0 17 Z Z (AT Z Z Z (J (Aj (Hi c[m].r p.ro[k].r) Z Z) (AC ⟨Z,?_⟩))))))));refine A0 18 Z Z (AT Z Z Z (J (At Z Z Z) (AC ⟨Z,?_⟩)));refine A0 19 Z Z (J (B8 Z Z Z Z) (AC ⟨Z,?_⟩));refine Bb (A5 Z (λo=>?_) (λo=>?_))
   .refine AU (AX (AF (ch Z Z (J (Ad Z Z (AJ (m+1) (by omega)) Z) (AB Z Z (AC ?_))))));exact ⟨m+1,⟨by show m+1<=_;omega,by rw[ψ i];intro y f;rcases υ.1 f with f | f;exact w y f;rw[ξ.1 f];exact o⟩,by show c.length-(m+1)<c.length-m;omega,AR u [1] Z (Z) ⟨Z,Z,Z,Z,trivial⟩⟩
   .refine Aq ?_;have g:∀y,c[m]? =some y->¬BT y.r p.ro[k].r<0:=by first | (intro y f;have z:=(φ.1 f).1;exact absurd z (by have h:=l;omega)) | (intro y f;rw[ω i] at f;injection f with f;rw[<-f];exact o)
    refine Bq [[],[],[],[1,2],[0,1,2,3],[],[5],[],[5,6,7],[5,6,7,8],[5,6,7,8,9],rg 11,[],[],[12,13],rg 15,rg 16] mixed Z (B2 (Cv [] [20] [(34,_)] Z Z (λ_=>Cg (CF 20 Fx Z Z Z Z Z Z Z Z)) (.inr ⟨34,_,Z,Z,Z,Z,Z⟩) Z Z Z Z Z (A7 3 Z Z ?_)));refine A7 5 Z Z (AK [35,36] Z (YD (c) (m) Z Z Z (Z) (by omega) No Bc (λ_=>rfl) Z) (Cv [34,37] [20] [(38,_)] Z Z (λ_=>Cg (Jr (([]:List ey)) (c.take m) Z Z Z Z Z Z (λ_=>rfl) Fx (by simp only[lT,η];omega) Z Z Z Z)) (.inr ⟨38,_,Z,Z,Z,Z,Z⟩) Z Z Z Z Z (AK [1] Z (AM Z MD Z Z Z) (A1 [39] [1] Z Z (λ_=>Aa (AQ Z Z Z E3 Z)) (A7 4 Z Z (AK [40,41] Z (Al (k) Z Z (Z) (AP j) No Z Bc Z) (AK [42] Z (CY Z Z RE Z) (Cv [43] [21] [(44,_)] Z Z (λ_=>Cg (CF 21 Fx Z Z Z Z Z Z Z Z)) (.inr ⟨44,_,Z,Z,Z,Z,Z⟩) Z Z Z Z Z ?_))))))));refine Kj [34] [38,44] [20,21] [(45,_)] Z Z (λ_=>Cg (DN (([]++c.take m)) ([p.ro[k]]) Z Z Z Z Z Z Z Z Fx (by simp only[kN,ζ,η];omega) Z Z Z Z)) (.inr ⟨45,_,Z,Z,Z,Z,Z⟩) Z Z Z Z Z ?_;refine A7 3 Z Z (A7 5 Z Z (AK [46,47] Z (cT (c) (m) Z Z Z (Z) (by omega) No Bc (λ_=>rfl) Z) (BV 15 Z Z Z (A0 16 Z Z ?_))));refine V (Jr ((([]++c.take m)++ [p.ro[k]])) (c.drop m) Z Z Z Z Z Z (λ_=>rfl) Fx (by simp only[kN,Δ,ζ,η,lX];omega) Z Z Z Z) ?_;refine AC ⟨Z,?_⟩;refine A0 17 Z Z (AB Z Z (AC ⟨Z,?_⟩));refine Bb (Fb (emb:=BY) 3 20 ((([]++c.take m)++ [p.ro[k]])++c.drop m) Z Z Z Z Z Z Z (AF (ch Z Z (J (Ad Z Z (AJ (k+1) (by omega)) Z) (AB Z Z (AC ?_))))));exact ⟨(k+1,_),⟨by show k+1<=_;omega,by show (((([]++c.take m)++ [p.ro[k]])++c.drop m):List ey).Perm (p.ro.take (k+1));rw[ψ j,kN];exact LX.trans (t.append_right _),by show (((([]++c.take m)++ [p.ro[k]])++c.drop m):List ey).Pairwise _;rw[kN];exact Hu SN v w g⟩,by show p.ro.length-(k+1)<p.ro.length-k;omega,AR u [1] Z (Z) ⟨Z,Z,Z,trivial⟩⟩
  .refine AC ⟨Z,?_⟩;refine B2 ?_
   try have i:m<c.length:=BF l
   refine A1 [3,17] [] Z Z (λ_=>Bw Z Z Z Z) (A1 [5,17] [] Z Z (λ_=>Bw Z Z Z Z) (A1 [18,19,17] [] Z Z (λ_=>Bw Z Z Z Z) (A1 [20,17] [] Z Z (λ_=>Bw Z Z Z Z) (A1 [21,17] [] Z Z (λ_=>Bw Z Z Z Z) (A1 [1,17] [] Z Z (λ_=>Bw Z Z Z Z) ?_)))));refine A1 [23,17] [] Z Z (λ_=>Bw Z Z Z Z) (A1 [4,17] [] Z Z (λ_=>Bw Z Z Z Z) (A1 [24,25,17] [] Z Z (λ_=>Bw Z Z Z Z) (A1 [26,17] [] Z Z (λ_=>Bw Z Z Z Z) (A1 [27,17] [] Z Z (λ_=>Bw Z Z Z Z) (BV 16 Z Z Z (A0 17 Z Z (AN Z Z Z Z (AC ⟨Z,?_⟩))))))));refine A0 18 Z Z (AN Z Z Z Z (AC ⟨Z,?_⟩));refine A0 19 Z Z (J (Bx Z Z Z Z) (AC ⟨Z,?_⟩));refine Bb (Cq Z Z (Aq ?_));have g:∀y,c[m]? =some y->¬BT y.r p.ro[k].r<0:=by first | (intro y f;have z:=(φ.1 f).1;exact absurd z (by have h:=l;omega)) | (intro y f;rw[ω i] at f;injection f with f;rw[<-f];exact o)
   refine Bq [[],[],[],[1,2],[0,1,2,3],[],[5],[],[5,6,7],[5,6,7,8],[5,6,7,8,9],rg 11,[],[],[12,13],rg 15,rg 16] mixed Z (B2 (Cv [] [20] [(34,_)] Z Z (λ_=>Cg (CF 20 Fx Z Z Z Z Z Z Z Z)) (.inr ⟨34,_,Z,Z,Z,Z,Z⟩) Z Z Z Z Z (A7 3 Z Z ?_)));refine A7 5 Z Z (AK [35,36] Z (YD (c) (m) Z Z Z (Z) (by omega) No Bc (λ_=>rfl) Z) (Cv [34,37] [20] [(38,_)] Z Z (λ_=>Cg (Jr (([]:List ey)) (c.take m) Z Z Z Z Z Z (λ_=>rfl) Fx (by simp only[lT,η];omega) Z Z Z Z)) (.inr ⟨38,_,Z,Z,Z,Z,Z⟩) Z Z Z Z Z (AK [1] Z (AM Z MD Z Z Z) (A1 [39] [1] Z Z (λ_=>Aa (AQ Z Z Z E3 Z)) (A7 4 Z Z (AK [40,41] Z (Al (k) Z Z (Z) (AP j) No Z Bc Z) (AK [42] Z (CY Z Z RE Z) (Cv [43] [21] [(44,_)] Z Z (λ_=>Cg (CF 21 Fx Z Z Z Z Z Z Z Z)) (.inr ⟨44,_,Z,Z,Z,Z,Z⟩) Z Z Z Z Z ?_))))))));refine Kj [34] [38,44] [20,21] [(45,_)] Z Z (λ_=>Cg (DN (([]++c.take m)) ([p.ro[k]]) Z Z Z Z Z Z Z Z Fx (by simp only[kN,ζ,η];omega) Z Z Z Z)) (.inr ⟨45,_,Z,Z,Z,Z,Z⟩) Z Z Z Z Z ?_;refine A7 3 Z Z (A7 5 Z Z (AK [46,47] Z (cT (c) (m) Z Z Z (Z) (by omega) No Bc (λ_=>rfl) Z) (BV 15 Z Z Z (A0 16 Z Z ?_))));refine V (Jr ((([]++c.take m)++ [p.ro[k]])) (c.drop m) Z Z Z Z Z Z (λ_=>rfl) Fx (by simp only[kN,Δ,ζ,η,lX];omega) Z Z Z Z) ?_;refine AC ⟨Z,?_⟩;refine A0 17 Z Z (AB Z Z (AC ⟨Z,?_⟩));refine Bb (Fb (emb:=BY) 3 20 ((([]++c.take m)++ [p.ro[k]])++c.drop m) Z Z Z Z Z Z Z (AF (ch Z Z (J (Ad Z Z (AJ (k+1) (by omega)) Z) (AB Z Z (AC ?_))))));exact ⟨(k+1,_),⟨by show k+1<=_;omega,by show (((([]++c.take m)++ [p.ro[k]])++c.drop m):List ey).Perm (p.ro.take (k+1));rw[ψ j,kN];exact LX.trans (t.append_right _),by show (((([]++c.take m)++ [p.ro[k]])++c.drop m):List ey).Pairwise _;rw[kN];exact Hu SN v w g⟩,by show p.ro.length-(k+1)<p.ro.length-k;omega,AR u [1] Z (Z) ⟨Z,Z,Z,trivial⟩⟩
 .refine Aq (AD (AF (ch Z Z (AB Z Z (AC (A4 ?_))))));exact ⟨_,[],[],A2 Z,Z,Z,by rw[gA B (by have A:=t;rw[θ (by have h:=s;omega)] at A;exact A) v],Z⟩
theorem GH(c:Ac a=0){x:cl}(b:x∈a.it):hG a x.id=x:=by
 obtain ⟨f,_,e,g⟩:=Zj (p:=a) (Γ.2 ⟨x,b,Z⟩);exact OX (YE (IL c).2.1) (by rw[e];exact ϑ f) b g
theorem Ub{q:List Int}(h:i∈q):kH i q=q.idxOf i:=by unfold kH Sz;rw[ϱ h];omega
theorem ai{q:List Int}(h:i∉q):kH i q=0:=by unfold kH Sz;rw[ν h];rfl
theorem eF(i:Int)(y:mF){j:Nat}(h:j<(CJ i y).length)(a:j<y.q.length):(CJ i y)[j]=⟨i,y.q[j],y.r⟩:=by simp[CJ,j7]
theorem Nc:∀{l:List Int} {x:Int} {j:Nat} (h:j<l.length),l[j]=x->l.idxOf x<=j
 | a::l,x,0,_,b=>by
  have b:a=x:=b;rw[List.idxOf_cons,b];simp
 | a::l,x,j+1,h,b=>by
  rw[List.idxOf_cons]
  cases hb:a==x with
  | true=>simp
  | false=>
   have c:=Nc (l:=l) (x:=x) (j:=j) (by simpa using h) (by simpa using b);simp only[cond_false];omega
theorem Rn(g:mF->List o):(gg a).flatMap g=(lC a.ro).flatMap λy=>g (B9 a y):=by unfold gg;rw[List.flatMap_map]
theorem VD(p:hU)(l:List Int)(x:cl)(hp:Ac p=0)(hb:Ek p)(h1:p.it.length<=1000)(h2:p.ro.length<=1000)(U:∀i∈p.it,i.po.length<=1000/\i.pa.length<=1000/\i.af.length<=1000)(hl:l.length<=100000)(hx:x∈p.it):AI prog 157 [.d (BG p),.d (.sl none (l.map AE)),.d (Ah x)] (.sl none ((CS (C9 l) (ka p x.id)).map II)):=by
 have hO:hJ p=ea p.it:=ϱ hp;have hgx:=U x hx;have X:ka p x.id=(Ch x.af).map (λy=>(⟨x.id,y,HH⟩:kU))++(lC p.ro).flatMap λy=>CJ x.id (B9 p y):=by unfold ka U5;rw[GH hp hx,Rn]
 rw[X];have v:=UU x.af (by omega);have W:=E7 x.af;have L:=RM p hp (by omega);have Y:=P2 p.ro;have hg3:∀i∈ea p.it,i.po.length<=1000/\i.pa.length<=1000/\i.af.length<=1000:=λi hi=>U i ((Js p.it).mem_iff.1 hi);have w:=λr=>KS p r h1 hg3;have o:∀r,(hY (hJ p) r).length<=1000:=λr=>by unfold hY;rw[χ];exact jp (lE _ _) (jp (DW p) h1)
 rw[<-hO] at w
 obtain ⟨S,hS⟩:∃S,Ch x.af=S:=⟨_,Z⟩
 obtain ⟨R,hR⟩:∃R,lC p.ro=R:=⟨_,Z⟩
 rw[hS] at v W⊢;rw[hR] at L Y⊢;refine As func157 Z Z ntmps157 Z Z Z λF u=>(AD (AF (V (B7 1 Z Z Z Z Z Z Z) (V (B7 2 Z Z Z Z Z Z Z) (AB Z Z (AC (AD ?_)))))));refine AF (AB Z Z (AC (AD (IU 7 900 Ov Z Z Z Z (AF (J (AM Z DD Z Z Z) (J (AQ Z Z Z BL Z) (J (Aj (v) Z Z) ?_))))))));refine AB Z Z (AC (AD (AD (AF (AB Z Z (AC (AX (BC (α:=Nat×List kU) (λq=>⟨92,[(1,.d (.sl none (l.map AE))),(3,(.ptr 1 0 0)),(5,(.ptr 2 0 0)),(7,(.own 900 0 q.2.length)),(8,(.d (.sl none (S.map AE)))),(9,(.d (AE (q.1:Int))))],[(900,[.rowD 207 8 (q.2.map II)]),(1,[B3 25 p]),(2,[oz 93 x])]⟩) (λq=>q.1<=S.length/\q.2=CS (C9 l) ((S.map λy=>(⟨x.id,y,HH⟩:kU)).take q.1)) (λq=>S.length-q.1) ((0,[])) (⟨κ _,Z⟩) (AR u [900,1,2] Z Z ⟨Z,Z,Z,Z,Z,Z,trivial⟩) ?_))))))));rintro ⟨k,c⟩ ⟨hk0,T⟩;dsimp only at hk0 T⊢;refine AD (AD (AF (ch Z Z (ch Z Z (J (BU Z E0 Z) (J (At Z Z Z) (AC (A5 Z (λI=>?_) (λI=>?_)))))))))
 .have t:k<S.length:=BF I;refine AU (AD (AX (AD (AF ?_))));refine ch Z Z (ch Z Z (ch Z Z (J (Al (k) Z Z (Z) (AP t) E0 Z BK Z) (J (BZ Z Z Ai Z) (J (Aj (TE l S[k] (by omega)) Z Z) (J (Jq Z Z) (AC (A5 Z (λH=>?_) (λH=>?_)))))))))
  .refine Bq [[],[],[1],[],[],[3,4],[3,4,5],[1,2,3,4,5,6],[1,2,3,4,5,6,7],rg 9,rg 10] mixed Z (B2 ?_);have hal:c.length<=100000:=by rw[T];refine jp (cF _ _) ?_;rw[η,χ];omega
   refine A7 7 Z Z (AK [5] Z (AM Z QP Z Z Z) (A1 [31] [2] Z Z (λ_=>Aa (AQ Z Z Z Ai Z)) (A7 8 Z Z ?_)));refine A7 9 Z Z (AK [33,34] Z (Al (k) Z Z (Z) (AP t) E0 Z BK Z) (AK [35] Z (BZ Z Z Ai Z) (AK [32,36] Z (Dz rD r8 Z Z Z) (Cv [37] [50] [(38,_)] Z Z (λ_=>Cg (CF 50 Ov Z Z Z Z Z Z Z Z)) (.inr ⟨38,_,Z,Z,Z,Z,Z⟩) Z Z Z Z Z (BV 9 Z Z Z (A0 10 Z Z (V (DN (c) ([⟨x.id,S[k],HH⟩]) Z Z Z Z Z Z Z Z Ov (by simp only[ζ];omega) Z Z Z Z) (AC ⟨Z,?_⟩))))))));refine A0 11 Z Z (AB Z Z (AC ⟨Z,?_⟩));refine Bb (AF (ch Z Z (J (Ad Z Z (AJ (k+1) (by omega)) Z) (AB Z Z (AC ?_)))));exact ⟨(k+1,c++ [⟨x.id,S[k],HH⟩]),⟨by show k+1<=_;omega,by show c++ [⟨x.id,S[k],HH⟩]=CS (C9 l) ((S.map λy=>(⟨x.id,y,HH⟩:kU)).take (k+1));rw[Dr (by simpa using t),kT,ϱ (by show (!C9 l S[k])=true;unfold C9;simpa using H),T]⟩,by show S.length-(k+1)<S.length-k;omega,AR u [900,1,2] Z (Z) ⟨Z,Z,Z,Z,Z,Z,trivial⟩⟩
  .refine AU (AF (ch Z Z (J (Ad Z Z (AJ (k+1) (by omega)) Z) (AB Z Z (AC ?_)))));exact ⟨(k+1,c),⟨by show k+1<=_;omega,by show c=CS (C9 l) ((S.map λy=>(⟨x.id,y,HH⟩:kU)).take (k+1));rw[Dr (by simpa using t),kT,ν (by show ¬(!C9 l S[k])=true;unfold C9;simpa using H),kY,T]⟩,by show S.length-(k+1)<S.length-k;omega,AR u [900,1,2] Z (Z) ⟨Z,Z,Z,Z,Z,Z,trivial⟩⟩
 .refine Aq (AD ?_);have Q:c=CS (C9 l) (S.map λy=>(⟨x.id,y,HH⟩:kU)):=by rw[T,θ (by rw[χ];have h:=I;omega)]
  have hal1:c.length<=1000:=by rw[Q];refine jp (cF _ _) ?_;rw[χ];omega
  refine AF (J (Ap Z Z By Z Z Z) (J (Aj (L) Z Z) ?_));refine AB Z Z (AC (AD (AD (AF (AB Z Z (AC (AX (BC (α:=Nat×List kU) (λq=>⟨92,[(1,.d (.sl none (l.map AE))),(3,(.ptr 1 0 0)),(5,(.ptr 2 0 0)),(7,(.own 900 0 q.2.length)),(10,(.d (.sl none (R.map BY)))),(11,(.d (AE (q.1:Int))))],[(900,[.rowD 207 8 (q.2.map II)]),(1,[B3 25 p]),(2,[oz 93 x])]⟩) (λq=>q.1<=R.length/\q.2=c++CS (C9 l) ((R.take q.1).flatMap λy=>CJ x.id (B9 p y))) (λq=>R.length-q.1) ((0,c)) (⟨κ _,by simp[CS]⟩) (AR u [900,1,2] Z Z ⟨Z,Z,Z,Z,Z,Z,trivial⟩) ?_))))))));rintro ⟨m,a⟩ ⟨hm0,O⟩;dsimp only at hm0 O⊢;refine AD (AD (AF (ch Z Z (ch Z Z (J (BU Z No Z) (J (At Z Z Z) (AC (A5 Z (λG=>?_) (λG=>?_)))))))))
  .have s:m<R.length:=BF G;refine AU (AD (AX (AD (Bq [[],[],[],[1,2],[1,2,3],[1,2,3,4],rg 6,rg 7] mixed Z (B2 ?_)))));have hfl:=JF (f:=λy=>CJ x.id (B9 p y)) (n:=1000) (l:=R.take m) (λy _=>by unfold CJ j7;rw[χ,η];exact jp (Nat.min_le_right _ _) (o y.r));have hbl:a.length<=1200000:=by rw[O,Δ];have:=cF (C9 l) ((R.take m).flatMap λy=>CJ x.id (B9 p y));rw[η] at hfl;have U:min m R.length*1000<=1000*1000:=lk _ (by omega);omega
   refine Ay [3] Z Z (λ_=>Aa (Ap Z Z By Z Z Z)) ?_;refine A7 10 Z Z (A7 11 Z Z (AK [49,50] Z (Al (m) Z Z (Z) (AP s) No Z Bc Z) (AK [51] Z (KL Z Qh Z Z Z) (AK [52] Z (CY Z Z Cf Z) (BV 6 Z Z Z (A0 7 Z Z (J (Aj (w R[m].r) Z Z) (AC ⟨Z,?_⟩))))))));refine A0 8 Z Z (AB Z Z (AC ⟨Z,?_⟩));refine Bb (AD ?_);refine AD (AF (ch Z Z (J (AM Z QP Z Z Z) (J (AQ Z Z Z Ai Z) (J (Aj (TE (hY (hJ p) R[m].r) x.id (by have:=o R[m].r;omega)) Z Z) (J (Jq Z Z) (AC (A5 Z (λE=>?_) (λE=>?_)))))))))
   .refine Aq (AF ?_)
    try have z:b=a++CS (C9 l) (CJ x.id (B9 p R[m])):=by rw[K,θ (by unfold CJ j7;rw[χ,η];show min (kH x.id (hY (hJ p) R[m].r)) _<=j;rw[A];omega)]
    refine ch Z Z (J (Ad Z Z (AJ (m+1) (by omega)) Z) (AB Z Z (AC ?_)));exact ⟨(m+1,a),⟨by show m+1<=_;omega,by show a=c++CS (C9 l) ((R.take (m+1)).flatMap λy=>CJ x.id (B9 p y));rw[jQ s,JS,<-lh,<-O];have hz:CJ x.id (B9 p R[m])=[]:=by {unfold CJ j7;rw[ai (q:=(B9 p R[m]).q) (show x.id∉hY (hJ p) R[m].r from by simpa using E)];rfl};rw[hz];simp[CS]⟩,by show R.length-(m+1)<R.length-m;omega,AR u [900,1,2] Z (Z) ⟨Z,Z,Z,Z,Z,Z,trivial⟩⟩
   .have N:x.id∈hY (hJ p) R[m].r:=by simpa using E
    refine AU (AD ?_);have hix:=List.idxOf_lt_length_iff.2 N;have A:=Ub N;refine AF (AB Z Z (AC (AX (BC (α:=Nat×List kU) (λq=>⟨92,[(1,.d (.sl none (l.map AE))),(3,(.ptr 1 0 0)),(5,(.ptr 2 0 0)),(7,(.own 900 0 q.2.length)),(10,(.d (.sl none (R.map BY)))),(11,(.d (AE (m:Int)))),(12,(.d (.sl none ((hY (hJ p) R[m].r).map AE)))),(13,(.d (AE (q.1:Int))))],[(900,[.rowD 207 8 (q.2.map II)]),(1,[B3 25 p]),(2,[oz 93 x])]⟩) (λq=>q.1<=(hY (hJ p) R[m].r).idxOf x.id/\q.2=a++CS (C9 l) ((CJ x.id (B9 p R[m])).take q.1)) (λq=>(hY (hJ p) R[m].r).idxOf x.id-q.1) ((0,a)) (⟨κ _,by simp[CS]⟩) (AR u [900,1,2] Z Z ⟨Z,Z,Z,Z,Z,Z,Z,Z,trivial⟩) ?_))));rintro ⟨j,b⟩ ⟨hj0,K⟩;dsimp only at hj0 K⊢;refine AD (AD (Bq [[],[],[0,1],[0,1,2],[],[4],rg 6] mixed Z (B2 ?_)));have g:j<(hY (hJ p) R[m].r).length:=by omega
    refine A7 12 Z Z ?_;refine A7 13 Z Z (AK [60,61] Z (Al (j) Z Z (Z) (AP g) E0 Z BK Z) (AK [62] Z (BZ Z Z Ai Z) (AK [5] Z (AM Z QP Z Z Z) (Ay [64] Z Z (λ_=>Aa (AQ Z Z Z Ai Z)) (BV 6 Z Z Z (A0 7 Z Z (J (DJ Z Z Z) (AC ⟨Z,?_⟩))))))));refine Bb (A5 Z (λD=>?_) (λD=>?_))
    .have hjlt:j<(hY (hJ p) R[m].r).idxOf x.id:=by have hne:j≠(hY (hJ p) R[m].r).idxOf x.id:=by {intro e;apply D;subst e;exact nI g};omega
     refine AU (AD (AX (AD (AF ?_))));have B:j<(CJ x.id (B9 p R[m])).length:=by unfold CJ j7;rw[χ,η];show j<min (kH x.id (hY (hJ p) R[m].r)) _;rw[A];show j<min _ (hY (hJ p) R[m].r).length;omega
     have M:(CJ x.id (B9 p R[m]))[j]=⟨x.id,(hY (hJ p) R[m].r)[j],R[m].r⟩:=eF x.id (B9 p R[m]) B g;refine ch Z Z (ch Z Z (ch Z Z (J (Al (j) Z Z (Z) (AP g) E0 Z BK Z) (J (BZ Z Z Ai Z) (J (Aj (TE l (hY (hJ p) R[m].r)[j] (by omega)) Z Z) (J (Jq Z Z) (AC (A5 Z (λC=>?_) (λC=>?_)))))))))
     .refine Bq [[],[],[1],[],[],[3,4],[3,4,5],[],[],[7,8],[7,8,9],[7,8,9,10],[1,2,3,4,5,6,7,8,9,10,11],[1,2,3,4,5,6,7,8,9,10,11,12],rg 14,rg 15] mixed Z (B2 ?_);have hcl3:b.length<=1300000:=by rw[K,Δ];have U:=cF (C9 l) ((CJ x.id (B9 p R[m])).take j);have h4:=o R[m].r;rw[η] at U;omega
      refine A7 7 Z Z (AK [5] Z (AM Z QP Z Z Z) (A1 [77] [2] Z Z (λ_=>Aa (AQ Z Z Z Ai Z)) (A7 12 Z Z (A7 13 Z Z (AK [79,80] Z (Al (j) Z Z (Z) (AP g) E0 Z BK Z) (AK [81] Z (BZ Z Z Ai Z) (A7 10 Z Z (A7 11 Z Z ?_))))))));refine AK [83,84] Z (Al (m) Z Z (Z) (AP s) No Z Bc Z) (AK [85] Z (KL Z Qh Z Z Z) (AK [86] Z (CY Z Z Cf Z) (AK [78,82,87] Z (Dz rD r8 Z Z Z) (Cv [88] [51] [(89,_)] Z Z (λ_=>Cg (CF 51 Ov Z Z Z Z Z Z Z Z)) (.inr ⟨89,_,Z,Z,Z,Z,Z⟩) Z Z Z Z Z (BV 14 Z Z Z (A0 15 Z Z (V (DN (b) ([⟨x.id,(hY (hJ p) R[m].r)[j],R[m].r⟩]) Z Z Z Z Z Z Z Z Ov (by simp only[ζ];omega) Z Z Z Z) (AC ⟨Z,?_⟩))))))));refine A0 16 Z Z (AB Z Z (AC ⟨Z,?_⟩));refine Bb (AF (ch Z Z (J (Ad Z Z (AJ (j+1) (by have:=o R[m].r;omega)) Z) (AB Z Z (AC ?_)))));exact ⟨(j+1,b++ [⟨x.id,(hY (hJ p) R[m].r)[j],R[m].r⟩]),⟨by show j+1<=_;omega,by show b++ [⟨x.id,(hY (hJ p) R[m].r)[j],R[m].r⟩]=a++CS (C9 l) ((CJ x.id (B9 p R[m])).take (j+1));rw[Dr B,K,lh,M,ϱ (by show (!C9 l (hY (hJ p) R[m].r)[j])=true;unfold C9;simpa using C)]⟩,by show (hY (hJ p) R[m].r).idxOf x.id-(j+1)<(hY (hJ p) R[m].r).idxOf x.id-j;omega,AR u [900,1,2] Z (Z) ⟨Z,Z,Z,Z,Z,Z,Z,Z,trivial⟩⟩
     .refine AU (AF (ch Z Z (J (Ad Z Z (AJ (j+1) (by have:=o R[m].r;omega)) Z) (AB Z Z (AC ?_)))));exact ⟨(j+1,b),⟨by show j+1<=_;omega,by show b=a++CS (C9 l) ((CJ x.id (B9 p R[m])).take (j+1));rw[Dr B,K,M,ν (by show ¬(!C9 l (hY (hJ p) R[m].r)[j])=true;unfold C9;simpa using C),kY]⟩,by show (hY (hJ p) R[m].r).idxOf x.id-(j+1)<(hY (hJ p) R[m].r).idxOf x.id-j;omega,AR u [900,1,2] Z (Z) ⟨Z,Z,Z,Z,Z,Z,Z,Z,trivial⟩⟩
    .have hje0:j=(hY (hJ p) R[m].r).idxOf x.id:=by have hge:¬j<(hY (hJ p) R[m].r).idxOf x.id:=by {intro hlt;have h8:(hY (hJ p) R[m].r)[j]=x.id:=by {simpa using D};have h7:=Nc g h8;omega};omega
     refine Aq (AF ?_)
     try have z:b=a++CS (C9 l) (CJ x.id (B9 p R[m])):=by rw[K,θ (by unfold CJ j7;rw[χ,η];show min (kH x.id (hY (hJ p) R[m].r)) _<=j;rw[A];omega)]
     refine ch Z Z (J (Ad Z Z (AJ (m+1) (by omega)) Z) (AB Z Z (AC ?_)));exact ⟨(m+1,b),⟨by show m+1<=_;omega,by show b=c++CS (C9 l) ((R.take (m+1)).flatMap λy=>CJ x.id (B9 p y));rw[jQ s,JS,<-lh,<-O];exact z⟩,by show R.length-(m+1)<R.length-m;omega,AR u [900,1,2] Z (Z) ⟨Z,Z,Z,Z,Z,Z,trivial⟩⟩
  .refine Aq (AD ?_);have hfa:a=CS (C9 l) ((S.map λy=>(⟨x.id,y,HH⟩:kU))++R.flatMap λy=>CJ x.id (B9 p y)):=by rw[O,Q,θ (by have h:=G;omega),JS]
   refine Fb (emb:=II) 7 900 a Z Z Z Z Z Z Z (AF (ch Z Z (AB Z Z (AC (A4 ?_)))));exact ⟨_,[],[],A2 Z,Z,Z,by rw[hfa],Z⟩
structure PV (p:hU):Prop where
 e:Ac p=0
 b:Ek p
 i:p.it.length<=1000
 r:p.ro.length<=1000
 q:∀i∈p.it,i.po.length<=1000/\i.pa.length<=1000/\i.af.length<=1000
theorem qQ(h:f i=true):FP a f i=CS f (ka a i):=ϱ h
theorem iz(h:¬f i=true):FP a f i=[]:=ν h
def Nz(p:hU)(r:AW)(l:List Int):Int:=l.foldl (λs x=>s+BO (hG p x) r) 0
theorem bf(p:hU)(r:AW)(a:k<j.length):Nz p r (j.take (k+1))=Nz p r (j.take k)+BO (hG p j[k]) r:=by
 unfold Nz;rw[ψ a,List.foldl_append];rfl
theorem SE(p:hU)(r:AW):∀(l:List Int) (a:Int),l.foldl (λs x=>s+BO (hG p x) r) a=a+DO p r (Av l)
 | [],a=>by simp[DO,Av]
 | x::l,a=>by
  rw[List.foldl_cons,SE p r l];show _=a+DO p r ((x,true)::Av l);rw[KN,ϱ rfl];omega
theorem Lo(p:hU)(r:AW)(l:List Int):Nz p r l=DO p r (Av l):=by unfold Nz;rw[SE];omega
theorem cc(p:hU)(l:List Int)(v:PV p)(X:l.length<=1000)(K:∀x∈l,x∈p.it.map cl.id):AI prog 63 [.d (BG p),.d (.sl none (l.map AE))] (.sl none ((Ju p (Av l)).map BY)):=by
 have h1:=v.i;have Y:=v.r;have w:=RM p v.e (by omega);have E:=P2 p.ro;have z:∀x∈lC p.ro,-4000000000000000<=x.n/\x.n<=4000000000000000:=λx O=>HI (IL v.e).1 x ((qf p.ro).mem_iff.1 O);have D:Ju p (Av l)=(lC p.ro).flatMap λy=>KO p (Av l) (B9 p y):=by unfold Ju;rw[Rn]
 rw[D]
 obtain ⟨R,U⟩:∃R,lC p.ro=R:=⟨_,Z⟩
 rw[U] at w E z⊢;refine As func63 Z Z ntmps63 Z Z Z λF B=>(AD (AF (V (B7 1 Z Z Z Z Z Z Z) (AB Z Z (AC ?_)))));refine AD (AF (AB Z Z (AC (AD (IU 5 900 UV Z Z Z Z (AF (J (Ap Z Z By Z Z Z) (J (Aj (w) Z Z) ?_))))))));refine AB Z Z (AC (AD (AD (AF (AB Z Z (AC (AX (BC (α:=Nat×List ey) (λq=>⟨72,[(1,.d (.sl none (l.map AE))),(2,(.ptr 1 0 0)),(5,(.own 900 0 q.2.length)),(6,(.d (.sl none (R.map BY)))),(7,(.d (AE (q.1:Int))))],[(900,[.rowD 120 7 (q.2.map BY)]),(1,[B3 25 p])]⟩) (λq=>q.1<=R.length/\q.2=(R.take q.1).flatMap (λy=>KO p (Av l) (B9 p y))/\q.2.length<=q.1) (λq=>R.length-q.1) ((0,[])) (⟨κ _,Z,Θ _⟩) (AR B [900,1] Z Z ⟨Z,Z,Z,Z,Z,trivial⟩) ?_))))))));rintro ⟨k,a⟩ ⟨G,C,W⟩;dsimp only at G C W⊢;refine AD (AD (AF (ch Z Z (ch Z Z (J (BU Z No Z) (J (At Z Z Z) (AC (A5 Z (λu=>?_) (λu=>?_)))))))))
 .have b:k<R.length:=BF u;refine AU (AD (AX (AD ?_)));have Q:=z _ (ϑ b);refine AF ?_;refine AB Z Z (AC (AD (AD (AF (AB Z Z (AC (AX (BC (α:=Nat) (λn=>⟨72,[(1,.d (.sl none (l.map AE))),(2,(.ptr 1 0 0)),(5,(.own 900 0 a.length)),(6,(.d (.sl none (R.map BY)))),(7,(.d (AE (k:Int)))),(8,(.d (AE (Nz p R[k].r (l.take n))))),(9,(.d (AE (n:Int))))],[(900,[.rowD 120 7 (a.map BY)]),(1,[B3 25 p])]⟩) (λn=>n<=l.length) (λn=>l.length-n) (0) (κ _) (AR B [900,1] Z Z ⟨Z,Z,Z,Z,Z,Z,Z,trivial⟩) ?_))))))));rintro n S;refine AD (AD (AF (ch Z Z (ch Z Z (J (BU Z E0 Z) (J (At Z Z Z) (AC (A5 Z (λt=>?_) (λt=>?_)))))))))
  .have g:n<l.length:=BF t;refine AU (AD (AX (Bq [[],[],[1],[],[],[],[4,5],[4,5,6],[3,4,5,6,7],[1,2,3,4,5,6,7,8],[1,2,3,4,5,6,7,8,9],[],[],[11,12],[11,12,13],[11,12,13,14],[1,2,3,4,5,6,7,8,9,10,11,12,13,14,15],rg 17,rg 18] mixed Z (B2 ?_))));have c:l[n]∈p.it.map cl.id:=K _ (ϑ g);have H:Sz l[n] (p.it.map cl.id)=(((p.it.map cl.id).idxOf l[n]:Nat):Int):=(Zj c).choose_spec.1;have A:(p.it.map cl.id).idxOf l[n]<p.it.length:=(Zj c).choose;have I:hG p l[n]=p.it[(p.it.map cl.id).idxOf l[n]]:=(Zj c).choose_spec.2.1;have i:=v.q _ (ϑ A);have M:=MO p R[k].r (l:=Av (l.take n)) (by unfold Av;rw[χ,η];omega);rw[<-Lo] at M;have T:=Xj p.it[(p.it.map cl.id).idxOf l[n]] R[k].r;refine A7 8 Z Z (AK [2] Z (AM Z I7 Z Z Z) (Ay [26] Z Z (λ_=>Aa (AQ Z Z Z Cz Z)) ?_));refine Ay [2] Z Z (λ_=>Aa (Ap Z Z By Z Z Z)) (A7 1 Z Z (A7 9 Z Z (AK [29,30] Z (Al (n) Z Z (Z) (AP g) E0 Z BK Z) (AK [31] Z (BZ Z Z Ai Z) (AK [28,32] Z (Aj (Pk p l[n] (by omega)) Z Z) (AK [27,33] Z (Al ((p.it.map cl.id).idxOf l[n]) Z Z (H) (AP A) F0 Z CL Z) (AK [34] Z (CY Z Z F1 Z) (A7 6 Z Z ?_))))))));refine A7 7 Z Z (AK [36,37] Z (Al (k) Z Z (Z) (AP b) No Z Bc Z) (AK [38] Z (KL Z Qh Z Z Z) (AK [39] Z (CY Z Z Cf Z) (AK [35,40] Z (Aj (E9 p.it[(p.it.map cl.id).idxOf l[n]] R[k].r i.1 i.2.1 i.2.2) Z Z) (BV 17 Z Z Z (A0 18 Z Z (J (Ad Z Z (Ξ _ (by omega)) Z) (AC ⟨Z,?_⟩))))))));refine A0 19 Z Z (AB Z Z (AC ⟨Z,?_⟩));refine Bb (AF (ch Z Z (J (Ad Z Z (AJ (n+1) (by omega)) Z) (AB Z Z (AC ?_)))));exact ⟨n+1,by show n+1<=_;omega,by show l.length-(n+1)<l.length-n;omega,AR B [900,1] Z Z ⟨Z,Z,Z,Z,Z,by rw[bf p R[k].r g,I];rfl,Z,trivial⟩⟩
  .have f:l.take n=l:=θ (by have h:=t;omega);refine Aq (AD (AF (ch Z Z (ch Z Z (J (Al (k) Z Z (Z) (AP b) No Z Bc Z) (J (Gw Z Jn Z Z Z) (J (BZ Z Z FJ Z) ?_)))))));refine AB Z Z (AC (AD (AD (AF (ch Z Z (J (At Z Z Z) (AC (A5 Z (λN=>?_) (λN=>?_)))))))));refine AF (AB Z Z (AC (AD ?_)));have j:=MO p R[k].r (l:=Av (l.take n)) (by unfold Av;rw[χ,η];omega);rw[<-Lo] at j;refine Xx 10 (.d (AE (max R[k].n 0))) Z (Ae (by omega)) (AF (ch Z Z (J (At Z Z Z) (ch Z Z (C7 52 Z (λs=>?_) (λs=>?_))))));refine AT Z Z Z (ch Z Z ?_);refine AT Z Z Z (ch Z Z (AT Z Z Z (J (Ad Z Z (Ξ _ (by omega)) Z) (AT Z Z Z (J (At Z Z Z) (J (B8 Z Z Z Z) (AC (A5 Z (λo=>?_) (λo=>?_)))))))));refine AF (ch Z Z (ch Z Z (ch Z Z (J (Al (k) Z Z (Z) (AP b) No Z Bc Z) (J (KL Z Qh Z Z Z) (J (CY Z Z Cf Z) ?_))))));refine ch Z Z (J (ME Z Z (Ξ _ (by omega)) Z) (ch Z Z (J (ME Z Z (Ξ _ (by omega)) Z) (J (Dz rH rf Z Z Z) (V (CF 2 UV Z Z Z Z Z Z Z Z) (V (DN (a) ([⟨R[k].r,0-Nz p R[k].r (l.take n)-max R[k].n 0⟩]) Z Z Z Z Z Z Z Z UV (by simp only[ζ];omega) Z Z Z Z) (AB Z Z (AC ?_))))))))
   rotate_left
   refine AU ?_
   rotate_left
   refine AN Z Z Z Z (AN Z Z Z Z (AN Z Z Z Z (AN Z Z Z Z (J (Bx Z Z Z Z) (AC (Cq Z Z (AU ?_)))))))
   rotate_left
   refine AU (AD ?_);have j:=MO p R[k].r (l:=Av (l.take n)) (by unfold Av;rw[χ,η];omega);rw[<-Lo] at j;refine Xx 10 (.d (AE (max R[k].n 0))) Z (Ae (by omega)) (AF (ch Z Z (J (At Z Z Z) (ch Z Z (C7 52 Z (λs=>?_) (λs=>?_))))));refine AT Z Z Z (ch Z Z ?_);refine AT Z Z Z (ch Z Z (AT Z Z Z (J (Ad Z Z (Ξ _ (by omega)) Z) (AT Z Z Z (J (At Z Z Z) (J (B8 Z Z Z Z) (AC (A5 Z (λo=>?_) (λo=>?_)))))))));refine AF (ch Z Z (ch Z Z (ch Z Z (J (Al (k) Z Z (Z) (AP b) No Z Bc Z) (J (KL Z Qh Z Z Z) (J (CY Z Z Cf Z) ?_))))));refine ch Z Z (J (ME Z Z (Ξ _ (by omega)) Z) (ch Z Z (J (ME Z Z (Ξ _ (by omega)) Z) (J (Dz rH rf Z Z Z) (V (CF 3 UV Z Z Z Z Z Z Z Z) (V (DN (a) ([⟨R[k].r,0-Nz p R[k].r (l.take n)-max R[k].n 0⟩]) Z Z Z Z Z Z Z Z UV (by simp only[ζ];omega) Z Z Z Z) (AB Z Z (AC ?_))))))))
   rotate_left
   refine AU ?_
   rotate_left
   refine AN Z Z Z Z (AN Z Z Z Z (AN Z Z Z Z (AN Z Z Z Z (J (Bx Z Z Z Z) (AC (Cq Z Z (AU ?_)))))))
   all_goals
    refine AF (ch Z Z (J (Ad Z Z (AJ (k+1) (by omega)) Z) (AB Z Z (AC ?_))))
    first | exact ⟨(k+1,a++ [⟨R[k].r,0-Nz p R[k].r (l.take n)-max R[k].n 0⟩]),⟨by show k+1<=_;omega,by show a++ [_]=(R.take (k+1)).flatMap (λy=>KO p (Av l) (B9 p y));rw[jQ b,<-C];unfold KO;rw[<-Lo,ϱ (by show max R[k].n 0+Nz p R[k].r l<0;rw[<-f];omega)];rw[f];congr 3;show _=0-(max R[k].n 0+Nz p R[k].r l);omega,by show (a++ [_]).length<=k+1;rw[Δ];simp;omega⟩,by show R.length-(k+1)<R.length-k;omega,AR B [900,1] Z Z ⟨Z,Z,Z,Z,Z,trivial⟩⟩ | exact ⟨(k+1,a),⟨by show k+1<=_;omega,by show a=(R.take (k+1)).flatMap (λy=>KO p (Av l) (B9 p y));rw[jQ b,<-C];unfold KO;rw[<-Lo,ν (by show ¬max R[k].n 0+Nz p R[k].r l<0;rw[<-f];omega),kY],by show a.length<=k+1;omega⟩,by show R.length-(k+1)<R.length-k;omega,AR B [900,1] Z Z ⟨Z,Z,Z,Z,Z,trivial⟩⟩
 .refine Aq (AD ?_);have L:a=R.flatMap (λy=>KO p (Av l) (B9 p y)):=by rw[C,θ (by have h:=u;omega)]
  refine Fb (emb:=BY) 5 900 a Z Z Z Z Z Z Z (AF (ch Z Z (AB Z Z (AC (A4 ?_)))));exact ⟨_,[],[],A2 Z,Z,Z,by rw[L],Z⟩
abbrev xT(n:Nat):D:= .raw (.int .u32 (n:Int))
structure mq where
 ids:List Int
 bl:List Nat
 de:List (List Int)
 rm:List Int
abbrev x8(l:List Int):D:= .sl none (l.map AE)
abbrev x1(s:mq):D:= .agg [.sl none (s.ids.map AE),.sl none (s.bl.map xT),.sl none (s.de.map x8),.sl none (s.rm.map AE)]
def yG(s:mq)(x:Nat)(i:Nat):Bool:=x.testBit i && decide (yb (s.bl.getD i 0) x≠0)
def lq(s:mq)(x:Nat):Bool:=!(List.range s.bl.length).any (yG s x)
def jv(s:mq)(x:Nat):List Int:=((List.range s.ids.length).filter λi=>x.testBit i).map λi=>s.ids.getD i 0
def lP(n:Nat):Nat->Nat->Nat->List Nat
 | 0,_,x=> [x]
 | l+1,frm,x=>((List.range (n+1-(l+1)-frm)).map (frm+ ·)).flatMap λi=>lP n l (i+1) (x ||| 1<<<i)
section
variable{β:Type}(step:β->Nat->β×Bool)
end
section
variable{β:Type}
def jH(s:mq):List Nat:=(List.range (s.ids.length+1)).flatMap λk=>(lP s.ids.length k 0 0).filter (lq s)
end
variable{E:List (cl×Nat)}{a:List AW}{c:hU}{M:List (Int×Bool)}{S:List Nat}{f:List Int}{i k:Nat}{C:List Int}{g:kU}{h:Nat->Nat}{j:AW}{o:List Nat}{x:Int}{s:cl}{t:Bool}{u:List Int}{w:List cl}{y:Int->Bool}{z A:Nat->Nat}{N:jh}{B:Int}{F:Nat}{G:MF}{H I:Nat}
def x2(p:hU):List Int:=Ch (I3 p)
theorem Ja(a:Ac c=0):(I3 c).Perm (c.it.map cl.id):=by grind[I3,hJ,Js]
theorem d6(a:Ac c=0):(x2 c).Perm (c.it.map cl.id):=(jR _).trans (Ja a)
theorem Y7(a:Ac c=0)(x:Int):x∈x2 c↔x∈c.it.map cl.id:=(d6 a).mem_iff
theorem sx(k:Ac c=0)(A:B∈c.it.map cl.id)(s:g∈ka c B):g.m∈x2 c:=by
 rw[Y7 k];unfold ka at s;rcases υ.1 s with h | h
 .unfold U5 at h;obtain ⟨x,u,rfl⟩:=Γ.1 h;have j:=(jR _).mem_iff.1 u;obtain ⟨w,_,C,_⟩:=Zj A;rw[C] at j;have D:=JE (IL k).2.2 _ (Γ.2 ⟨_,ϑ w,Z⟩)
  grind[Qd,Is]
 .obtain ⟨y,l,h⟩:=mI.1 h;unfold CJ at h;obtain ⟨z,t,rfl⟩:=Γ.1 h;have f:z∈y.q:=lI t;unfold gg at l;obtain ⟨r,_,rfl⟩:=Γ.1 l;have a:z∈hY (hJ c) r.r:=f;unfold hY at a;obtain ⟨o,v,rfl⟩:=Γ.1 a;exact (Ja k).mem_iff.1 (Γ.2 ⟨o,(Φ.1 v).1,Z⟩)
abbrev we(s:mq)(q:Nat×Nat):Hp:=[(2,[.blk 390 [.d (.ptr (x1 s))]]),(3,[.blk 3 [.d (AE (q.1:Int))]]),(4,[.blk 3 [.d (AE (q.2:Int))]])]
structure ye (s:mq):Prop where
 n:s.ids.length<=20
 b:s.bl.length<=20
 u:∀b∈s.bl,b<4294967296
 r:s.rm.length<=1000
 d:s.de.length=s.rm.length
 v:∀r∈s.de,r.length<=32/\∀v∈r,-1000000000000000<=v/\v<=1000000000000000
 m:∀v∈s.rm,0<=v/\v<=4000000000000000
deriving instance DecidableEq for mF
theorem aT:Ch []=[]:=mU (E7 [])
inductive Wh (p:hU) (S:List Int):Int->Prop
 | base {x:Int} (h:x∈S):Wh p S x
 | step {i:Int} {b:kU} (h:Wh p S i) (hb:b∈ka p i):Wh p S b.m
theorem Wh.ids(a:Ac c=0)(i:∀x∈f,x∈c.it.map cl.id)(h:Wh c f x):x∈c.it.map cl.id:=by
 induction h with
 | base h=>exact i _ h
 | step _ g b=>exact (Y7 a _).1 (sx a b g)
theorem QH(h:g∈jc c y):∃i,i∈I3 c/\y i=true/\g∈ka c i/\y g.m=false:=by
 unfold jc at h;obtain ⟨i,a,h⟩:=mI.1 h;unfold FP at h
 split at h
 .rename_i j
  obtain ⟨l,k⟩:=Φ.1 h
  grind
 .cases h
theorem NL(a:Ac c=0)(h:jc c y=[])(j:B∈c.it.map cl.id)(k:y B=true)(l:g∈ka c B):y g.m=true:=by
 cases hm:y g.m with
 | true=>rfl
 | false=>
  have:g∈jc c y:=mI.2 ⟨B,(Ja a).mem_iff.2 j,by unfold FP;rw[ϱ k];exact Φ.2 ⟨l,by rw[hm];rfl⟩⟩
  grind
noncomputable def jx(p:hU)(S:List Int):List Int:=Ch ((p.it.map cl.id).filter λx=> @decide (Wh p S x) (Classical.propDecidable _))
theorem Ou{m:List Int}(h:u.Perm m):Ch u=Ch m:=Ot ((jR u).trans h) ((Kv u).imp λh=>qE.2 h)
theorem Z8{C:List Int}(b:Ac c=0)(j:∀x∈f,x∈c.it.map cl.id)(g:C.Nodup)(h:∀x,x∈C↔Wh c f x):Ch C=jx c f:=by
 unfold jx;have i:=YE (IL b).2.1;refine Ou ((qx g (List.Nodup.sublist lj i)).2 λx=>?_);rw[h x,Φ]
 constructor
 .intro a;exact ⟨a.ids b j,by simpa using a⟩
 simp
theorem SB{f:Type}{q r:f->Bool}:∀{l:List f},(∀x∈l,q x=true->r x=true)->(∃x,x∈l/\r x=true/\q x=false)->(l.filter q).length<(l.filter r).length
 | [],_,⟨x,b,_⟩=>by cases b
 | a::l,h,⟨x,b,o,k⟩=>by
  have i:∀{l:List f},(∀x∈l,q x=true->r x=true)->(l.filter q).length<=(l.filter r).length:=by
   intro l
   induction l with
   | nil=>intro _;exact Θ _
   | cons c l g=>
    intro h;have s:=g λx b=>h x (kw _ b);have j:=h c k7;rw[l5,l5]
    cases hq:q c with
    | false=>cases r c<;>simp<;>omega
    | true=>rw[j hq];simp;exact s
  have t:=i (l:=l) λx b=>h x (kw _ b);rw[l5,l5];rcases jt.1 b with rfl | b
  .rw[o,k];simp;omega
  .have g:=SB (l:=l) (λx b=>h x (kw _ b)) ⟨x,b,o,k⟩;have j:=h a k7
   cases hq:q a with
   | false=>cases r a<;>simp<;>omega
   | true=>rw[j hq];simp;exact g
structure Cl (p:hU) (S C:List Int):Prop where
 n:C.Nodup
 s:∀x∈S,x∈C
 r:∀x∈C,Wh p S x
theorem Cl.len(h:Cl c f C)(b:Ac c=0)(i:∀x∈f,x∈c.it.map cl.id):C.length<=c.it.length:=by
 have g:=YE (IL b).2.1
 have j:=((qx h.n (List.Nodup.sublist (lj (p:=λx=>decide (x∈C))) g)).2 λx=>by
  rw[Φ]
  exact ⟨λa=>⟨(h.r x a).ids b i,by simpa using a⟩,λa=>by simpa using a.2⟩).length_eq
 grind
theorem Cl.done(h:Cl c f C)(g:Ac c=0)(j:∀x∈f,x∈c.it.map cl.id)(s:jc c (C9 C)=[]):Ch C=jx c f:=by
 refine Z8 g j h.n λx=>⟨h.r x,λa=>?_⟩
 induction a with
 | base l=>exact h.s _ l
 | @step i b a o k=>
  have r:=NL g s (a.ids g j) (Υ k) o
  simpa [C9] using r
theorem Cl.add(h:Cl c f C)(l:g∈jc c (C9 C)):Cl c f (C++ [g.m])/\g.m∉C:=by
 obtain ⟨i,_,s,r,o⟩:=QH l;have k:i∈C:=by simpa [C9] using s
 have j:g.m∉C:=by simpa [C9] using o
 refine ⟨⟨?_,λx a=>υ.2 (.inl (h.s x a)),λx a=>?_⟩,j⟩
 .rw[m5];refine ⟨h.n,by simp,λx a y t e=>?_⟩
  grind
 .rcases υ.1 a with a | a
  .exact h.r x a
  .rw[ξ.1 a];exact .step (h.r i k) r
theorem Cl.dec{D:List Int}{m:Int}(b:m∈c.it.map cl.id)(i:m∉C)(g:m∈D)(h:∀x∈C,x∈D):((c.it.map cl.id).filter λx=>!C9 D x).length<((c.it.map cl.id).filter λx=>!C9 C x).length:=
 SB (λx _ a=>by
  have:x∉D:=by simpa [C9] using a
  have:x∉C:=λf=>this (h x f)
  simpa [C9] using this) ⟨m,b,by simpa [C9] using i,by simpa [C9] using g⟩
theorem gv(g:Nat)(E:TypeId)(l:List kU):W5 [(g,[.rowD E 8 (l.map II)])]:=⟨⟨λx f c a=>by
 obtain ⟨b,_,rfl⟩:=Γ.1 f
 simp[D.cells] at a
 rcases a with rfl | rfl | rfl | rfl | rfl | rfl | rfl | rfl<;>rfl,trivial⟩,trivial⟩
theorem Xq(p:hU)(l:List Int)(c:PV p)(G:l.length<=100000):AO prog 110 [.d (BG p),.d (.sl none (l.map AE))] [] λr K=>r= .own 900 0 (jc p (C9 l)).length/\K=[(900,[.rowD 207 8 ((jc p (C9 l)).map II)])]:=by
 have I:hJ p=ea p.it:=ϱ c.e;have D:=c.i;have j:=Dg p.it D;have y:=λx v=>VD p l x c.e c.b D c.r c.q G v;have o:=λi=>OL c.b D c.r i;have s:∀x∈ea p.it,x∈p.it:=λx v=>(Js p.it).mem_iff.1 v;have w:=Nr p.it;have A:jc p (C9 l)=(ea p.it).flatMap λx=>FP p (C9 l) x.id:=by unfold jc I3;rw[I,List.flatMap_map]
 rw[A]
 obtain ⟨S,H⟩:∃S,ea p.it=S:=⟨_,Z⟩
 rw[H] at j s w⊢;refine As func110 Z Z ntmps110 Z Z Z λF C=>(AD (AF (V (B7 1 Z Z Z Z Z Z Z) (AB Z Z (AC (AD ?_))))));refine AF (AB Z Z (AC (AD (IU 5 900 Ov Z Z Z Z (AF (J (AM Z I7 Z Z Z) (J (AQ Z Z Z Cz Z) (J (Aj (j) Z Z) ?_))))))));refine AB Z Z (AC (AD (AD (AF (AB Z Z (AC (AX (BC (α:=Nat×List kU) (λq=>⟨34,[(1,.d (.sl none (l.map AE))),(2,(.ptr 1 0 0)),(5,(.own 900 0 q.2.length)),(6,(.d (.sl none (S.map Ah)))),(7,(.d (AE (q.1:Int))))],[(900,[.rowD 207 8 (q.2.map II)]),(1,[B3 25 p])]⟩) (λq=>q.1<=S.length/\q.2=(S.take q.1).flatMap (λx=>FP p (C9 l) x.id)/\q.2.length<=q.1*1100000) (λq=>S.length-q.1) ((0,[])) (⟨κ _,Z,Θ _⟩) (AR C [900,1] Z Z ⟨Z,Z,Z,Z,Z,trivial⟩) ?_))))))));rintro ⟨k,a⟩ ⟨z,u,B⟩;dsimp only at z u B⊢;refine AD (AD (AF (ch Z Z (ch Z Z (J (BU Z F0 Z) (J (At Z Z Z) (AC (A5 Z (λg=>?_) (λg=>?_)))))))))
 .have b:k<S.length:=BF g;refine AU (AD (AX (AD (AF ?_))));refine ch Z Z (ch Z Z (ch Z Z (J (Al (k) Z Z (Z) (AP b) F0 Z CL Z) (J (Gw Z QP Z Z Z) (J (BZ Z Z Ai Z) (J (Aj (TE l S[k].id (by omega)) Z Z) (AC (A5 Z (λf=>?_) (λf=>?_)))))))))
  .refine Bq [[],[],[],[],[],[3,4],[3,4,5],[1,2,3,4,5,6],rg 8,rg 9] mixed Z (B2 (A7 5 Z Z ?_));refine Ay [2] Z Z (λ_=>Aa (Ap Z Z By Z Z Z)) (A7 1 Z Z (A7 6 Z Z (A7 7 Z Z (AK [27,28] Z (Al (k) Z Z (Z) (AP b) F0 Z CL Z) (AK [29] Z (CY Z Z F1 Z) (AK [25,26,30] Z (Aj (y S[k] (s _ (ϑ b))) Z Z) (BV 8 Z Z Z (A0 9 Z Z ?_))))))));have E:=jp (cF (C9 l) _) (o S[k].id);refine V (Jr (a) (CS (C9 l) (ka p S[k].id)) Z Z Z Z Z Z (λ_=>rfl) Ov (by omega) Z Z Z Z) (AC ⟨Z,?_⟩);refine A0 10 Z Z (AB Z Z (AC ⟨Z,?_⟩));refine Bb (AF (ch Z Z (J (Ad Z Z (AJ (k+1) (by omega)) Z) (AB Z Z (AC ?_)))));exact ⟨(k+1,a++CS (C9 l) (ka p S[k].id)),⟨by show k+1<=_;omega,by show a++CS (C9 l) (ka p S[k].id)=(S.take (k+1)).flatMap (λx=>FP p (C9 l) x.id);rw[jQ b,<-u,qQ (Υ f)],VM B (jp (cF (C9 l) _) (o S[k].id))⟩,by show S.length-(k+1)<S.length-k;omega,AR C [900,1] Z (Z) ⟨Z,Z,Z,Z,Z,trivial⟩⟩
  .refine AU (AF (ch Z Z (J (Ad Z Z (AJ (k+1) (by omega)) Z) (AB Z Z (AC ?_)))));exact ⟨(k+1,a),⟨by show k+1<=_;omega,by show a=(S.take (k+1)).flatMap (λx=>FP p (C9 l) x.id);rw[jQ b,<-u,iz (by unfold C9;simpa using f),kY],ZM B⟩,by show S.length-(k+1)<S.length-k;omega,AR C [900,1] Z (Z) ⟨Z,Z,Z,Z,Z,trivial⟩⟩
 .refine Aq (AD ?_);have t:a=S.flatMap (λx=>FP p (C9 l) x.id):=by rw[u,θ (by have h:=g;omega)]
  refine AF (ch Z Z (AB Z Z (AC (A4 ?_))));exact ⟨_,[900],_,A2 Z,Z,Z,by rw[t],by rw[t]⟩
theorem eP(p:hU)(l:List Int)(f:PV p)(u:l.length<=1000)(t:l.Nodup)(j:∀x∈l,x∈p.it.map cl.id):AI prog 62 [.d (BG p),.d (.sl none (l.map AE))] (.sl none ((jx p l).map AE)):=by
 have v:=f.i;refine As func62 Z Z ntmps62 Z Z Z λF k=>(AD (AF (V (B7 1 Z Z Z Z Z Z Z) (AB Z Z (AC ?_)))));refine AD (AF (V (CF 30 Ao Z Z Z Z Z Z Z Z) (ch Z Z (V (Jr (([]:List Int)) (l) Z Z Z Z Z Z (λ_=>rfl) Ao (by simp only[lT];omega) Z Z Z Z) (AB Z Z (AC (AX (BC (α:=List Int) (λa=>⟨25,[(2,(.ptr 1 0 0)),(5,(.own 30 0 a.length))],[(1,[B3 25 p]),(30,[.rowD 3 1 (a.map AE)])]⟩) (λa=>Cl p l a) (λa=>((p.it.map cl.id).filter λx=>!C9 a x).length) (l) (⟨t,λ_ h=>h,λ_ h=> .base h⟩) (AR k [1,30] Z Z ⟨Z,Z,trivial⟩) ?_))))))));rintro a g;refine AX (AD ?_);have s:=g.len f.e j;refine AF (J (Ap Z Z By Z Z Z) (ch Z Z (V (dU [30] (Xq p a f (by omega)) (by exact ⟨.inl Z,.inr ⟨_,_,Z,.own Z Z (by simp) (θ (by simp)),Z⟩,trivial⟩) [900] ⟨Z,trivial⟩ Z Z Z Z Z Z Z (gv _ _ _) Z Z) (AB Z Z ?_))));refine AC (AD (AD (AF (ch Z Z (J (SZ Z underlying204 Z) (J (Fa Z Z Z) (AC (A5 Z (λc=>?_) (λc=>?_)))))))))
 .refine AD ?_;have i:jc p (C9 a)=[]:=mU (by have h:=c;omega);refine Fb (emb:=AE) 5 30 a Z Z Z Z Z Z Z (AF (ch Z Z (J (Aj (UU a (by omega)) Z Z) (AB Z Z (AC (A4 ?_))))));exact ⟨_,[],[],A2 Z,Z,Z,by rw[g.done f.e j i],Z⟩
 .refine AU ?_;have b:0<(jc p (C9 a)).length:=by have h:=c;omega
  refine Fb (emb:=II) 6 900 (jc p (C9 a)) Z Z Z Z Z Z Z (AF ?_);refine ch Z Z (ch Z Z (J (Al (0) Z Z (Z) (AP b) underlying204 Z va Z) (J (Gw Z pP Z Z Z) (J (BZ Z Z Ai Z) (V (CF 31 Ao Z Z Z Z Z Z Z Z) (V (DN (a) ([(jc p (C9 a))[0].m]) Z Z Z Z Z Z Z Z Ao (by simp only[ζ];omega) Z Z Z Z) (AB Z Z (AC ?_))))))));exact ⟨a++ [(jc p (C9 a))[0].m],(g.add (ϑ b)).1,Cl.dec (((g.add (ϑ b)).1.r _ (by simp)).ids f.e j) (g.add (ϑ b)).2 (by simp) (λx o=>υ.2 (.inl o)),AR k [1,30] Z (Z) ⟨Z,Z,trivial⟩⟩
theorem bu(a:Ek c)(g:c.it.length<=1000)(b:c.ro.length<=1000)(f:Int->Bool):(jc c f).length<=1100000000:=by
 unfold jc;have h:=JF (f:=FP c f) (n:=1100000) (l:=I3 c) (λx _=>WT a g b f x)
 grind[I3,DW]
def Db(M:List (Int×Bool)):List Int:=(M.filter λe=>e.2).map Prod.fst
theorem Og(k:Int)(v:Bool)(M:List (Int×Bool)):Db ((k,v)::M)=(if v=true then [k] else [])++Db M:=by
 unfold Db;cases v<;>simp
theorem Oe{l m:List (Int×Bool)}(h:l.Perm m):(Db l).Perm (Db m):=(h.filter _).map _
theorem aB(M:List (Int×Bool)):(Db M).length<=M.length:=by unfold Db;rw[χ];exact lE _ _
abbrev yM(mv:Nat)(B:List Nat)(c:Nat)(M:List (Int×Bool)):Hp:=[(12,[.map (some (B,c)) (Bg AE Am M)]),(13,[.addr 12 0 (.map (some mv))])]
theorem dX(j:Nat)(B:List Nat)(c:Nat)(M:List (Int×Bool))(z:B.length=M.length)(E:M.length<=100000):AO prog 73 [mapV j] (yM j B c M) λr A=>r= .own 900 0 (Db M).length/\A=yM j B c M++ [(900,[.rowD 3 1 ((Ch (Db M)).map AE)])]:=by
 have D:=aB M;refine As func73 Z Z ntmps73 Z Z Z λF u=>?_;refine AD (AF (AB Z Z (AC (AD (AF (AB Z Z (AC (AD ?_))))))));refine AD (IU 3 900 Ao Z Z Z Z (AF (ch Z Z (EN 6 13 0 Z Z (V (HC 1 Z Z Z KH Z Z Z Z) (AC (AX (BC (α:=List Nat×List Int) (λq=>⟨21,[(3,(.own 900 0 q.2.length)),(7,(.ptr 1 0 0))],yM j B c M++ [(900,[.rowD 3 1 (q.2.map AE)]),(1,[.iter 12 0 c q.1])]⟩) (λq=>(q.2++Db (CX M B q.1)).Perm (Db M)) (λq=>(CX M B q.1).length) (([],[])) (by show ([]++Db (CX M B [])).Perm _;rw[Dl z];exact List.Perm.refl _) (AR u [12,13,900,1] Z Z ⟨Z,Z,trivial⟩) ?_))))))));rintro ⟨seen,a⟩ i;dsimp only at i⊢;refine AD (AF (Mg (M) Z Z Z Z (λs=>?_) (λw h l C o t y f=>⟨_,Z,?_⟩)))
 .have b:a.Perm (Db M):=by have k:=i;rw[s] at k;simpa [Db] using k
  refine J (D3 Z Z Z) (AC (AD (Cq Z Z (Aq (AD (AF ?_))))));have v:=b.length_eq;refine ch Z Z (V (UM rx a (by omega) Z Z Z Z Z Z Z) (AC (AD (AF (ch Z Z (AB Z Z (AC (A4 ?_))))))));exact ⟨_,[12,13,900],_,A2 Z,Z,Z,by rw[b.length_eq],by rw[Ou b];rfl⟩
 .refine J (D3 Z Z Z) ?_;refine AC (AD (CM Z Z (AU (AX (AD (AF (J (HD (M) w h Z Z Z o t Z) (J (D3 Z Z Z) ?_))))))));refine J (D3 Z Z Z) (AB Z Z (AB Z Z (AC (AD (AF (ch Z Z (AC (KB Z (λg=>?_) (λg=>?_)))))))))
  .refine AF (ch Z Z ?_);have x:a.length<=100000:=by have k:=i.length_eq;rw[Δ] at k;omega
   refine ch Z Z (V (CF 30 Ao Z Z Z Z Z Z Z Z) (V (DN (a) ([l]) Z Z Z Z Z Z Z Z Ao (by simp only[ζ];omega) Z Z Z Z) (AB Z Z (AC ?_))));exact ⟨(seen++ [h],a++ [l]),(by show ((a++ [l])++Db (CX M B (seen++ [h]))).Perm _;refine List.Perm.trans (List.Perm.trans ?_ (List.Perm.append_left a (Oe f)).symm) i;rw[Og,ϱ (by simpa using g),lh]),by show (CX M B (seen++ [h])).length<(CX M B seen).length;rw[f.length_eq];exact mN _,AR u [12,13,900,1] Z (Z) ⟨Z,Z,trivial⟩⟩
  .refine AU ?_;exact ⟨(seen++ [h],a),(by show (a++Db (CX M B (seen++ [h]))).Perm _;refine List.Perm.trans (List.Perm.trans ?_ (List.Perm.append_left a (Oe f)).symm) i;rw[Og,ν (by simpa using g),kN]),by show (CX M B (seen++ [h])).length<(CX M B seen).length;rw[f.length_eq];exact mN _,AR u [12,13,900,1] Z (Z) ⟨Z,Z,trivial⟩⟩
def WX(M:List (Int×Bool)):Prop:=∀e∈M,e.2=true
def j9(M:List (Int×Bool)):List Int:=M.map Prod.fst
theorem aC(h:WX M):Db M=j9 M:=by
 unfold Db j9;rw[qy.2 h]
theorem ZS(h:WX M):jz M=C9 (j9 M):=by grind[jz,C9,j9,Iw,Jd,WX]
theorem jJ(h:WX M)(x:Int):WX (B1 M x true):=λe i=>by
 obtain ⟨j,c,rfl⟩:=mK.1 i;have g:=OU (m:=M) (a:=x) (b:=true)
 by_cases e:j=jo M x
 .subst e;have:=g.1;rw[ω c] at this;injection this with this;rw[this]
 .have f:=g.2 j e;rw[ω c] at f;exact h _ (ϖ f.symm)
theorem P7(M:List (Int×Bool))(x:Int)(b:Bool):j9 (B1 M x b)=if x∈j9 M then j9 M else j9 M++ [x]:=Mj
theorem Cl.put(h:Cl c f (j9 M))(l:Wh c f x):Cl c f (j9 (B1 M x true)):=by
 rw[P7]
 split
 .exact h
 .rename_i j
  refine ⟨?_,λy g=>υ.2 (.inl (h.s y g)),λy g=>?_⟩
  .rw[m5];exact ⟨h.n,by simp,λa k b i e=>by rw[ξ] at i;subst i;subst e;exact j k⟩
  .rcases υ.1 g with g | g
   .exact h.r y g
   grind
theorem dg(l:List Int):WX (Av l):=λe a=>by
 unfold Av at a;obtain ⟨x,_,rfl⟩:=Γ.1 a;rfl
theorem aW(l:List Int):j9 (Av l)=l:=by unfold j9 Av;rw[jw];exact List.map_id' l
theorem qG(p:hU)(l:List Int)(j:Ek p)(hl:l.length<=1000)(U:p.it.length<=1000)(T:p.ro.length<=1000)(R:EX p l=0)(W:l.Nodup)(L:∀x∈l,x∈p.it.map cl.id):AO prog 27 [.d (BG p),.d (.sl none (l.map AE))] [] λr Y=>r= .tup [.own 900 0 (jx p l).length,.d (AE 0)]/\Y=[(900,[.rowD 3 1 ((jx p l).map AE)])]:=by
 have G:=(PI p l j (by omega) R).by [(2,12)] rfl;have O:=WO R;have A:=λg M=>ir p g (some (List.range M.length,M.length)) M j U T;refine As func27 Z Z ntmps27 Z Z Z λF E=>(AD (AF (V (B7 1 Z Z Z Z Z Z Z) ?_)));refine AB Z Z (AB Z Z (AC (AD (AF (J (Ap Z Z Bp Z Z Z) (ch Z Z (V (FX G Z [10,11,12] ⟨Z,Z,Z,trivial⟩ Z Z Z Z Z Z Z Z Z) (ch Z Z ?_))))))));refine J (D3 Z Z Z) (J (D3 Z Z Z) (J (D3 Z Z Z) (AB Z Z (AB Z Z (AB Z Z (AC (AD (AD ?_))))))));refine AF (ch Z Z (J (DJ Z Z Z) (AC (Cq Z ((by decide)) (AU (AD (AD (W1 13 12 0 Z Z Z Z Z λg=>?_))))))));refine Zg 7 13 0 (.inl Z) Z (AF (ch Z Z (ch Z Z (V (FX (A g (Av l)) Z [10,11,12,13] ⟨Z,Z,Z,Z,trivial⟩ Z Z Z Z Z Z Z Z Z) (AB Z Z (AC (AX (BC (α:=List (Int×Bool)) (λM=>⟨43,[(6,(.ptr 10 0 0)),(7,(mapV g)),(9,(.d (.sl none ((jc p (jz M)).map II))))],nQ p g (some (List.range M.length,M.length)) M⟩) (λM=>WX M/\Cl p l (j9 M)) (λM=>((p.it.map cl.id).filter λx=>!C9 (j9 M) x).length) (Av l) (⟨dg l,by rw[aW];exact ⟨W,λ_ h=>h,λ_ h=> .base h⟩⟩) (AR E [10,11,12,13] Z Z ⟨Z,Z,Z,trivial⟩) ?_))))))));rintro M ⟨D,B⟩;refine AD (AD (AF (ch Z Z ?_)));have X:(jc p (jz M)).length<=1100000000:=bu j U T _;refine J (BU Z underlying141 Z) (J (H4 Z Z Z) (AC (A5 Z (λu=>?_) (λu=>?_))))
 .refine AU (AD (AX (AD ?_)));have w:0<(jc p (jz M)).length:=by have h:=u;omega
  have f:∀b∈jc p (jz M),Wh p l b.m/\b.m∉j9 M:=λb j=>by rw[ZS D] at j;exact ⟨(B.add j).1.r _ (by simp),(B.add j).2⟩
  refine AF (ch Z Z (J (BU Z underlying141 Z) (ch Z Z (AC (AX (BC (α:=Nat×List (Int×Bool)) (λq=>⟨43,[(6,(.ptr 10 0 0)),(7,(mapV g)),(31,(.d (.sl none ((jc p (jz M)).map II)))),(32,(.d (AE ((jc p (jz M)).length:Int)))),(33,(.d (AE (q.1:Int))))],nQ p g (some (List.range q.2.length,q.2.length)) q.2⟩) (λq=>q.1<=(jc p (jz M)).length/\WX q.2/\Cl p l (j9 q.2)/\(∀x∈j9 M,x∈j9 q.2)/\(0<q.1->(jc p (jz M))[0].m∈j9 q.2)) (λq=>(jc p (jz M)).length-q.1) ((0,M)) (⟨κ _,D,B,λ_ h=>h,λh=>absurd h (ml 0)⟩) (AR E [10,11,12,13] Z Z ⟨Z,Z,Z,Z,Z,trivial⟩) ?_))))));rintro ⟨k,v⟩ ⟨H,o,s,a,c⟩;dsimp only at H o s a c⊢;refine AD (AF (J (At Z Z Z) (AC (AD (A5 Z (λt=>?_) (λt=>?_))))))
  .have y:k<(jc p (jz M)).length:=BF t;refine AU (AD (AX ?_));refine AD (AF (J (Al (k) Z Z (Z) (AP y) underlying141 Z rM Z) (J (CY Z Z vj Z) (V (CP 2 c7 Z Z Z Z) (V (Bi Z Z Z Z Z Z Z rM) (AC (AF (ch Z Z ?_))))))));refine EN 37 13 0 Z Z (J (AM Z pR Z Z Z) (J (AQ Z Z Z Ai Z) (V (Wf (v) ((jc p (jz M))[k].m) (true) Z Z Z KH I6 Z Z) (AC (AF (J (Ad Z Z (AJ (k+1) (by omega)) Z) (ch Z Z (AC ?_))))))));exact ⟨(k+1,B1 v (jc p (jz M))[k].m true),⟨by show k+1<=_;omega,jJ o _,s.put (f _ (ϑ y)).1,λx Q=>by show x∈j9 (B1 v _ true);rw[P7];split;exact a x Q;exact υ.2 (.inl (a x Q)),λ_=>by show _∈j9 (B1 v _ true);rw[P7];rcases Nat.eq_zero_or_pos k with C | C;subst C;split;assumption;simp;split;exact c C;exact υ.2 (.inl (c C))⟩,by show (jc p (jz M)).length-(k+1)<(jc p (jz M)).length-k;omega,AR E [10,11,12,13] Z (Z) ⟨Z,Z,Z,Z,Z,trivial⟩⟩
  .have z:((p.it.map cl.id).filter λx=>!C9 (j9 v) x).length<((p.it.map cl.id).filter λx=>!C9 (j9 M) x).length:=Cl.dec ((f _ (ϑ w)).1.ids O L) (f _ (ϑ w)).2 (c (by have h:=t;omega)) a;refine Aq (AF (ch Z Z (ch Z Z (V (FX (A g v) Z [10,11,12,13] ⟨Z,Z,Z,Z,trivial⟩ Z Z Z Z Z Z Z Z Z) (AB Z Z (AC ?_))))));exact ⟨v,⟨o,s⟩,z,AR E [10,11,12,13] Z (Z) ⟨Z,Z,Z,trivial⟩⟩
 .refine Aq (AD ?_);have K:jc p (C9 (j9 M))=[]:=by rw[<-ZS D];exact mU (by have h:=u;omega)
  have N:M.length<=100000:=by have S:=B.len O L;unfold j9 at S;rw[χ] at S;omega
  have i:Ch (Db M)=jx p l:=by rw[aC D];exact B.done O L K
  have I:(Db M).length=(jx p l).length:=by rw[<-i,E7]
  refine AF (ch Z Z (V (FX (dX g (List.range M.length) M.length M (by simp) N) Z [12,13,900] ⟨Z,Z,Z,trivial⟩ Z Z Z Z Z Z Z Z Z) (AB Z Z (AB Z Z (AC (A4 ?_))))));exact ⟨_,[900],_,A2 Z,Z,Z,by rw[I],by rw[i]⟩
inductive nS (p:hU) (S:List Int):Int->Prop
 | base {i:Int} {b:kU} (hb:b∈ka p i) (h:b.m∉S):nS p S i
 | step {i:Int} {b:kU} (hb:b∈ka p i) (h:nS p S b.m):nS p S i
theorem vl(a:g∈ka c B):g.i=B:=by grind[ka,U5,CJ]
noncomputable def w9(p:hU)(S:List Int):List Int:=Ch (S.filter λx=> @decide (¬nS p S x) (Classical.propDecidable _))
structure Ci (p:hU) (S C:List Int):Prop where
 n:C.Nodup
 s:∀x∈C,x∈S
 r:∀x∈S,x∉C->nS p S x
theorem Ci.done(h:Ci c f C)(o:Ac c=0)(u:f.Nodup)(r:∀x∈f,x∈c.it.map cl.id)(s:jc c (C9 C)=[]):Ch C=w9 c f:=by
 have j:∀x,nS c f x->x∉C:=λx a=>by
  induction a with
  | @base i b k v=>
   intro g;have l:=NL o s (r _ (h.s _ g)) (Υ g) k;exact v (h.s _ (by simpa [C9] using l))
  | @step i b k _ t=>
   intro g;have l:=NL o s (r _ (h.s _ g)) (Υ g) k;exact t (by simpa [C9] using l)
 unfold w9;refine Ou ((qx h.n (List.Nodup.sublist lj u)).2 λx=>?_);rw[Φ]
 constructor
 .intro a;exact ⟨h.s x a,by simpa using λw=>j x w a⟩
 .intro a;have z:¬nS c f x:=by simpa using a.2
  exact Classical.byContradiction λy=>z (h.r x a.1 y)
theorem Ci.drop(h:Ci c f C)(o:g∈jc c (C9 C)):nS c f g.i/\g.i∈C:=by
 obtain ⟨i,_,s,a,r⟩:=QH o;have l:i∈C:=by simpa [C9] using s
 have k:g.m∉C:=by simpa [C9] using r
 rw[vl a];refine ⟨?_,l⟩
 by_cases j:g.m∈f
 .exact .step a (h.r _ j k)
 .exact .base a j
theorem Ci.rest(h:Ci c f C)(g:nS c f x):Ci c f (C.filter λy=>decide (y≠x)):=by
 refine ⟨List.Nodup.sublist lj h.n,λy a=>h.s y (Φ.1 a).1,λy a i=>?_⟩
 by_cases b:y∈C
 .grind
 .exact h.r y a b
theorem fq(M:List (Int×Bool))(x:Int):jo M x=(j9 M).idxOf x:=by
 induction M with
 | nil=>rfl
 | cons e r a=>
  grind[jo,j9]
theorem gL(a:(j9 M).Nodup)(x:Int):j9 (tV M x)=(j9 M).filter λy=>decide (y≠x):=by
 unfold tV;rw[fq];show ((M.eraseIdx _).map Prod.fst)=_;rw[ZH];show (j9 M).eraseIdx _=_;rw[<-List.erase_eq_eraseIdx_of_idxOf Z,List.Nodup.erase_eq_filter a]
 grind
theorem Ci.del(h:Ci c f (j9 M))(a:nS c f x):Ci c f (j9 (tV M x)):=by
 rw[gL h.n];exact h.rest a
theorem WK{p:hU}{l:List Int}:(jx p l).length<=p.it.length:=by grind[jx,E7]
abbrev Gl(l:List Int):D:= .sl none (l.map AE)
abbrev Wd(l:List (List Int)):D:= .sl none (l.map Gl)
def uD(k:Nat):Nat->Nat:=λj=>if j<k then j else 0
theorem gc(k:Nat):BH (uD k) k k=uD (k+1):=by grind[MJ,uD,H5]
theorem ga:(λ_:Nat=>0)=uD 0:=by funext j;unfold uD;rw[ν (by omega)]
def Qa(f:Nat->Nat)(k j:Nat):List Nat:=(List.range j).filter λi=>decide (f i=k)
theorem gK(a:h F=k):Qa h k (F+1)=Qa h k F++ [F]:=by unfold Qa;rw[ko,lv];simp[a]
theorem bQ(a:¬h F=k):Qa h k (F+1)=Qa h k F:=by unfold Qa;rw[ko,lv];simp[a]
theorem gJ(f:Nat->Nat)(k j:Nat):(Qa f k j).length<=j:=jp (lE _ _) (by rw[kp];exact Θ _)
theorem Cn.trans(h:Cn a E i F)(b:Cn a E F k):Cn a E i k:=Rh.trans h b
abbrev aA(rs:List AW)(E:List (cl×Nat))(i:Nat):List AW:=(dR rs (EA E i)).map Prod.fst
theorem u2(c:i<E.length)(b:F<E.length)(g:j∈aA a E i)(f:j∈aA a E F):Cn a E i F:=Rh.one (Er.2 ⟨c,b,.inr (.inr ⟨j,g,f⟩)⟩)
theorem u3{rs:List AW}{i j:Nat}(b:i<E.length)(a:j<E.length)(h:(EA E i).id∈(EA E j).af):Cn rs E i j:=Rh.one (Er.2 ⟨b,a,.inr (.inl h)⟩)
structure uw (rs:List AW) (E:List (cl×Nat)) (f:Nat->Nat):Prop where
 uf:UF E.length (Cn rs E) f
 us:∃U,Qm rs E (λi r=>i<E.length/\r∈aA rs E i) U f
 af:∀i,i<E.length->∀j,j<E.length->(EA E j).id∈(EA E i).af->f j=f i
theorem uw.full(b:uw a E h):∀i j,i<E.length->j<E.length->Cn a E i j->h i=h j:=λi j z w t=>by
 obtain ⟨U,l⟩:=b.us;refine (Rh.clos (p:=λx=>h i=h x) (λv s y o=>?_) t Z);obtain ⟨k,g,c⟩:=Er.1 o;rw[s];rcases c with c | c | ⟨r,c,u⟩
 .exact (b.af v k y g c).symm
 .exact b.af y g v k c
 .rw[<-(l.has v r ⟨k,c⟩).2,(l.has y r ⟨g,u⟩).2]
theorem V1(h:(w.map cl.id).Nodup){q:cl->Bool}(a:E.map Prod.fst=w.filter q):jX E:=by grind[lj,D8,l4,jX]
noncomputable def kW(rs:List AW)(E:List (cl×Nat)):List (List Int):=(me E.length (Cn rs E)).map (BQ E)
theorem u1(p:hU)(l:List Int)(hf:CT p)(hl:l.length<=100000)(hC:EX p l=0)(hE:Ac p=0)(hn:l.Nodup):
  AO prog 23 [.d (BG p),.d (Gl l)] [] λr H'=>∃E:List (cl×Nat),E.map Prod.fst=(hJ p).filter (λi=>decide (i.id∈l))/\r= .d (.tup [Wd (kW (j1 p) E),AE 0])/\H'=[]:=by
 have hi30:=hf.i;have hck:=bp p l hf.b hl (by omega);rw[hC] at hck;have hids:((hJ p).map cl.id).Nodup:=F4 hE;have hol:(hJ p).length<=30:=by rw[show hJ p=ea p.it from ϱ hE,Nr];exact hi30
 have hxm:∀i∈hJ p,i∈p.it:=λi hi=>by rw[show hJ p=ea p.it from ϱ hE] at hi;exact (Js p.it).mem_iff.1 hi
 refine As func23 Z Z ntmps23 Z Z Z λF v=>(AD (AF (V (B7 1 Z Z Z Z Z Z Z) (AB Z Z (AB Z Z (AC ?_))))));refine AD (AD (AF (J (Ap Z Z Bp Z Z Z) (ch Z Z (J (Aj (hck) Z Z) (AB Z Z (AC (AD ?_))))))));refine AF (ch Z Z (J (DJ Z Z Z) (AC (Cq Z (kC (by decide)) (AU (AD (Bq [[],[],[1],[0,1,2],[0,1,2,3]] mixed Z (yD (γ:=Nat×MF) 3 (λq=>⟨154,[(2,.ptr 1 0 0),(35,.d (BG p)),(37,.d (Zx q.1))],[(41,[.multi q.2])]⟩) (λq=>KC q.2 q.1 l) Z Z Z ?_ ?_ (λa hI=>?_)))))))))
 .refine J (Ap Z Z Bp Z Z Z) (AC ⟨Z,?_⟩);refine ch Z Z (AC ⟨Z,?_⟩);refine DA (YB (Gy l hn (by omega)) Z [41] ⟨Z,trivial⟩ Z Z Z Z (λr H' ⟨b,N,G,D,_⟩=>by subst G D;exact ⟨Z,Z,Z⟩) Z) Z ?_;rintro _ ⟨r,H',⟨b,N,G,D,hW⟩,rfl⟩;subst G D;refine AC ⟨Z,?_⟩;exact ⟨(b,N),hW,AR v [41] Z Z ⟨Z,Z,Z,trivial⟩⟩
 .refine ch Z Z (AC ⟨Z,?_,?_⟩);refine J (Ap Z Z Bp Z Z Z) (AC ⟨Z,?_⟩);refine DA (YB (Gy l hn (by omega)) Z [41] ⟨Z,trivial⟩ Z Z Z Z (λr H' ⟨b,N,G,D,_⟩=>by subst G D;exact ⟨Z,Z,Z⟩) Z) Z ?_;rintro _ ⟨r,H',⟨b,N,G,D,hW⟩,rfl⟩;subst G D
  rotate_left
  refine DA (YB (Gy l hn (by omega)) Z [41] ⟨Z,trivial⟩ Z Z Z Z (λr H' ⟨b,N,G,D,_⟩=>by subst G D;exact ⟨Z,Z,Z⟩) Z) Z ?_;rintro _ ⟨r,H',⟨b,N,G,D,hW⟩,rfl⟩;subst G D;refine AC ⟨Z,?_⟩;refine J (Ap Z Z Bp Z Z Z) ?_
  all_goals
   refine AC ⟨Z,?_⟩;exact ⟨(b,N),hW,AR v [41] Z Z ⟨Z,Z,Z,trivial⟩⟩
 .obtain ⟨b,N⟩:=a;have hW:KC N b l:=hI;refine A0 4 Z Z ?_;refine DA (YB (ND p hE hf WF [pD b 0] N (λid=>decide (id∈l)) (J0 hW)) Z [41,40] ⟨Z,Z,trivial⟩ Z Z Z Z (λr H' ⟨E,M,G,D,_⟩=>by subst G D;exact ⟨Z,Z,Z⟩) Z) Z ?_;rintro _ ⟨r,H',⟨E,M,G,D,hR,hEq⟩,rfl⟩;subst G D;refine AC ⟨Z,?_⟩;refine A0 5 Z Z (AB Z Z (AC ⟨Z,?_⟩));refine Bb (AD ?_)
  obtain ⟨n,w⟩:∃n,E.length=n:=⟨_,Z⟩
  have hn30:n<=30:=by have h1:(E.map Prod.fst).length<=(hJ p).length:=(by rw[hEq];exact lE _ _);rw[χ,w] at h1;omega
  have hIt:∀k,k<n->EA E k∈hJ p:=λk hk=>by have h1:EA E k∈E.map Prod.fst:=(by rw[D8 (by omega)];exact m9 (ϑ _));rw[hEq] at h1;exact (Φ.1 h1).1
  have hId:jX E:=V1 hids hEq;have R:(E.map DL).length=n:=by rw[χ,w]
  refine AF (ch Z Z (J (I2 Z R T1 Z) (V (FZ 2 Ao Z Z Z (by omega) sY Z Z Z Z) ?_)));rw[sy,ga];refine V (CP 3 vI Z Z Z Z) (V (Bi Z Z Z Z Z Z Z DQ) (AC ?_));refine AD (AD (AF (J (AQ Z Z Z BL Z) (J (SZ Z E0 Z) (ch Z Z (AC (AX (BC (α:=Nat) (λk=>⟨154,[(7,(.d (.sl none (E.map DL)))),(8,(.ptr 3 0 0)),(43,(.d (AY n))),(44,(.d (AY k)))],[(2,[.rowD 3 1 (rowN n (uD k))]),(3,[.blk 28 [.own 2 0 n]]),(40,[.multi M])]⟩) (λk=>k<=n) (λk=>n-k) (0) (κ _) (AR v [2,3,40] Z Z ⟨Z,Z,Z,Z,trivial⟩) ?_))))))));rintro k hk;refine AD (AF (J (At Z Z Z) (AC (AD (A5 Z (λh45=>?_) (λh45=>?_))))))
  .refine AU (AD (AX (AD ?_)));have g:k<n:=BF h45;refine AF ?_;refine ch Z Z (AB Z Z (AC (AF (J (AQ Z Z Z BL Z) (ch Z Z (ch Z Z (J (D1 (k) Z Z (Z) (g) Z E0 BK Z) (V (Zp Z Z Z Z Z (by rw[EK];exact g) EJ Z BK) ?_))))))));rw[gc];refine AC (AF (J (Ad Z Z (AJ (k+1) (by omega)) Z) (ch Z Z (AC ?_))));exact ⟨k+1,g,by omega,AR v [2,3,40] Z (Z) ⟨Z,Z,Z,Z,trivial⟩⟩
  .refine Aq (AD ?_);have W:k=n:=by have:=h45;omega
   rw[RJ (f:=uD k) (h:=λj=>j) λj K=>ϱ (by omega)];refine AF (J (uk Z Z) ?_);refine AB Z Z (AC (AD (AF (V (S2 50 Z Z Z Z) (V (S2 51 Z Z Z Z) (AB Z Z (AB Z Z (AC ?_))))))));refine AD (AD (AF (ch Z Z (J (I2 Z R T1 Z) (ch Z Z (AC (AX (BC (α:=Nat×List (AW×Nat)×(Nat->Nat)) (λq=>⟨154,[(7,(.d (.sl none (E.map DL)))),(8,(.ptr 3 0 0)),(10,(.fn 67 [.ptr 3 0 0])),(11,(.map 50 0)),(12,(.map 51 0)),(55,(.d (.sl none (E.map DL)))),(56,(.d (AY n))),(57,(.d (AY q.1)))],[(2,[.rowD 3 1 (rowN n q.2.2)]),(3,[.blk 28 [.own 2 0 n]]),(50,[B5 Bm AY q.2.1]),(51,[B5 AE AY (ON E q.1)]),(40,[.multi M])]⟩) (λq=>q.1<=n/\UF n (Cn (j1 p) E) q.2.2/\Qm (j1 p) E (λi r=>i<q.1/\r∈aA (j1 p) E i) q.2.1 q.2.2) (λq=>n-q.1) ((0,[],λj=>j)) (⟨κ _,UF.id n λi=>Rh.refl i,(Qm.zero _ _ _).mono λi r h=>by have:=h.1;omega⟩) (AR v [2,3,50,51,40] Z Z ⟨Z,Z,Z,Z,Z,Z,Z,Z,trivial⟩) ?_))))))));rintro ⟨k,U,f⟩ ⟨hk,A,y⟩;dsimp only at hk A y⊢;refine AD (AF (J (At Z Z Z) (AC (AD (A5 Z (λh58=>?_) (λh58=>?_))))))
   .refine AU (AD (AX (AD ?_)));have g:k<n:=BF h58;have o:k<E.length:=by omega
    have hek:=ϑ o;refine AF (ch Z Z (J (Al (k) Z Z (Z) (AP o) T1 Z IN Z) (J (CY Z Z NW Z) (V (CP 4 Oa Z Z Z Z) (AB Z Z (V (Bi Z Z Z Z Z Z Z IN) ?_))))));refine AC (AD (AF (ch Z Z (J (AM Z Jm Z Z Z) (J (AM Z QW Z Z Z) (J (AQ Z Z Z Ai Z) (ch Z Z (V (Wf (ON E k) ((E[k]).1.id) (k) Z Z Z ru I6 Z Z) ?_))))))));rw[show B1 (ON E k) (E[k]).1.id k=ON E (k+1) by rw[<-D8 o];exact oU hId o];refine AC (AD ?_)
    obtain ⟨L,hLe⟩:∃L,dR (j1 p) (E[k]).1=L:=⟨_,Z⟩
    have hRk:=hR _ hek;rw[hLe] at hRk;have hus:aA (j1 p) E k=L.map Prod.fst:=by rw[<-hLe,<-D8 o]
    refine SX 40 (E[k]).2 Z hRk (λ_ _=>rfl) λB c hB hBn=>?_
    obtain ⟨M1,hM1⟩:∃M1,Bh M (E[k]).2 (.map (some (B,c)) (Nx L))=M1:=⟨_,Z⟩
    rw[hM1];have h1k:M1 (E[k]).2=some (.map (some (B,c)) (Nx L)):=by rw[<-hM1,H3]
    refine AF (J (AM Z O0 Z Z Z) (J (AQ Z Z Z Yr Z) (V (Qx 5 (f:=40) Z Z h1k Z C4 Z Z Z Z) (AC (AX (BC (α:=List Nat×List (AW×Int)×List (AW×Nat)×(Nat->Nat)) (λq=>⟨154,[(7,(.d (.sl none (E.map DL)))),(8,(.ptr 3 0 0)),(10,(.fn 67 [.ptr 3 0 0])),(11,(.map 50 0)),(12,(.map 51 0)),(13,(.d (AY k))),(55,(.d (.sl none (E.map DL)))),(56,(.d (AY n))),(57,(.d (AY k))),(69,(.ptr 5 0 0))],[(5,[.iter 40 (E[k]).2 c q.1]),(2,[.rowD 3 1 (rowN n q.2.2.2)]),(3,[.blk 28 [.own 2 0 n]]),(50,[B5 Bm AY q.2.2.1]),(51,[B5 AE AY (ON E (k+1))]),(40,[.multi M1])]⟩) (λq=>(q.2.1++CX L B q.1).Perm L/\UF n (Cn (j1 p) E) q.2.2.2/\Qm (j1 p) E (λi r=>(i<k/\r∈aA (j1 p) E i)\/(i=k/\r∈q.2.1.map Prod.fst)) q.2.2.1 q.2.2.2) (λq=>(CX L B q.1).length) (([],[],U,f)) (⟨by show ([]++CX L B []).Perm L;rw[Dl (by simpa [Bg] using hB)];exact List.Perm.refl _,A,y.mono λi r h=>h.elim id λh=>by simp at h⟩) (AR v [5,2,3,50,51,40] Z Z ⟨Z,Z,Z,Z,Z,Z,Z,Z,Z,Z,trivial⟩) ?_))))));rintro ⟨seen,O,U,f⟩ ⟨hP,A,y⟩;dsimp only at hP A y⊢;refine AD (AF (Yt (L) Z Z Z (h1k) Z (λhl70=>?_) (λj70 b70 u v70 hm70 hb70 hB70 H=>⟨_,Z,?_⟩)))
    .rw[hl70] at hP;have hPm:∀r,r∈O.map Prod.fst↔r∈aA (j1 p) E k:=λr=>by rw[hus];exact ((show O.Perm L by simpa using hP).map Prod.fst).mem_iff
     refine OQ 40 (E[k]).2 Z h1k Z ?_;rw[show Bh M1 (E[k]).2 (.map none (Nx L))=M by rw[<-hM1,Hm];exact Rk hRk];refine J (D3 Z Z Z) (AC (AD (Cq Z Z (Aq (AF (J (Ad Z Z (AJ (k+1) (by omega)) Z) (ch Z Z (AC ?_))))))));exact ⟨(k+1,U,f),⟨g,A,y.mono λi r ⟨h1,h2⟩=>(Nat.decEq i k).byCases (λe=>by subst e;exact .inr ⟨Z,(hPm r).2 h2⟩) λe=> .inl ⟨by omega,h2⟩⟩,by show n-(k+1)<n-k;omega,AR v [2,3,50,51,40] Z (Z) ⟨Z,Z,Z,Z,Z,Z,Z,Z,trivial⟩⟩
    .refine J (D3 Z Z Z) (AC (AD (CM Z Z (AU (AX (AD ?_))))));have hku:u∈aA (j1 p) E k:=by rw[hus];exact m9 (f:=Prod.fst) (gF hm70)
     have Q:∀i s,((i<k/\s∈aA (j1 p) E i)\/(i=k/\s∈(O++ [(u,v70)]).map Prod.fst))->((i<k/\s∈aA (j1 p) E i)\/(i=k/\s∈O.map Prod.fst))\/(i=k/\s=u):=λi s h=>h.elim (λh=> .inl (.inl h)) λ⟨e,h⟩=>by rw[jy,υ] at h;exact h.elim (λh=> .inl (.inr ⟨e,h⟩)) λh=> .inr ⟨e,by simpa using h⟩
     refine AF (J (RA (L) j70 b70 Z Z Z (h1k) hm70 hb70 Z) (J (D3 Z Z Z) (V (CP 6 MK Z Z Z Z) ?_)));refine V (Bi Z Z Z Z Z Z Z cz) (AC (AD (AF (ch Z Z (J (Ap Z Z Cw Z Z Z) (J (Qz (U) (u) (0) Z Z Z rv Ck yO Z) (ch Z Z (J (D3 Z Z Z) ?_))))))));refine J (D3 Z Z Z) (AB Z Z (AB Z Z (AC (AD (AF (ch Z Z (AC (KB Z (λh80=>?_) (λh80=>?_)))))))))
     .have hkU:u∈U.map Prod.fst:=GG.1 h80;obtain ⟨I,hu2⟩:=y.ok _ (ol hkU);rw[w] at I;have hCk:=u2 (by omega) o hu2 hku;refine AF (ch Z Z (ch Z Z (ch Z Z (V (cM ((ZO n f (Af U u 0) k I g (by omega)).by [(930,3),(931,2)] Z) Z [3,2] ⟨Z,Z,trivial⟩ Z Z Z Z Z Z Z Z Z) (AC ?_)))));exact ⟨(seen++ [b70],O++ [(u,v70)],U,_),⟨J9 hP H,A.join (λ_ _ _=>Cn.trans) (λ_ _=>Cn.symm) I g hCk,y.join hkU Q⟩,by show (CX L B (seen++ [b70])).length<(CX L B seen).length;rw[H.length_eq];exact mN _,AR v [5,2,3,50,51,40] Z (Z) ⟨Z,Z,Z,Z,Z,Z,Z,Z,Z,Z,trivial⟩⟩
     .refine AF (ch Z Z (J (Ap Z Z Cw Z Z Z) (ch Z Z (V (Wf (U) (u) (k) Z Z Z rv Ck Z Z) (AC ?_)))));exact ⟨(seen++ [b70],O++ [(u,v70)],B1 U u k,f),⟨J9 hP H,A,y.new (λz=>by rw[GG.2 z] at h80;cases h80) o hku Q⟩,by show (CX L B (seen++ [b70])).length<(CX L B seen).length;rw[H.length_eq];exact mN _,AR v [5,2,3,50,51,40] Z (Z) ⟨Z,Z,Z,Z,Z,Z,Z,Z,Z,Z,trivial⟩⟩
   .refine Aq (AD (AD ?_));have W:k=n:=by have:=h58;omega
    rw[W]
    have hS':Qm (j1 p) E (λi r=>i<E.length/\r∈aA (j1 p) E i) U f:=y.mono λi r ⟨h1,h2⟩=>⟨by omega,h2⟩
    refine AF (ch Z Z (J (I2 Z R T1 Z) (ch Z Z (AC (AX (BC (α:=Nat×(Nat->Nat)) (λq=>⟨154,[(7,(.d (.sl none (E.map DL)))),(8,(.ptr 3 0 0)),(10,(.fn 67 [.ptr 3 0 0])),(12,(.map 51 0)),(89,(.d (.sl none (E.map DL)))),(90,(.d (AY n))),(91,(.d (AY q.1)))],[(2,[.rowD 3 1 (rowN n q.2)]),(3,[.blk 28 [.own 2 0 n]]),(51,[B5 AE AY (ON E n)])]⟩) (λq=>q.1<=n/\UF n (Cn (j1 p) E) q.2/\Qm (j1 p) E (λi r=>i<E.length/\r∈aA (j1 p) E i) U q.2/\∀i,i<q.1->∀j,j<n->(EA E j).id∈(EA E i).af->q.2 j=q.2 i) (λq=>n-q.1) ((0,f)) (⟨κ _,A,hS',λi hi=>by omega⟩) (AR v [2,3,51] Z Z ⟨Z,Z,Z,Z,Z,Z,Z,trivial⟩) ?_))))));rintro ⟨k,f⟩ ⟨hk,A,y,hA⟩;dsimp only at hk A y hA⊢;refine AD (AF (J (At Z Z Z) (AC (AD (A5 Z (λh92=>?_) (λh92=>?_))))))
    .refine AU (AD (AX (AD ?_)));have g:k<n:=BF h92;have o:k<E.length:=by omega
     have hek:=ϑ o;have hIk:=hIt k g;rw[D8 o] at hIk;have haf:=(hf.x _ (hxm _ hIk)).2.2;refine AF (ch Z Z (J (Al (k) Z Z (Z) (AP o) T1 Z IN Z) (J (CY Z Z NW Z) (V (CP 4 Oa Z Z Z Z) (AB Z Z (V (Bi Z Z Z Z Z Z Z IN) (AC (AD ?_))))))));refine AF (J (AM Z Jm Z Z Z) (J (AM Z GN Z Z Z) (J (AQ Z Z Z BL Z) (J (BU Z E0 Z) (ch Z Z (AC (AX (BC (α:=Nat×(Nat->Nat)) (λq=>⟨154,[(7,(.d (.sl none (E.map DL)))),(8,(.ptr 3 0 0)),(10,(.fn 67 [.ptr 3 0 0])),(12,(.map 51 0)),(18,(.d (AY k))),(89,(.d (.sl none (E.map DL)))),(90,(.d (AY n))),(91,(.d (AY k))),(98,(.d (Gl (E[k]).1.af))),(99,(.d (AY (E[k]).1.af.length))),(100,(.d (AY q.1)))],[(2,[.rowD 3 1 (rowN n q.2)]),(3,[.blk 28 [.own 2 0 n]]),(51,[B5 AE AY (ON E n)])]⟩) (λq=>q.1<=(E[k]).1.af.length/\UF n (Cn (j1 p) E) q.2/\Qm (j1 p) E (λi r=>i<E.length/\r∈aA (j1 p) E i) U q.2/\(∀i,i<k->∀j,j<n->(EA E j).id∈(EA E i).af->q.2 j=q.2 i)/\∀j,j<n->(EA E j).id∈(E[k]).1.af.take q.1->q.2 j=q.2 k) (λq=>(E[k]).1.af.length-q.1) ((0,f)) (⟨κ _,A,y,hA,λj K z=>by simp at z⟩) (AR v [2,3,51] Z Z ⟨Z,Z,Z,Z,Z,Z,Z,Z,Z,Z,Z,trivial⟩) ?_))))))));rintro ⟨C,f⟩ ⟨hj8,A,y,hA,hD⟩;dsimp only at hj8 A y hA hD⊢;refine AD (AF (J (At Z Z Z) (AC (AD (A5 Z (λh101=>?_) (λh101=>?_))))))
     .refine AU (AD (AX (AD ?_)));have t:C<(E[k]).1.af.length:=BF h101;refine AF (J (Al (C) Z Z (Z) (AP t) E0 Z BK Z) (J (BZ Z Z Ai Z) ?_));refine AB Z Z (AC (AD (AF (ch Z Z (ch Z Z (J (Qz (ON E n) ((E[k]).1.af[C]) (0) Z Z Z ru I6 yO Z) (ch Z Z (J (D3 Z Z Z) ?_))))))));refine J (D3 Z Z Z) (AB Z Z (AB Z Z (AC (AD (AF (ch Z Z (AC (KB Z (λh110=>?_) (λh110=>?_)))))))))
      .have hkP:=GG.1 h110;have hpg:=Yf hId (x:=(E[k]).1.af[C]) (by rw[w];exact hkP);rw[w] at hpg;obtain ⟨I,hu2⟩:=hpg;have hCk:=u3 (rs:=j1 p) (i:=Af (ON E n) (E[k]).1.af[C] 0) (j:=k) (by omega) o (by rw[hu2,D8 o];exact ϑ t);refine AF ?_;refine ch Z Z (ch Z Z (ch Z Z (V (cM ((ZO n f (Af (ON E n) (E[k]).1.af[C] 0) k I g (by omega)).by [(930,3),(931,2)] Z) Z [3,2] ⟨Z,Z,trivial⟩ Z Z Z Z Z Z Z Z Z) (AC (AF (J (Ad Z Z (AJ (C+1) (by omega)) Z) (ch Z Z (AC ?_))))))));exact ⟨(C+1,_),⟨t,A.join (λ_ _ _=>Cn.trans) (λ_ _=>Cn.symm) I g hCk,y.keep λ_ _ h=>Hs h,λi hi j K z=>Hs (hA i hi j K z),λj K z=>by rw[ψ t,υ] at z;exact z.elim (λh=>Hs (hD j K h)) λh=>by have h3:=(ep hId (show j<E.length by omega)).2;rw[ξ.1 h,w] at h3;rw[<-h3];exact Rp⟩,by show (E[k]).1.af.length-(C+1)<(E[k]).1.af.length-C;omega,AR v [2,3,51] Z (Z) ⟨Z,Z,Z,Z,Z,Z,Z,Z,Z,Z,Z,trivial⟩⟩
      .refine AU (AF (J (Ad Z Z (AJ (C+1) (by omega)) Z) (ch Z Z (AC ?_))));exact ⟨(C+1,f),⟨t,A,y,hA,λj K z=>by rw[ψ t,υ] at z;exact z.elim (hD j K) λh=>absurd (GG.2 (by have h3:=(ep hId (show j<E.length by omega)).1;rw[ξ.1 h,w] at h3;exact h3)) (by rw[h110];decide)⟩,by show (E[k]).1.af.length-(C+1)<(E[k]).1.af.length-C;omega,AR v [2,3,51] Z (Z) ⟨Z,Z,Z,Z,Z,Z,Z,Z,Z,Z,Z,trivial⟩⟩
     .refine Aq (AF (J (Ad Z Z (AJ (k+1) (by omega)) Z) (ch Z Z (AC ?_))));exact ⟨(k+1,f),⟨g,A,y,λi hi j K z=>(Nat.decEq i k).byCases (λe=>by subst e;exact hD j K (by rw[D8 o] at z;have hje:C=(E[i]).1.af.length:=(by have:=h101;omega);rw[hje,kV];exact z)) λe=>hA i (by omega) j K z⟩,by show n-(k+1)<n-k;omega,AR v [2,3,51] Z (Z) ⟨Z,Z,Z,Z,Z,Z,Z,trivial⟩⟩
    .refine Aq (AD ?_);have W:k=n:=by have:=h92;omega
     have hall:uw (j1 p) E f:=⟨by rw[w];exact A,⟨U,y⟩,λi hi j K z=>hA i (by omega) j (by omega) z⟩
     have hcls:(LT n n f).map (BQ E)=kW (j1 p) E:=by unfold kW;rw[<-ov hall.uf hall.full,w]
     refine AF (AB Z Z (AC (AD ?_)));refine AD (AF (ch Z Z (J (I2 Z R T1 Z) (ch Z Z (AC (AX (IU 24 10 Ih Z Z Z Z (BC (α:=Nat×List (List Int)) (λq=>⟨154,[(7,(.d (.sl none (E.map DL)))),(8,(.ptr 3 0 0)),(24,(.own 10 0 q.2.length)),(117,(.d (.sl none (E.map DL)))),(118,(.d (AY n))),(119,(.d (AY q.1)))],[(10,[.rowD 28 1 (q.2.map Gl)]),(2,[.rowD 3 1 (rowN n f)]),(3,[.blk 28 [.own 2 0 n]])]⟩) (λq=>q.1<=n/\q.2=(LT n q.1 f).map (BQ E)) (λq=>n-q.1) ((0,[])) (⟨κ _,Z⟩) (AR v [10,2,3] Z Z ⟨Z,Z,Z,Z,Z,Z,trivial⟩) ?_))))))));rintro ⟨k,T⟩ ⟨hk,hT⟩;dsimp only at hk hT⊢;refine AD (AF (J (At Z Z Z) (AC (AD (A5 Z (λh120=>?_) (λh120=>?_))))))
     .refine AU (AD (AX (AD ?_)));have g:k<n:=BF h120;have hTl:T.length<=30:=by have:=gH n k f;rw[hT,χ];omega
      refine AF (ch Z Z (AB Z Z (AC (AD (AD ?_)))));refine AF (J (AQ Z Z Z BL Z) (ch Z Z (J (D1 (k) Z Z (Z) (g) Z E0 BK Z) (J (E1 Z Z (O9 g) Z Ai Z) (ch Z Z (J (DJ Z Z Z) (AC (A5 Z (λh127=>?_) (λh127=>?_)))))))))
      .refine Aq (AF (J (Ad Z Z (AJ (k+1) (by omega)) Z) (ch Z Z (AC ?_))));exact ⟨(k+1,T),⟨g,by show _=(LT n (k+1) f).map _;rw[bO (by omega),hT]⟩,by show n-(k+1)<n-k;omega,AR v [10,2,3] Z (Z) ⟨Z,Z,Z,Z,Z,Z,trivial⟩⟩
      .refine AU (AD (AF (AB Z Z (AC (AD ?_)))));refine AD (AF (ch Z Z (J (I2 Z R T1 Z) (ch Z Z (AC (AX (IU 26 11 Ao Z Z Z Z (BC (α:=Nat×List Int) (λq=>⟨154,[(7,(.d (.sl none (E.map DL)))),(8,(.ptr 3 0 0)),(24,(.own 10 0 T.length)),(25,(.d (AY k))),(26,(.own 11 0 q.2.length)),(117,(.d (.sl none (E.map DL)))),(118,(.d (AY n))),(119,(.d (AY k))),(128,(.d (.sl none (E.map DL)))),(129,(.d (AY n))),(130,(.d (AY q.1)))],[(11,[.rowD 3 1 (q.2.map AE)]),(10,[.rowD 28 1 (T.map Gl)]),(2,[.rowD 3 1 (rowN n f)]),(3,[.blk 28 [.own 2 0 n]])]⟩) (λq=>q.1<=n/\q.2=BQ E (Qa f k q.1)) (λq=>n-q.1) ((0,[])) (⟨κ _,Z⟩) (AR v [11,10,2,3] Z Z ⟨Z,Z,Z,Z,Z,Z,Z,Z,Z,Z,Z,trivial⟩) ?_))))))));rintro ⟨j,S⟩ ⟨K,X⟩;dsimp only at K X⊢;refine AD (AF (J (At Z Z Z) (AC (AD (A5 Z (λY=>?_) (λY=>?_))))))
       .refine AU (AD (AX (AD ?_)));have t:j<n:=BF Y;have hjE:j<E.length:=by omega
        have hSl:S.length<=30:=by have:=gJ f k j;rw[X];unfold BQ;rw[χ];omega
        refine AF (ch Z Z (J (Al (j) Z Z (Z) (AP hjE) T1 Z IN Z) (J (CY Z Z NW Z) (V (CP 4 Oa Z Z Z Z) (AB Z Z (V (Bi Z Z Z Z Z Z Z IN) (AC (AD ?_))))))));refine AF (J (AQ Z Z Z BL Z) (ch Z Z (J (D1 (j) Z Z (Z) (t) Z E0 BK Z) (J (E1 Z Z (O9 t) Z Ai Z) (ch Z Z (J (Fa Z Z Z) (AC (A5 Z (λh140=>?_) (λh140=>?_)))))))))
        .refine AF (ch Z Z (J (AM Z Jm Z Z Z) (J (AM Z QW Z Z Z) ?_)));refine J (AQ Z Z Z Ai Z) (V (CF 30 Ao Z Z Z Z Z Z Z Z) (V (DN (S) ([(E[j]).1.id]) Z Z Z Z Z Z Z Z Ao (by simp only[ζ];omega) Z Z Z Z) (AB Z Z (AC (AF (J (Ad Z Z (AJ (j+1) (by omega)) Z) (ch Z Z (AC ?_))))))));exact ⟨(j+1,S++ [(E[j]).1.id]),⟨t,by show _=BQ E (Qa f k (j+1));rw[gK (by omega),X];unfold BQ;rw[jy,nU,D8 hjE]⟩,by show n-(j+1)<n-j;omega,AR v [11,10,2,3] Z (Z) ⟨Z,Z,Z,Z,Z,Z,Z,Z,Z,Z,Z,trivial⟩⟩
        .refine AU (AF (J (Ad Z Z (AJ (j+1) (by omega)) Z) (ch Z Z (AC ?_))));exact ⟨(j+1,S),⟨t,by show _=BQ E (Qa f k (j+1));rw[bQ (by omega),X]⟩,by show n-(j+1)<n-j;omega,AR v [11,10,2,3] Z (Z) ⟨Z,Z,Z,Z,Z,Z,Z,Z,Z,Z,Z,trivial⟩⟩
       .refine Aq ?_;have hje:j=n:=by have:=Y;omega
        refine Fb (emb:=AE) 26 11 S Z Z Z Z Z Z Z ?_;rw[show S=BQ E (bP n f k) by rw[X,hje];rfl];refine AF (ch Z Z ?_);refine ch Z Z (V (CF 31 Ih Z Z Z Z Z Z Z Z) (V (DN (T) ([BQ E (bP n f k)]) Z Z Z Z Z Z Z Z Ih (by simp only[ζ];omega) Z Z Z Z) (AB Z Z (AC (AF (J (Ad Z Z (AJ (k+1) (by omega)) Z) (ch Z Z (AC ?_))))))));exact ⟨(k+1,T++ [BQ E (bP n f k)]),⟨g,by show _=(LT n (k+1) f).map _;rw[gI (by omega),jy,hT];rfl⟩,by show n-(k+1)<n-k;omega,AR v [10,2,3] Z (Z) ⟨Z,Z,Z,Z,Z,Z,trivial⟩⟩
     .refine Aq (AD ?_);have W:k=n:=by have:=h120;omega
      refine Fb (emb:=Gl) 24 10 T Z Z Z Z Z Z Z ?_;rw[show T=kW (j1 p) E by rw[hT,W,hcls]];refine AF (ch Z Z (AB Z Z (AB Z Z (AC (A4 ?_)))));exact ⟨_,[],[],A2 Z,Z,Z,E,hEq,Z,Z⟩
theorem T6(f:Aw s=0)(c:j∈a)(b:CD j=0)(v:Int):(j,v)∈dR a s↔v=BO s j/\v≠0:=by grind[dd,iZ,BO,dR,HX,ED,JN]
theorem uV(f:Aw s=0)(c:j∈a)(b:CD j=0):j∈(dR a s).map Prod.fst↔BO s j≠0:=by simp[*,T6]
theorem i6(f:Aw s=0)(c:j∈a)(b:CD j=0):Af (dR a s) j 0=BO s j:=by grind[Jd,uV,cR,Vv,T6]
theorem wq(h:j∈(dR a s).map Prod.fst):j∈a:=by
 obtain ⟨d,b,e⟩:=Γ.1 h;rw[<-e];exact lK (Φ.1 b).2
theorem c9(b:∀r∈a,CD r=0){x y:cl}(g:Aw x=0)(f:Aw y=0):Ql a x y↔y.id∈x.af\/∃r∈a,BO x r<0/\0<BO y r:=by
 constructor
 .grind[wq,T6,i6,Ql]
 .rintro (h | ⟨r,c,j,i⟩)
  .exact .inr h
  .exact .inl ⟨(r,BO x r),(T6 g c (b r c) _).2 ⟨Z,by omega⟩,j,by rw[i6 f c (b r c)];exact i⟩
theorem dw(f:Ac c=0):∀r∈j1 c,CD r=0:=λr b=>by
 obtain ⟨x,a,rfl⟩:=Γ.1 b;exact KG (IL f).1 x a
theorem G6(l:List Int)(x:Int)(i:l.length<=140737488355328):AI prog 57 [.d (Gl l),.d (AE x)] (Am (decide (x∈l))):=by
 refine As func57 Z Z ntmps57 Z Z Z λF j=>(AD (AF ?_));refine AB Z Z (AC (AD (AD (AF (AB Z Z (AC (AX (FQ (α:=Nat) (λk=>⟨18,[(0,.d (Gl l)),(1,.d (AE x)),(5,(.d (AE (k:Int))))],[]⟩) (λk=>k<=l.length/\x∉l.take k) (λk=>l.length-k) (0) (⟨κ _,by simp⟩) (Zn ⟨Z,Z,Z,trivial⟩) ?_))))))));rintro k ⟨g,f⟩;refine AD (AD (AF (ch Z Z (ch Z Z (J (BU Z E0 Z) (J (At Z Z Z) (AC (A5 Z (λc=>?_) (λc=>?_)))))))))
 .have a:k<l.length:=BF c;refine AU (AD (AX (AD ?_)));refine AF (ch Z Z (ch Z Z (J (Al (k) Z Z (Z) (AP a) E0 Z BK Z) (J (BZ Z Z Ai Z) (ch Z Z (J (Fa Z Z Z) (AC (A5 Z (λb=>?_) (λb=>?_)))))))))
  .refine AD (AF (AB Z Z (AC (A4 ?_))));exact ⟨_,[],[],A2 Z,Z,Z,by rw[Υ (by rw[<-b];exact ϑ a)],Z⟩
  .refine AU (AF (ch Z Z (J (Ad Z Z (AJ (k+1) (by omega)) Z) (AB Z Z (AC ?_)))));exact ⟨k+1,⟨by show k+1<=_;omega,xB a f (λe=>b e.symm)⟩,by show l.length-(k+1)<l.length-k;omega,⟨Z,Z,λ_ _=>S3.get (l:=[(0,_),(1,_),(5,_)]) ⟨Z,Z,Z,trivial⟩⟩⟩
 .refine Aq (AD (AF (AB Z Z (AC (A4 ?_)))));exact ⟨_,[],[],A2 Z,Z,Z,by rw[kC (FC (by have h:=c;omega) f)],Z⟩
def fG(p:hU)(l:List Int):List Int:=((ea p.it).filter λi=>decide (i.id∈l)).map cl.id
theorem R7(p:hU)(l:List Int)(g:p.it.length<=1000)(w:l.length<=1000000):AI prog 53 [.d (BG p),.d (Gl l)] (Gl (fG p l)):=by
 have j:=Dg p.it g;have s:=Nr p.it;unfold fG
 obtain ⟨S,v⟩:∃S,ea p.it=S:=⟨_,Z⟩
 rw[v] at j s⊢;refine As func53 Z Z ntmps53 Z Z Z λF t=>(AD (AF (V (B7 1 Z Z Z Z Z Z Z) (AB Z Z (AC (AD ?_))))));refine AF (AB Z Z (AC (AD (AF (J (AM Z I7 Z Z Z) (J (AQ Z Z Z Cz Z) (J (Aj (j) Z Z) (AB Z Z ?_))))))));refine AC (AD (AD (AF (AB Z Z (AC (AX (IU 5 900 Ao Z Z Z Z (BC (α:=Nat×List Int) (λq=>⟨33,[(1,.d (Gl l)),(5,(.own 900 0 q.2.length)),(6,(.d (.sl none (S.map Ah)))),(7,(.d (AE (q.1:Int))))],[(900,[.rowD 3 1 (q.2.map AE)])]⟩) (λq=>q.1<=S.length/\q.2=((S.take q.1).filter λi=>decide (i.id∈l)).map cl.id) (λq=>S.length-q.1) ((0,[])) (⟨κ _,Z⟩) (AR t [900] Z Z ⟨Z,Z,Z,Z,trivial⟩) ?_))))))));rintro ⟨k,a⟩ ⟨r,h⟩;dsimp only at r h⊢;refine AD (AD (AF (ch Z Z (ch Z Z (J (BU Z F0 Z) (J (At Z Z Z) (AC (A5 Z (λf=>?_) (λf=>?_)))))))))
 .have b:k<S.length:=BF f;refine AU (AD (AX (AD ?_)));have u:a.length<=1000:=by rw[h,χ];exact jp (lE _ _) (by rw[η];omega)
  refine AF ?_;refine ch Z Z (ch Z Z (ch Z Z (J (Al (k) Z Z (Z) (AP b) F0 Z CL Z) (J (Gw Z QP Z Z Z) (J (BZ Z Z Ai Z) (J (Aj (G6 l S[k].id (by omega)) Z Z) (AC (A5 Z (λc=>?_) (λc=>?_)))))))))
  .refine AF (ch Z Z (ch Z Z (ch Z Z (J (Al (k) Z Z (Z) (AP b) F0 Z CL Z) (J (Gw Z QP Z Z Z) (J (BZ Z Z Ai Z) ?_))))));refine V (CF 30 Ao Z Z Z Z Z Z Z Z) (V (DN (a) ([S[k].id]) Z Z Z Z Z Z Z Z Ao (by simp only[ζ];omega) Z Z Z Z) (AB Z Z (AC (AF (ch Z Z (J (Ad Z Z (AJ (k+1) (by omega)) Z) (AB Z Z (AC ?_))))))));exact ⟨(k+1,a++ [S[k].id]),⟨by show k+1<=_;omega,by show _=((S.take (k+1)).filter _).map cl.id;rw[ψ b,lv,jy,h];simp[c]⟩,by show S.length-(k+1)<S.length-k;omega,AR t [900] Z (Z) ⟨Z,Z,Z,Z,trivial⟩⟩
  .refine AU (AF (ch Z Z (J (Ad Z Z (AJ (k+1) (by omega)) Z) (AB Z Z (AC ?_)))));exact ⟨(k+1,a),⟨by show k+1<=_;omega,by show _=((S.take (k+1)).filter _).map cl.id;rw[ψ b,lv,jy,h];simp[c]⟩,by show S.length-(k+1)<S.length-k;omega,AR t [900] Z (Z) ⟨Z,Z,Z,Z,trivial⟩⟩
 .refine Aq (AD ?_);have o:k=S.length:=by have:=f;omega
  rw[o,kV] at h;refine Fb (emb:=AE) 5 900 a Z Z Z Z Z Z Z ?_;rw[h];refine AF (ch Z Z (AB Z Z (AC (A4 ?_))));exact ⟨_,[],[],A2 Z,Z,Z,Z,Z⟩
theorem VW(p:hU)(id:Int)(f:p.it.length<=1000)(c:id∈p.it.map cl.id):AI prog 108 [.d (BG p),.d (AE id)] (Ah (hG p id)):=by
 obtain ⟨g,i,h,_⟩:=Zj c;rw[h];have a:=Pk p id (by omega);rw[i] at a
 obtain ⟨k,b⟩:∃k,(p.it.map cl.id).idxOf id=k:=⟨_,Z⟩
 simp only[b] at g a⊢;refine As func108 Z Z ntmps108 Z Z Z λF j=>(AD (AF (V (B7 1 Z Z Z Z Z Z Z) (V (CP 2 Zv Z Z Z Z) (AC (AD (Bq [[],[0],[],[],[2,3],rg 5,rg 6,rg 7] mixed Z (B2 ?_))))))));refine AK [2] Z (AM Z I7 Z Z Z) (Ay [5] Z Z (λ_=>Aa (AQ Z Z Z Cz Z)) (Ay [2] Z Z (λ_=>Aa (Ap Z Z By Z Z Z)) (A7 1 Z Z (AK [7,8] Z (Aj (a) Z Z) (BV 5 Z Z Z (A0 6 Z Z (J (Al (k) Z Z (Z) (AP g) F0 Z CL Z) (AC ⟨Z,?_⟩))))))));refine A0 7 Z Z (J (CY Z Z F1 Z) (AC ⟨Z,?_⟩));refine A0 8 Z Z (V (Bi Z Z Z Z Z Z Z CL) (AC ⟨Z,?_⟩));refine Bb (A4 ?_);exact ⟨_,[],[],A2 Z,Z,Z,Z,Z⟩
theorem Rq{id:Int}(h:id∈c.it.map cl.id):hG c id∈c.it/\(hG c id).id=id:=by
 obtain ⟨b,_,a,f⟩:=Zj h
 grind
theorem Qq(p:hU)(O:Ac p=0)(C:CT p)(a b:Int)(S:a∈p.it.map cl.id)(R:b∈p.it.map cl.id):AI prog 85 [.d (BG p),.d (AE a),.d (AE b)] (Am (decide (Ql (j1 p) (hG p a) (hG p b)))):=by
 obtain ⟨z,Y⟩:=Rq S;obtain ⟨w,H⟩:=Rq R;have Q:=C.i;have E:=C.r;have M:=Et (IL O).2.1 _ z;have L:=Et (IL O).2.1 _ w;have g:=c9 (dw O) M L;rw[H] at g;have K:=C.x _ z;have I:=C.x _ w;have s:=VW p a (by omega) S;have l:=VW p b (by omega) R;have B:=λr=>E9 (hG p a) r (by omega) (by omega) (by omega);have A:=λr=>E9 (hG p b) r (by omega) (by omega) (by omega)
 obtain ⟨x,U⟩:∃x,hG p a=x:=⟨_,Z⟩
 obtain ⟨y,T⟩:∃y,hG p b=y:=⟨_,Z⟩
 simp only[U,T] at g K I s l B A⊢;refine As func85 Z Z ntmps85 Z Z Z λF N=>(AD (AF ?_));refine V (B7 1 Z Z Z Z Z Z Z) (AB Z Z (AC (AD (Bq [[],[],[0,1],[],[],rg 5,[],[],rg 8,rg 9] mixed Z (B2 (A1 [3] [1] Z Z (λ_=>Aa (Ap Z Z By Z Z Z)) (A7 1 Z Z (AK [11,12] Z (Aj (s) Z Z) ?_))))))));refine A1 [3] [1] Z Z (λ_=>Aa (Ap Z Z By Z Z Z)) (A7 2 Z Z (AK [14,15] Z (Aj (l) Z Z) (Cv [] [7] [(7,_)] Z Z (λ_=>Cg (CP 7 Zv Z Z Z Z)) (.inr ⟨7,_,Z,Z,Z,Z,Z⟩) Z Z Z Z Z (Cv [] [8] [(8,_)] Z Z (λ_=>Cg (CP 8 Zv Z Z Z Z)) (.inr ⟨8,_,Z,Z,Z,Z,Z⟩) Z Z Z Z Z (BV 8 Z Z Z (A0 9 Z Z (V (Bi Z Z Z Z Z Z Z CL) (AC ⟨Z,?_⟩))))))));refine A0 10 Z Z (V (Bi Z Z Z Z Z Z Z CL) (AC ⟨Z,?_⟩));refine Bb ?_;refine AD (AD (AF (J (AM Z DD Z Z Z) (J (AQ Z Z Z BL Z) (ch Z Z (J (Aj (G6 x.af b (by omega)) Z Z) (AC (A5 Z (λv=>?_) (λv=>?_)))))))))
 .refine AD (AF (AB Z Z (AC (A4 ?_))));exact ⟨_,[],[],A2 Z,Z,Z,by rw[Υ (g.2 (.inl v))],Z⟩
 .refine AU (AD (AD (AF (AB Z Z (AC (AX (BC (α:=Nat) (λk=>⟨44,[(3,(.ptr 1 0 0)),(7,(.ptr 7 0 0)),(8,(.ptr 8 0 0)),(9,(.d (AE (k:Int))))],[(1,[.blk 25 [.d (.sl none (p.ro.map BY)),.d (.sl none (p.it.map Ah))]]),(7,[.blk 93 [.d (AE x.id),.d (AE x.pr),.d (AE x.sq),.d (.sl none (x.po.map Bd)),.d (.sl none (x.pa.map Cy)),.d (.sl none (x.af.map AE))]]),(8,[.blk 93 [.d (AE y.id),.d (AE y.pr),.d (AE y.sq),.d (.sl none (y.po.map Bd)),.d (.sl none (y.pa.map Cy)),.d (.sl none (y.af.map AE))]])]⟩) (λk=>k<=p.ro.length/\∀o∈p.ro.take k,¬(BO x o.r<0/\0<BO y o.r)) (λk=>p.ro.length-k) (0) (⟨κ _,by simp⟩) (AR N [1,7,8] Z Z ⟨Z,Z,Z,Z,trivial⟩) ?_)))))));rintro k ⟨hk,D⟩;refine AD ?_;refine AD (AF (ch Z Z (J (AM Z MD Z Z Z) (J (AQ Z Z Z E3 Z) (J (BU Z No Z) (J (At Z Z Z) (AC (A5 Z (λu=>?_) (λu=>?_)))))))))
  .refine AU (AD (AX (AD ?_)));have c:k<p.ro.length:=BF u;refine AF (J (AM Z MD Z Z Z) (J (AQ Z Z Z E3 Z) (ch Z Z (J (Al (k) Z Z (Z) (AP c) No Z Bc Z) (J (KL Z Qh Z Z Z) (J (CY Z Z Cf Z) (V (CP 10 Tw Z Z Z Z) (V (Bi Z Z Z Z Z Z Z Kq) ?_))))))));refine AC (AD (AF (J (Ap Z Z F1 Z Z Z) (J (Ap Z Z Cf Z Z Z) (J (Aj (B p.ro[k].r) Z Z) (J (At Z Z Z) (ch Z Z (C7 38 Z (λj=>?_) (λj=>?_)))))))))
   .refine AT Z Z Z (J (Ap Z Z F1 Z Z Z) ?_);refine AT Z Z Z (J (Ap Z Z Cf Z Z Z) (AT Z Z Z (J (Aj (A p.ro[k].r) Z Z) (AT Z Z Z (J (H4 Z Z Z) (J (B8 Z Z Z Z) (AC (A5 Z (λi=>?_) (λi=>?_)))))))))
    .refine AD (AF (AB Z Z (AC (A4 ?_))));exact ⟨_,[],[],A2 Z,Z,Z,by rw[Υ (g.2 (.inr ⟨_,m9 (f:=ey.r) (ϑ c),j,i⟩))],Z⟩
    .refine AU (AF (ch Z Z (J (Ad Z Z (AJ (k+1) (by omega)) Z) (AB Z Z (AC ?_)))));exact ⟨k+1,⟨c,λo t=>by rw[ψ c] at t;exact (υ.1 t).elim (D o) λe=>by rw[ξ.1 e];first | exact λh=>j h.1 | exact λh=>i h.2⟩,by omega,AR N [1,7,8] Z (Z) ⟨Z,Z,Z,Z,trivial⟩⟩
   .refine AN Z Z Z Z (AN Z Z Z Z (AN Z Z Z Z (AN Z Z Z Z ?_)));refine J (Bx Z Z Z Z) (AC (Cq Z Z (AU (AF (ch Z Z (J (Ad Z Z (AJ (k+1) (by omega)) Z) (AB Z Z (AC ?_))))))));exact ⟨k+1,⟨c,λo t=>by rw[ψ c] at t;exact (υ.1 t).elim (D o) λe=>by rw[ξ.1 e];first | exact λh=>j h.1 | exact λh=>i h.2⟩,by omega,AR N [1,7,8] Z (Z) ⟨Z,Z,Z,Z,trivial⟩⟩
  .refine Aq (AD ?_);have G:k=p.ro.length:=by have:=u;omega
   rw[G,kV] at D;refine AF (AB Z Z (AC (A4 ?_)));exact ⟨_,[],[],A2 Z,Z,Z,by rw[kC λW=>(g.1 W).elim v λ⟨r,X,h⟩=>by obtain ⟨o,t,e⟩:=Γ.1 X;rw[<-e] at h;exact D o t h],Z⟩
def JL(p:hU)(l:List Int):List (cl×Nat):=((ea p.it).filter λi=>decide (i.id∈l)).map λi=>(i,0)
theorem Ll(p:hU)(l:List Int):(JL p l).map Prod.fst=(ea p.it).filter λi=>decide (i.id∈l):=by unfold JL;rw[jw];exact List.map_id _
theorem LW(k:Nat):EA E k=(E.map Prod.fst).getD k ek:=by grind[EA]
theorem Xo{E':List (cl×Nat)}(h:E.map Prod.fst=E'.map Prod.fst):kW a E=kW a E':=by
 have c:EA E=EA E':=funext λk=>by rw[LW,LW,h]
 have b:E.length=E'.length:=by rw[<-χ (f:=Prod.fst),h,χ]
 have g:tT a E=tT a E':=by unfold tT;rw[c,b]
 simp[*,kW,Cn,BQ]
def Rt(E:List (cl×Nat))(k:Nat):Int:=(EA E k).id
theorem gh(c:jX E)(b:∀j∈S,j<E.length)(a:k<E.length):Rt E k∈BQ E S↔k∈S:=by grind[BQ,jX,Rt]
theorem ET(E:List (cl×Nat))(S:List Nat):(BQ E S).length=S.length:=χ _
structure PG (rs:List AW) (E:List (cl×Nat)) (i:Nat) (S:List Nat):Prop where
 nd:S.Nodup
 ini:i∈S
 con:∀j∈S,j<E.length/\Cn rs E i j
theorem PG.zero(c:i<E.length):PG a E i [i]:=⟨by simp,by simp,λj b=>by rw[ξ.1 b];exact ⟨c,.refl i⟩⟩
theorem PG.add(h:PG a E i S)(l:F∈S)(g:k<E.length)(o:k∉S)(r:QS a (EA E F) (EA E k)):PG a E i (S++ [k]):=by
 refine ⟨m5.2 ⟨h.nd,by simp,λc t b s e=>o (by rw[ξ.1 s] at e;rw[<-e];exact t)⟩,mJ _ h.ini,λx f=>?_⟩;rcases υ.1 f with f | f
 .exact h.con x f
 .rw[ξ.1 f];exact ⟨g,(h.con F l).2.trans (Rh.one (Er.2 ⟨(h.con F l).1,g,r⟩))⟩
theorem PG.len{i:Nat}(h:PG a E i S):S.length<=E.length:=by
 have:=h.nd.length_le_of_subset (l₂:=List.range E.length) λy b=>Ω.2 (h.con y b).1
 grind
def xN(rs:List AW)(E:List (cl×Nat))(S:List Nat)(k:Nat):Prop:=k∈S\/∀m∈S,¬QS rs (EA E m) (EA E k)
structure PK (rs:List AW) (E:List (cl×Nat)) (i:Nat) (S0:List Nat) (k:Nat) (S:List Nat) (g:Bool):Prop where
 pg:PG rs E i S
 no:g=false->S=S0/\∀k',k'<k->xN rs E S k'
 yes:g=true->S0.length<S.length
theorem PK.zero(h:PG a E i S):PK a E i S 0 S false:=⟨h,λ_=>⟨Z,λb c=>by omega⟩,λe=>by cases e⟩
theorem PK.le(h:PK a E i o k S t):o.length<=S.length:=by
 cases hg:t with
 | false=>rw[(h.no hg).1];exact Θ _
 | true=>exact Nat.le_of_lt (h.yes hg)
theorem PK.pass(h:PK a E i o k S t)(f:xN a E S k):PK a E i o (k+1) S t:=
 ⟨h.pg,λe=>⟨(h.no e).1,λb j=>(Nat.decEq b k).byCases (λc=>by rw[c];exact f) λc=>(h.no e).2 b (by omega)⟩,h.yes⟩
theorem PK.hit{b:Nat}(h:PK a E i o k S t)(c:PG a E i (S++ [k])):PK a E i o b (S++ [k]) true:=
 ⟨c,λe=>(by cases e),λ_=>by rw[Δ,ζ];exact Nat.lt_succ_of_le h.le⟩
theorem PG.fin(h:PG a E i S)(j:∀k,k<E.length->xN a E S k)(s:k<E.length):k∈S↔Cn a E i k:=by
 refine ⟨λg=>(h.con k g).2,λl=>?_⟩;refine Rh.clos (p:=λx=>x∈S) (λv c y b=>?_) l h.ini;obtain ⟨_,r,o⟩:=Er.1 b;exact (j y r).resolve_right λf=>f v c o
theorem bT(b:Ac c=0)(a:k<(JL c u).length):Rt (JL c u) k∈c.it.map cl.id/\hG c (Rt (JL c u) k)=EA (JL c u) k:=by grind[D8,m9,ϑ,Ll,Js,GH,Rt]
theorem fF:fG c u=BQ (JL c u) (List.range (JL c u).length):=by
 unfold fG BQ;rw[<-Ll];refine lg (by simp) λk b a=>?_
 grind[D8]
def xy(S:List Nat)(k:Nat)(h:Bool):List Nat:=if h=true then S++ [k] else S
theorem PK.next{c:Bool}(h:PK a E i o k S t)(b:c=true->PG a E i (S++ [k]))(f:c=false->xN a E S k):PK a E i o (k+1) (xy S k c) (if c=true then true else t):=by
 cases c with
 | false=>exact h.pass (f Z)
 | true=>exact h.hit (b Z)
theorem u0(p:hU)(l:List Int)(g:CT p)(f:l.length<=100000)(h:EX p l=0)(b:Ac p=0)(c:l.Nodup):AI prog 23 [.d (BG p),.d (Gl l)] (.tup [Wd (kW (j1 p) (JL p l)),AE 0]):=
 (u1 p l g f h b c).mono λr k ⟨E,a,j,i⟩=>⟨by rw[j,Xo (E':=JL p l) (by rw[a,Ll,show hJ p=ea p.it from ϱ b])],i⟩
theorem AO.fnArg{P:Program}{f g:FuncId}{x:D}{H:Hp}{R:AV->Hp->Prop}(h:AO P f [.d x,.d (.fn g [] [])] H R):AO P f [.d x,.d (.raw (.func (.func g) #[] #[]))] H R:=
 ⟨h.1,λF r vs y w k u t o=>h.2 F r vs y w k u t λi a v j l=>by
  rcases i with _ | _ | i
  .exact o 0 _ v j l
  .have e:a= .d (.fn g [] []):=by simpa using j.symm
   subst e;have:=o 1 _ v Z l
   cases this with
   | d s=>
    cases s with
    | raw _=>exact .d (.fn (us:=[]) (vs:=[]) Z Z (λi c v b=>by simp at b) λi c v b=>by simp at b)
  .simp at j⟩
theorem s7(N:MF)(id:Int):AO prog 76 [.d (AE id)] [(41,[.multi N])] λr a=>r= .d (Am true)/\a=[(41,[.multi N])]:=by
 refine As func76 Z Z ntmps76 Z Z Z λF b=>?_;refine AD (AF (AB Z Z (AC (AD (AF (AB Z Z (AC (A4 ?_))))))));exact ⟨_,[41],_,A2 Z,Z,Z,Z,Z⟩
def Lm(p:hU):List (cl×Nat):=(ea p.it).map λi=>(i,0)
theorem Vl(p:hU):(Lm p).map Prod.fst=ea p.it:=by unfold Lm;rw[jw];exact List.map_id _
theorem Ry{rs:List AW}{E E':List (cl×Nat)}(h:E.map Prod.fst=E'.map Prod.fst):kL rs E=kL rs E'/\BQ E=BQ E'/\E.length=E'.length:=by
 have c:EA E=EA E':=funext λk=>by rw[LW,LW,h]
 have b:E.length=E'.length:=by rw[<-χ (f:=Prod.fst),h,χ]
 refine ⟨?_,by funext S;unfold BQ;rw[c],b⟩;have g:∀E:List (cl×Nat),kL rs E=(E.map Prod.fst).map λa=>kq rs E a E.length:=λE=>by unfold kL;rw[jw];rfl
 simp[*,kq]
noncomputable def ll(rs:List AW)(E:List (cl×Nat)):List (List Int):=(kL rs E).map (BQ E)
theorem cr{b:cl}{n:Nat}:∀k∈kq a E b n,k<n:=λk c=>Ω.1 (Φ.1 c).1
theorem gq(b:k<(kL a E).length):(∀j∈(kL a E)[k],j<E.length)/\(kL a E)[k].length<=E.length:=by grind[kL,cr,OG]
theorem Wk(p:hU)(b:Ek p)(c:Ac p≠0):AI prog 29 [.d (BG p)] (.tup [.sl (some true) [],AE (Ac p)]):=by
 have a:=EL p b;refine As func29 Z Z ntmps29 Z Z Z λF f=>(AD (AF (V (B7 1 Z Z Z Z Z Z Z) (AB Z Z (AB Z Z (AC (AD (AD ?_))))))));refine AF (J (Ap Z Z Bp Z Z Z) (J (Aj (a) Z Z) (AB Z Z (AC (AD (AF (ch Z Z (J (DJ Z Z Z) ?_))))))));refine AC (CM Z (Υ c) (AD (AF (ch Z Z (AB Z Z (AB Z Z (AC (A4 ?_))))))));exact ⟨_,[],[],A2 Z,Z,Z,Z,Z⟩
theorem ca(p:hU)(j:CT p)(w:Ac p=0):AI prog 29 [.d (BG p)] (.tup [Wd (ll (j1 p) (Lm p)),AE 0]):=by
 have h:=EL p j.b;rw[w] at h;have K:hJ p=ea p.it:=ϱ w;have A:=j.i;have g:=λN:MF=>(ND p w j 76 [] N (λ_=>true) (s7 N)).fnArg;refine As func29 Z Z ntmps29 Z Z Z λF B=>(AD (AF (V (B7 1 Z Z Z Z Z Z Z) (AB Z Z (AB Z Z (AC ?_))))));refine AD (AD (AF (J (Ap Z Z Bp Z Z Z) (J (Aj (h) Z Z) (AB Z Z (AC (AD (AF ?_))))))));refine ch Z Z (J (DJ Z Z Z) (AC (Cq Z (kC (by decide)) (AU (AD (IK 41 Z Z Z (AF (J (Ap Z Z Bp Z Z Z) ?_))))))));refine DA (YB (g _) Z [41,40] ⟨Z,Z,trivial⟩ Z Z Z Z (λr L ⟨E,M,y,x,_⟩=>by subst y x;exact ⟨Z,Z,Z⟩) Z) Z ?_;rintro _ ⟨r,L,⟨E,M,y,x,I,v⟩,rfl⟩;subst y x;refine AB Z Z (AC (AD ?_));have a:E.map Prod.fst=ea p.it:=by rw[v,K];simp
 have i:=Ry (rs:=j1 p) (E:=E) (E':=Lm p) (by rw[a,Vl]);have z:E.length<=30:=by have o:(E.map Prod.fst).length=(ea p.it).length:=(by rw[a]);rw[χ,Nr] at o;omega
 have u:∀e∈E,e.1.af.length<=100000:=λe G=>by have o:e.1∈E.map Prod.fst:=m9 G;rw[a] at o;have:=(j.x _ ((Js p.it).mem_iff.1 o)).2.2;omega
 refine AF (AB Z Z (AC (AD (AD ?_))));refine AF (ch Z Z (V (FX (ZT E I (by omega) u) Z [40] ⟨Z,trivial⟩ Z Z Z Z Z Z Z Z Z) (J (I2 Z (by rw[χ,Xz]) R3 Z) (ch Z Z (AC (AX (IU 6 10 Ih Z Z Z Z (BC (α:=Nat×List (List Int)) (λq=>⟨31,[(5,(.d (.sl none (E.map DL)))),(6,(.own 10 0 q.2.length)),(17,(.d (Mr (kL (j1 p) E)))),(18,(.d (AE (E.length:Int)))),(19,(.d (AE (q.1:Int))))],[(10,[.rowD 28 1 (q.2.map Gl)])]⟩) (λq=>q.1<=E.length/\q.2=((kL (j1 p) E).take q.1).map (BQ E)) (λq=>E.length-q.1) ((0,[])) (⟨κ _,Z⟩) (AR B [10] Z Z ⟨Z,Z,Z,Z,Z,trivial⟩) ?_))))))));rintro ⟨k,T⟩ ⟨C,l⟩;dsimp only at C l⊢;refine AD (AF (J (At Z Z Z) (AC (AD (A5 Z (λc=>?_) (λc=>?_))))))
 .refine AU (AD (AX (AD ?_)));have f:k<E.length:=BF c;have b:k<(kL (j1 p) E).length:=by rw[Xz];exact f
  obtain ⟨t,D⟩:=gq b;have H:T.length<=30:=by rw[l,χ,η];omega
  refine AF (J (Al (k) Z Z (Z) (AP b) R3 Z DQ Z) (J (BZ Z Z BL Z) (AB Z Z (AC (AF (ch Z Z (ch Z Z (ch Z Z ?_))))))));refine J (Aj (sA E (kL (j1 p) E)[k] t (by omega)) Z Z) (V (CF 30 Ih Z Z Z Z Z Z Z Z) (V (DN (T) ([BQ E (kL (j1 p) E)[k]]) Z Z Z Z Z Z Z Z Ih (by simp only[ζ];omega) Z Z Z Z) (AB Z Z (AC (AF (J (Ad Z Z (AJ (k+1) (by omega)) Z) (ch Z Z (AC ?_))))))));exact ⟨(k+1,T++ [BQ E (kL (j1 p) E)[k]]),⟨f,by show _=((kL (j1 p) E).take (k+1)).map _;rw[ψ b,jy,l];rfl⟩,by show E.length-(k+1)<E.length-k;omega,AR B [10] Z (Z) ⟨Z,Z,Z,Z,Z,trivial⟩⟩
 .refine Aq (AD ?_);have s:k=E.length:=by have:=c;omega
  refine Fb (emb:=Gl) 6 10 T Z Z Z Z Z Z Z ?_;rw[show T=ll (j1 p) (Lm p) by rw[l,s,θ (by rw[Xz];exact Θ _)];unfold ll;rw[i.1,i.2.1]];refine AF (ch Z Z (AB Z Z (AB Z Z (AC (A4 ?_)))));exact ⟨_,[],[],A2 Z,Z,Z,Z,Z⟩
def rQ(ids:List Int)(m k:Nat):List Int:=((List.range k).filter λj=>decide (m / 2^j % 2=1)).map λj=>ids.getD j 0
def yf(p:hU)(ids:List Int)(M:Nat)(x:Int):Prop:=∃m,m<M/\DY p (rQ ids m ids.length)/\x∈rQ ids m ids.length
noncomputable instance (p:hU) (ids:List Int) (M:Nat) (x:Int):Decidable (yf p ids M x):=Classical.propDecidable _
theorem Ss(b:(w.map cl.id).Nodup)(a:Nat->Bool):BS w a w.length=(w.map cl.id).filter λx=>decide (x∈BS w a w.length):=by
 obtain ⟨l,c⟩:∃l,BS w a w.length=l:=⟨_,Z⟩
 have f:w.map cl.id=(List.range w.length).map λi=>(w.getD i ek).id:=by
  conv=>lhs;rw[HT w]
  rw[jw];rfl
 grind[lr,Me,BS]
theorem jG(h:Ca H I A z N G){x:Nd}(b:N.nd[i]? =some x):AO prog 146 [.d (pD (A i) 0)] (HN G) λr c=>r= .d (Am x.on)/\c=HN G:=by
 have a:=h.n i x b;refine As func146 Z Z ntmps146 Z Z Z λF g=>(AD (AF (AB Z Z (AC ?_))));refine AD (AF (ch Z Z (J (Dx Z Z) (J (Cr Z F8 Z Z Z) (J (FE (f:=40) Z Z (a) Z tH Z) (AB Z Z (AC (A4 ?_))))))));exact ⟨_,[40],_,A2 Z,Z,Z,Z,Z⟩
theorem jE(h:Ca H I A z N G)(e:Nat×Int){y:Po}(b:N.po[e.1]? =some y)(c: -1000000000000000000<=y.room/\y.room<=1000000000000000000)(f: -2000000000000000000<=e.2/\e.2<=2000000000000000000):AO prog 149 [.d (iN z e)] (HN G) λr g=>r= .d (Am (Q4 y e.2))/\g=HN G:=by
 have a:=N7 h b e.2 c f;refine As func149 Z Z ntmps149 Z Z Z λF i=>(AD (AF (V (B7 1 Z Z Z Z Z Z Z) (AB Z Z (AC (AD ?_))))));refine AF (J (AM Z TU Z Z Z) (J (AQ Z Z Z FR Z) (J (AM Z TT Z Z Z) (J (AQ Z Z Z FJ Z) (V (FX a Z [40] ⟨Z,trivial⟩ Z Z Z Z Z Z Z Z Z) (AB Z Z (AC (A4 ?_))))))));exact ⟨_,[40],_,A2 Z,Z,Z,Z,Z⟩
abbrev sQ(wb mv:Nat)(bs:Option (List Nat×Nat))(L:List (Int×Value))(M:MF):Hp:=(910,[.blk 171 [.d (pD wb 0)]])::HW mv bs L M
theorem jF(t:Option (List Nat×Nat))(h:Ca H I A z N G)(u:(Bf N).Nodup){id:Int}(l:id∈Bf N):AO prog 147 [.d (AE id),.ptr 910 0 0] (sQ H I t (Gb A (Bf N)) G) λr v=>r= .d (Am (!je N id))/\v=sQ H I t (Gb A (Bf N)) G:=by
 have j:=h.w;have b:=mr l;have c:(Bf N).idxOf id<N.nd.length:=by unfold Bf at b⊢;rw[χ] at b;exact b
 obtain ⟨a,s⟩:∃a,N.nd[(Bf N).idxOf id]? =some a:=⟨_,ω c⟩
 have o:N.nd.getD ((Bf N).idxOf id) CV=a:=by rw[Ψ,s];rfl
 have i:=h.n _ a s;have g:=Tj (nb:=A) u b;rw[nI b] at g;have k:(!je N id)=a.on:=by unfold je;rw[o,Bool.not_not]
 refine As func147 Z Z ntmps147 Z Z Z λF w=>(AD ?_);refine AF (AB Z Z (AC (AD (AF (J (AQ Z Z Z Yq Z) (J (Dx Z Z) (J (Cr Z OZ Z Z Z) (J (FE (f:=40) Z Z (j) Z Yo Z) ?_))))))));refine EN 7 51 0 Z Z (ch Z Z (J (I8 (Gb A (Bf N)) id (.pointer none) (pV (A ((Bf N).idxOf id)) 0) Z Z Z ZC I6 YK g Z) (J (Dx Z Z) (J (Cr Z F8 Z Z Z) (J (FE (f:=40) Z Z (i) Z tH Z) (AB Z Z (AC (A4 ?_))))))));exact ⟨_,[910,40,50,51],_,A2 Z,Z,Z,by rw[k],Z⟩
section
variable{P:Program}{F:Fr}{s:AS}{d:Nat}{x hi:Operand}{T E:TypeId}{ty:TypeId}{pos:String}{aft:Array Edge}{g:Option (Nat×Bool)}
theorem UN{b n a c:Nat}(h:Nat){k:IntKind}{i:Int}(l:s.ev x=some (.d (.raw (sV b n a))))(f:s.ev hi=some (.d (.raw (.int k i))))(o:i=(h:Int))(v:h<=a)(t:P.underlying T=some (.slice E))(u:A3 P E c=true)(r:Nat.blt d s.n=true):
  AA P F ⟨some d,.slice T x none (some hi) none,ty,pos,aft,g⟩ s d (.d (.raw (sV b h a))):=
 DG _ r λ_ y w j=>by
  have e:=j.raw l;subst o;refine ⟨.slice (if a=0 then some ⟨b,0,none⟩ else (some (⟨b,0,none⟩:Addr)).map (·.add (0*c))) (h-0) (a-0),by simp only[execOp,e,lW,mZ,j.raw f,Sem.run_bind,Hg t (Zq u) v,Result.andThen_ok,Sem.run_pure],?_⟩
  have:Value.slice (if a=0 then some ⟨b,0,none⟩ else (some (⟨b,0,none⟩:Addr)).map (·.add (0*c))) (h-0) (a-0)=sV b h a:=by
   split<;>simp[Addr.add]
  rw[this];exact .d (.raw Z)
end
variable{a c:Nat->Nat}{N:jh}{M:MF}{f g:Nat}{h:List Nat}{i:Hd}{j:Nat}{x:Nd}
def QV{α:Type}(p:α->Bool)(l:List α):Int:=match l.findIdx? p with
 | some k=>k
 | none=> -1
theorem uB{H K:Nat}{E I:Nat->Nat}{N:jh}{M:MF}(h:Ca H K E I N M){t:Hd}{q:List Nat}(v:BX M t 176 1 (q.map λi=>B4 (E i)))(u:∀i∈q,i<N.nd.length)(m:Nat)(X:m<=q.length)(R:q.length<=100000):
  AO prog 97 [.d (ji t m),.d (.raw (.func (.func 146) #[] #[]))] (HN M) λr T=>r= .d (AE (QV (kS N) (q.take m)))/\T=HN M:=by
 have L:t=none->m=0:=λe=>by have:=W4 v e;omega
 have Q:(q.take m).length=m:=by rw[η];omega
 refine As func97 Z Z ntmps97 Z Z Z λF G=>(AD (AF (AB Z Z (AC ?_))));refine AD (AD (AF (ch Z Z (J (YA L Z S1 Z) (ch Z Z (AC (AX (BC (α:=Nat) (λk=>⟨19,[(0,.d (ji t m)),(1,.d (.raw (.func (.func 146) #[] #[]))),(7,(.d (AE (m:Int)))),(8,(.d (AE (k:Int))))],HN M⟩) (λk=>k<=m/\∀x∈(q.take m).take k,kS N x=false) (λk=>m-k) (0) (⟨κ _,by simp⟩) (AR G [40] Z Z ⟨Z,Z,Z,Z,trivial⟩) ?_))))))));rintro k ⟨S,A⟩;refine AD (AF (J (At Z Z Z) (AC (AD (A5 Z (λD=>?_) (λD=>?_))))))
 .have w:k<m:=BF D;refine AU (AD (AX (AD ?_)));have a:k<q.length:=by omega
  have s:k<(q.take m).length:=by omega
  obtain ⟨W,U,l⟩:=Wg v a;have j:=Tt v l;have B:=u _ (ϑ a)
  obtain ⟨z,c⟩:∃z,N.nd[q[k]]? =some z:=⟨_,ω B⟩
  have C:=jG h c;have o:kS N q[k]=z.on:=by unfold kS;rw[Ψ,c];rfl
  refine AF (ch Z Z (AB Z Z (AC (AD ?_))));refine AF (ch Z Z (ch Z Z (ch Z Z (J (YF l (k) Z Z Z w S1 NU Z) (J (qj (f:=40) (e:=k) (off:=0) Z (by omega) Z (j) (AP a) Z PS Z) (V (cM C Z [40] ⟨Z,trivial⟩ Z Z Z Z Z Z Z Z Z) (AC (KB Z (λb=>?_) (λb=>?_)))))))))
  .refine AD (AF (ch Z Z (AB Z Z (AC (A4 ?_)))));exact ⟨_,[40],_,A2 Z,Z,Z,Ae (by unfold QV;rw[IB s A (by rw[List.getElem_take,o];simpa using b)]),Z⟩
  .refine AU (AF (J (Ad Z Z (AJ (k+1) (by omega)) Z) (ch Z Z (AC ?_))));exact ⟨k+1,⟨by show k+1<=_;omega,by rw[ψ s];intro y g;rcases υ.1 g with g | g;exact A y g;rw[ξ.1 g,List.getElem_take];rw[o];simpa using b⟩,by show m-(k+1)<m-k;omega,AR G [40] Z (Z) ⟨Z,Z,Z,Z,trivial⟩⟩
 .refine Aq (AD (AF (AB Z Z (AC (A4 ?_)))));exact ⟨_,[40],_,A2 Z,Z,Z,Ae (by unfold QV;rw[Jk (λx O=>A x (by rw[θ (by have h:=D;omega)];exact O))]),Z⟩
theorem X8{a:Type}{p:a->Bool}{l:List a}:(QV p l>=0)↔l.any p=true:=by grind[QV]
theorem pu(j:Ca f g c a N M)(o:BX M i 176 1 (h.map λb=>B4 (c b)))(k:∀b∈h,b<N.nd.length)(m:Nat)(s:m<=h.length)(l:h.length<=100000):
  AO prog 145 [.d (ji i m),.d (.raw (.func (.func 146) #[] #[]))] (HN M) λr t=>r= .d (Am ((h.take m).any (kS N)))/\t=HN M:=by
 refine As func145 Z Z ntmps145 Z Z Z λF u=>(AD (AF (AB Z Z (AC ?_))));refine AD (AF (ch Z Z (ch Z Z (V (FX (uB j o k m s l) Z [40] ⟨Z,trivial⟩ Z Z Z Z Z Z Z Z Z) (J (EE Z Z Z) (AB Z Z (AC (A4 ?_))))))));exact ⟨_,[40],_,A2 Z,Z,Z,RO (by rw[nG,l6];exact X8),Z⟩
theorem tz{D H:Nat}{G E:Nat->Nat}{N:jh}{M:MF}(h:Ca D H G E N M)(u:lR N){i:Nat}{x:Nd}(B:N.nd[i]? =some x):
  AO prog 197 [.d (ji x.eh x.ef.length),.d (.raw (.func (.func 149) #[] #[]))] (HN M) λr R=>r= .d (AE (QV (λe:Nat×Int=>Q4 (N.po.getD e.1 Cd) e.2) x.ef))/\R=HN M:=by
 obtain ⟨K,g,_⟩:=h.nn i x B;have c:=ϖ B;have O:=(u.l x c).1;have I:=W4 g;refine As func197 Z Z ntmps197 Z Z Z λF C=>(AD (AF (AB Z Z (AC ?_))));refine AD (AD (AF (ch Z Z (J (YA I Z underlying181 Z) (ch Z Z (AC (AX (BC (α:=Nat) (λk=>⟨19,[(0,.d (ji x.eh x.ef.length)),(1,.d (.raw (.func (.func 149) #[] #[]))),(7,(.d (AE (x.ef.length:Int)))),(8,(.d (AE (k:Int))))],HN M⟩) (λk=>k<=x.ef.length/\∀e∈x.ef.take k,(λe:Nat×Int=>Q4 (N.po.getD e.1 Cd) e.2) e=false) (λk=>x.ef.length-k) (0) (⟨κ _,by simp⟩) (AR C [40] Z Z ⟨Z,Z,Z,Z,trivial⟩) ?_))))))));rintro k ⟨L,v⟩;refine AD (AF (J (At Z Z Z) (AC (AD (A5 Z (λA=>?_) (λA=>?_))))))
 .have a:k<x.ef.length:=BF A;refine AU (AD (AX (AD ?_)));obtain ⟨T,S,b⟩:=Wg g a;have o:=Tt g b;have w:=(h.e x c).1 _ (ϑ a)
  obtain ⟨y,t⟩:∃y,N.po[x.ef[k].1]? =some y:=⟨_,ω w⟩
  have s:N.po.getD x.ef[k].1 Cd=y:=by rw[Ψ,t];rfl
  have Q:=u.e x c _ (ϑ a);have z:=jE h x.ef[k] t (u.rm y (ϖ t)) ⟨by omega,by omega⟩;refine AF (ch Z Z (AB Z Z (AC (AD ?_))));refine AF (ch Z Z (ch Z Z (ch Z Z (J (YF b (k) Z Z Z a underlying181 UI Z) (J (E6 (f:=40) (e:=k) Z (Z) Z (o) (AP a) Z dp Z) (V (cM z Z [40] ⟨Z,trivial⟩ Z Z Z Z Z Z Z Z Z) (AC (A5 Z (λl=>?_) (λl=>?_)))))))))
  .refine AD (AF (ch Z Z (AB Z Z (AC (A4 ?_)))));exact ⟨_,[40],_,A2 Z,Z,Z,Ae (by unfold QV;rw[IB a v (by show Q4 (N.po.getD x.ef[k].1 Cd) x.ef[k].2=true;rw[s];unfold Q4;exact Υ l)]),Z⟩
  .refine AU (AF (J (Ad Z Z (AJ (k+1) (by omega)) Z) (ch Z Z (AC ?_))));exact ⟨k+1,⟨by show k+1<=_;omega,by rw[ψ a];intro e j;rcases υ.1 j with j | j;exact v e j;rw[ξ.1 j];show Q4 (N.po.getD x.ef[k].1 Cd) x.ef[k].2=false;rw[s];unfold Q4;exact kC l⟩,by show x.ef.length-(k+1)<x.ef.length-k;omega,AR C [40] Z (Z) ⟨Z,Z,Z,Z,trivial⟩⟩
 .refine Aq (AD (AF (AB Z Z (AC (A4 ?_)))));exact ⟨_,[40],_,A2 Z,Z,Z,Ae (by unfold QV;rw[Jk (λe j=>v e (by rw[θ (by have h:=A;omega)];exact j))]),Z⟩
theorem pq(h:Ca f g c a N M)(k:lR N)(b:N.nd[j]? =some x):
  AO prog 148 [.d (ji x.eh x.ef.length),.d (.raw (.func (.func 149) #[] #[]))] (HN M) λr l=>r= .d (Am (x.ef.any λe:Nat×Int=>Q4 (N.po.getD e.1 Cd) e.2))/\l=HN M:=by
 refine As func148 Z Z ntmps148 Z Z Z λF o=>(AD (AF (AB Z Z (AC ?_))));refine AD (AF (ch Z Z (ch Z Z (V (FX (tz h k b) Z [40] ⟨Z,trivial⟩ Z Z Z Z Z Z Z Z Z) (J (EE Z Z Z) (AB Z Z (AC (A4 ?_))))))));exact ⟨_,[40],_,A2 Z,Z,Z,RO (by rw[nG,l6];exact X8),Z⟩
theorem uA(o:Option (List Nat×Nat))(h:Ca f g c a N M)(y:(Bf N).Nodup)(l:List Int)(D:l.length<=100000)(t:∀id∈l,id∈Bf N):
  AO prog 138 [.d (.sl none (l.map AE)),.fn 147 [.ptr 910 0 0]] (sQ f g o (Gb c (Bf N)) M) λr C=>r= .d (AE (QV (λid=>!je N id) l))/\C=sQ f g o (Gb c (Bf N)) M:=by
 obtain ⟨L,B⟩:∃L,Gb c (Bf N)=L:=⟨_,Z⟩
 have v:=λid A=>jF (id:=id) o h y A;rw[B] at v⊢;refine As func138 Z Z ntmps138 Z Z Z λF w=>(AD (AF (AB Z Z (AC ?_))));refine AD (AD (AF (ch Z Z (J (BU Z E0 Z) (ch Z Z (AC (AX (BC (α:=Nat) (λk=>⟨19,[(0,.d (.sl none (l.map AE))),(1,.fn 147 [.ptr 910 0 0]),(7,(.d (AE (l.length:Int)))),(8,(.d (AE (k:Int))))],sQ f g o L M⟩) (λk=>k<=l.length/\∀x∈l.take k,(λid=>!je N id) x=false) (λk=>l.length-k) (0) (⟨κ _,by simp⟩) (AR w [910,40,50,51] Z Z ⟨Z,Z,Z,Z,trivial⟩) ?_))))))));rintro k ⟨z,s⟩;refine AD (AF (J (At Z Z Z) (AC (AD (A5 Z (λu=>?_) (λu=>?_))))))
 .have b:k<l.length:=BF u;refine AU (AD (AX (AD (AF (ch Z Z (AB Z Z (AC (AD ?_))))))));refine AF (ch Z Z (ch Z Z (ch Z Z (J (Al (k) Z Z (Z) (AP b) E0 Z BK Z) (J (BZ Z Z Ai Z) (V (cM (v l[k] (t _ (ϑ b))) Z [910,40,50,51] ⟨Z,Z,Z,Z,trivial⟩ Z Z Z Z Z Z Z Z Z) (AC (KB Z (λj=>?_) (λj=>?_)))))))))
  .refine AD (AF (ch Z Z (AB Z Z (AC (A4 ?_)))));exact ⟨_,[910,40,50,51],_,A2 Z,Z,Z,Ae (by unfold QV;rw[IB b s (by simpa using j)]),Z⟩
  .refine AU (AF (J (Ad Z Z (AJ (k+1) (by omega)) Z) (ch Z Z (AC ?_))));exact ⟨k+1,⟨by show k+1<=_;omega,by rw[ψ b];intro x i;rcases υ.1 i with i | i;exact s x i;rw[ξ.1 i];simpa using j⟩,by show l.length-(k+1)<l.length-k;omega,AR w [910,40,50,51] Z (Z) ⟨Z,Z,Z,Z,trivial⟩⟩
 .refine Aq (AD (AF (AB Z Z (AC (A4 ?_)))));exact ⟨_,[910,40,50,51],_,A2 Z,Z,Z,Ae (by unfold QV;rw[Jk (λx i=>s x (by rw[θ (by have h:=u;omega)];exact i))]),Z⟩
theorem pt(i:Option (List Nat×Nat))(h:Ca f g c a N M)(j:(Bf N).Nodup)(l:List Int)(k:l.length<=100000)(b:∀id∈l,id∈Bf N):
  AO prog 130 [.d (.sl none (l.map AE)),.fn 147 [.ptr 910 0 0]] (sQ f g i (Gb c (Bf N)) M) λr o=>r= .d (Am (l.any λid=>!je N id))/\o=sQ f g i (Gb c (Bf N)) M:=by
 refine As func130 Z Z ntmps130 Z Z Z λF s=>(AD (AF (AB Z Z (AC ?_))));refine AD (AF (ch Z Z (ch Z Z (V (FX (uA i h j l k b) Z [910,40,50,51] ⟨Z,Z,Z,Z,trivial⟩ Z Z Z Z Z Z Z Z Z) (J (EE Z Z Z) (AB Z Z (AC (A4 ?_))))))));exact ⟨_,[910,40,50,51],_,A2 Z,Z,Z,RO (by rw[nG,l6];exact X8),Z⟩
section
variable{P:Program}{F:Fr}{s:AS}{d:Nat}{x hi:Operand}{T E:TypeId}{ty:TypeId}{pos:String}{aft:Array Edge}{g:Option (Nat×Bool)}
theorem UO{h:Hd}{b n a i:Nat}(o:h=some (b,a))(m:Nat){j:IntKind}{f:Int}(k:s.ev x=some (.d (ji h n)))(c:s.ev hi=some (.d (.raw (.int j f))))(l:f=(m:Int))(v:m<=a)(t:P.underlying T=some (.slice E))(u:A3 P E i=true)(r:Nat.blt d s.n=true):
  AA P F ⟨some d,.slice T x none (some hi) none,ty,pos,aft,g⟩ s d (.d (ji h m)):=by
 subst o;exact UN m k c l v t u r
end
variable{a:List cl}{c:List ey}{f:Nat->Bool}{R:Int->Int->Prop}{g:hU}{N:jh}{h:List Int}{i:Nat}{x:Nd}{j:List ey}{k:cl}{Y:List ey}{o s:Nat->Nat}{t:List Po}{M:MF}{u w y:Nat}{z:Int}{A:Nat}{B:Po}
def Wb(N:jh)(e:Nat×Nat):Bool:=((N.po.getD e.1 Cd).q.take e.2).any (kS N)
def DM(N:jh)(x:Nd):Bool:=!(x.pl.any (Wb N)) &&(!(x.it.af.any λid=>!je N id) && !(x.ef.any λe:Nat×Int=>Q4 (N.po.getD e.1 Cd) e.2))
theorem wx(h:x.pl.any (Wb N)=true):DM N x=false:=by unfold DM;rw[h];rfl
theorem wz(a:x.pl.any (Wb N)=false)(h:(x.it.af.any λid=>!je N id)=true):DM N x=false:=by unfold DM;rw[a,h];rfl
theorem wy(a:x.pl.any (Wb N)=false)(h:(x.it.af.any λid=>!je N id)=false):DM N x=!(x.ef.any λe:Nat×Int=>Q4 (N.po.getD e.1 Cd) e.2):=by unfold DM;rw[a,h];simp
theorem qY(Q:Option (List Nat×Nat))(h:Ca u w s o N M)(C:lR N)(W:N.nd[i]? =some x):
  AO prog 99 [.d (pD u 0),.d (pD (s i) 0)] (HW w Q (Gb s (Bf N)) M) λr H'=>r= .d (Am (DM N x))/\H'=HW w Q (Gb s (Bf N)) M:=by
 have b:=ϖ W;obtain ⟨g,hre,j⟩:=h.nn i x W;have X:=W4 j;obtain ⟨_,hpl,hafl⟩:=C.l x b;have U:=h.e x b;have T:=C.p x b;have O:=pt Q h C.i x.it.af (by omega) (C.a x b);have hc3:=pq h C W
 obtain ⟨L,hL⟩:∃L,Gb s (Bf N)=L:=⟨_,Z⟩
 rw[hL] at O⊢;refine As func99 Z Z ntmps99 Z Z Z λF hF=>(AD (AF (V (B7 910 Z Z Z Z Z Z Z) (AB Z Z (AC (AD (AD (AF ?_))))))));refine ch Z Z (J (Dx Z Z) (J (Cr Z Lb Z Z Z) (J (FE (f:=40) Z Z (g) Z Ym Z) (J (YA X Z underlying182 Z) (ch Z Z (AC (AX (BC (α:=Nat) (λk=>⟨39,[(1,.d (pD (s i) 0)),(2,(.ptr 910 0 0)),(10,(.d (ji x.ph x.pl.length))),(11,(.d (AE (x.pl.length:Int)))),(12,(.d (AE (k:Int))))],sQ u w Q L M⟩) (λk=>k<=x.pl.length/\∀e∈x.pl.take k,Wb N e=false) (λk=>x.pl.length-k) (0) (⟨κ _,by simp⟩) (AR hF [910,40,50,51] Z Z ⟨Z,Z,Z,Z,Z,trivial⟩) ?_))))))));rintro k ⟨hk0,l⟩;refine AD (AF (J (At Z Z Z) (AC (AD (A5 Z (λB=>?_) (λB=>?_))))))
 .have a:k<x.pl.length:=BF B;refine AU (AD (AX (AD ?_)));obtain ⟨eb,ec,K⟩:=Wg j a;have E:=Tt j K;have Y:x.pl[k].1<N.po.length:=U.2 _ (ϑ a)
  obtain ⟨y,S⟩:∃y,N.po[x.pl[k].1]? =some y:=⟨_,ω Y⟩
  have t:N.po.getD x.pl[k].1 Cd=y:=by rw[Ψ,S];rfl
  have D:=ϖ S;obtain ⟨R,c⟩:=h.pp _ y S;have H:=T _ (ϑ a);rw[t] at H;obtain ⟨qb,qc,G⟩:=Wg c H.1;have hqc:y.q.length<=qc:=by have h1:=c;rw[G] at h1;have h2:=h1.1;rw[χ] at h2;exact h2
  have hcn:=pu h c (h.q y D) x.pl[k].2 (by omega) (by have h1:=C.ql y D;omega);refine AF (J (YF K (k) Z Z Z a underlying182 Qt Z) ?_);refine J (E6 (f:=40) (e:=k) Z (Z) Z (E) (AP a) Z dl Z) (V (CP 911 YJ Z Z Z Z) (V (Bi Z Z Z Z Z Z Z Qt) (AC (AD (Bq [[],[0],[0,1],[0,1,2],[0,1,2,3],[],[5],rg 7,rg 8] mixed Z (B2 (AK [6] Z (AM Z IC Z Z Z) (A1 [16] [911] Z Z (λ_=>Aa (AQ Z Z Z FR Z)) ?_))))))));refine AK [17] Z (Dx Z Z) (AK [18] Z (Cr Z ID Z Z Z) (A1 [19] [40] Z Z (λ_=>Aa (FE (f:=40) Z Z (R) Z HQ Z)) (AK [6] Z (AM Z TQ Z Z Z) (A1 [21] [911] Z Z (λ_=>Aa (AQ Z Z Z Ai Z)) (BV 7 Z Z Z (A0 8 Z Z (J (UO G x.pl[k].2 Z Z Z (by omega) S1 NU Z) (AC ⟨Z,?_⟩))))))));refine A0 9 Z Z (V (FX hcn Z [40] ⟨Z,trivial⟩ Z Z Z Z Z Z Z Z Z) (AC ⟨Z,?_⟩));refine Bb (KB Z (λA=>?_) (λA=>?_))
  .refine AD (AF (AB Z Z (AC (A4 ?_))));exact ⟨_,[40,50,51],_,A2 Z,Z,Z,by rw[wx (List.any_eq_true.2 ⟨_,ϑ a,by unfold Wb;rw[t];simpa using A⟩)],Z⟩
  .refine AU (AF (J (Ad Z Z (AJ (k+1) (by omega)) Z) (ch Z Z (AC ?_))));exact ⟨k+1,⟨by show k+1<=_;omega,by rw[ψ a];intro e v;rcases υ.1 v with v | v;exact l e v;rw[ξ.1 v];unfold Wb;rw[t];simpa using A⟩,by show x.pl.length-(k+1)<x.pl.length-k;omega,AR hF [910,40,50,51] Z (Z) ⟨Z,Z,Z,Z,Z,trivial⟩⟩
 .refine Aq (AD (AD ?_));have I:x.pl.any (Wb N)=false:=by rw[List.any_eq_false];intro e v;have e1:k=x.pl.length:=(by have h:=B;omega);rw[e1,kV] at l;rw[l e v];simp
  refine AF ?_;refine ch Z Z (J (Dx Z Z) (J (Cr Z G7 Z Z Z) (J (Cr Z GN Z Z Z) (J (FE (f:=40) Z Z (g) Z BL Z) (J (uk Z Z) (V (FX O Z [910,40,50,51] ⟨Z,Z,Z,Z,trivial⟩ Z Z Z Z Z Z Z Z Z) (AC (KB Z (λz=>?_) (λz=>?_)))))))))
  .refine AD (AF (AB Z Z (AC (A4 ?_))));exact ⟨_,[40,50,51],_,A2 Z,Z,Z,by rw[wz I (by simpa using z)],Z⟩
  .refine AU (AD (AF ?_));refine ch Z Z (J (Dx Z Z) (J (Cr Z Lc Z Z Z) (J (FE (f:=40) Z Z (g) Z Yn Z) (V (FX hc3 Z [40] ⟨Z,trivial⟩ Z Z Z Z Z Z Z Z Z) (J (QX Z Z) (AB Z Z (AC (A4 ?_))))))));exact ⟨_,[40,50,51],_,A2 Z,Z,Z,by rw[wy I (by simpa using z)],Z⟩
abbrev HG(wb mv:Nat)(bs:Option (List Nat×Nat))(L:List (Int×Value))(M:MF):Hp:=(920,[.blk 171 [.d (pD wb 0)]])::HW mv bs L M
theorem gk(g:Option (List Nat×Nat))(h:Ca u w s o N M)(k:lR N){i:Nat}{x:Nd}(j:N.nd[i]? =some x):
  AO prog 98 [.d (pD (s i) 0),.ptr 920 0 0] (HG u w g (Gb s (Bf N)) M) λr t=>r= .d (Am (x.on && DM N x))/\t=HG u w g (Gb s (Bf N)) M:=by
 have b:=h.n i x j;have a:=qY g h k j
 obtain ⟨L,l⟩:∃L,Gb s (Bf N)=L:=⟨_,Z⟩
 rw[l] at a⊢;refine As func98 Z Z ntmps98 Z Z Z λF v=>(AD (AF (AB Z Z ?_)));refine AC (AD (AF (ch Z Z (J (Dx Z Z) (J (Cr Z F8 Z Z Z) (J (FE (f:=40) Z Z (b) Z tH Z) (ch Z Z (PY 8 Z (λc=>?_) (λc=>?_)))))))));refine AT Z Z Z (J (AQ Z Z Z Yq Z) (AT Z Z Z (ch Z Z (AT Z Z Z (V (FX a Z [40,50,51] ⟨Z,Z,Z,trivial⟩ Z Z Z Z Z Z Z Z Z) (J (B8 Z Z Z Z) ?_))))))
 rotate_left
 refine AN Z Z Z Z (AN Z Z Z Z (AN Z Z Z Z (J (Bx Z Z Z Z) ?_)))
 all_goals
  refine AB Z Z (AC (A4 ?_));exact ⟨_,[920,40,50,51],_,A2 Z,Z,Z,by rcases Bool.eq_false_or_eq_true x.on with e | e<;>rw[e] at c⊢<;>first | rfl | (simp at c),rfl⟩
def Kb(N:jh)(i:Nat):Bool:=(N.nd.getD i CV).on && DM N (N.nd.getD i CV)
theorem tv(C:Option (List Nat×Nat))(h:Ca u w s o N M)(I:lR N):
  AO prog 97 [.d (ji N.nh N.nd.length),.fn 98 [.ptr 920 0 0]] (HG u w C (Gb s (Bf N)) M) λr U=>r= .d (AE (QV (Kb N) (List.range N.nd.length)))/\U=HG u w C (Gb s (Bf N)) M:=by
 have b:BX M N.nh en 1 ((List.range N.nd.length).map λi=>B4 (s i)):=h.rs.1 .n;have Q:N.nh=none->N.nd.length=0:=λe=>by have O:=W4 b e;rw[kp] at O;exact O
 have R:=I.n.1;have B:=λi x D=>gk (i:=i) (x:=x) C h I D
 obtain ⟨L,T⟩:∃L,Gb s (Bf N)=L:=⟨_,Z⟩
 rw[T] at B⊢;refine As func97 Z Z ntmps97 Z Z Z λF K=>(AD (AF (AB Z Z (AC ?_))));refine AD (AD (AF (ch Z Z (J (YA Q Z S1 Z) (ch Z Z (AC (AX (BC (α:=Nat) (λk=>⟨19,[(0,.d (ji N.nh N.nd.length)),(1,.fn 98 [.ptr 920 0 0]),(7,(.d (AE (N.nd.length:Int)))),(8,(.d (AE (k:Int))))],HG u w C L M⟩) (λk=>k<=N.nd.length/\∀x∈(List.range N.nd.length).take k,Kb N x=false) (λk=>N.nd.length-k) (0) (⟨κ _,by simp⟩) (AR K [920,40,50,51] Z Z ⟨Z,Z,Z,Z,trivial⟩) ?_))))))));rintro k ⟨S,E⟩;refine AD (AF (J (At Z Z Z) (AC (AD (A5 Z (λH=>?_) (λH=>?_))))))
 .have a:k<N.nd.length:=BF H;refine AU (AD (AX (AD ?_)));have c:k<(List.range N.nd.length).length:=by rw[kp];exact a
  obtain ⟨X,W,v⟩:=Wg b c;have t:=Tt b v
  obtain ⟨z,j⟩:∃z,N.nd[k]? =some z:=⟨_,ω a⟩
  have G:=B k z j;have A:Kb N k=(z.on && DM N z):=by unfold Kb;rw[Ψ,j];rfl
  refine AF (ch Z Z ?_);refine AB Z Z (AC (AD (AF (ch Z Z (ch Z Z (ch Z Z (J (YF v (k) Z Z Z a S1 NU Z) (J (qj (f:=40) (e:=k) (off:=0) Z (by omega) Z (t) ((by rw[ς,mX a];rfl)) Z PS Z) ?_))))))));refine V (cM G Z [920,40,50,51] ⟨Z,Z,Z,Z,trivial⟩ Z Z Z Z Z Z Z Z Z) (AC (KB Z (λg=>?_) (λg=>?_)))
  .refine AD (AF (ch Z Z (AB Z Z (AC (A4 ?_)))));exact ⟨_,[920,40,50,51],_,A2 Z,Z,Z,Ae (by unfold QV;rw[IB c E (by rw[List.getElem_range,A];simpa using g)]),Z⟩
  .refine AU (AF (J (Ad Z Z (AJ (k+1) (by omega)) Z) (ch Z Z (AC ?_))));exact ⟨k+1,⟨by show k+1<=_;omega,by rw[ψ c];intro y l;rcases υ.1 l with l | l;exact E y l;rw[ξ.1 l,List.getElem_range,A];simpa using g⟩,by show N.nd.length-(k+1)<N.nd.length-k;omega,AR K [920,40,50,51] Z (Z) ⟨Z,Z,Z,Z,trivial⟩⟩
 .refine Aq (AD (AF (AB Z Z (AC (A4 ?_)))));exact ⟨_,[920,40,50,51],_,A2 Z,Z,Z,Ae (by unfold QV;rw[Jk (λx D=>E x (by rw[θ (by rw[kp];have h:=H;omega)];exact D))]),Z⟩
theorem o9(N:jh):kS (BE N)=kS N:=funext λi=>by unfold kS;rw[GO];rfl
theorem ax(N:jh):je (BE N)=je N:=funext λe=>by unfold je;rw[GO,IE];rfl
theorem cC(N:jh)(x:Nd):DM (BE N) (FO x)=DM N x:=by
 have a:Wb (BE N)=Wb N:=funext λe=>by unfold Wb;rw[JK,o9];rfl
 have b:(λe:Nat×Int=>Q4 ((BE N).po.getD e.1 Cd) e.2)=λe=>Q4 (N.po.getD e.1 Cd) e.2:=funext λe=>by rw[JK];rfl
 unfold DM;rw[a,ax]
 grind[FO]
theorem gm(N:jh):Kb (BE N)=Kb N:=funext λi=>by unfold Kb;rw[GO,cC];rfl
def Qg(po:List Po)(e:Nat×Int):List Po:=match po[e.1]? with
 | some y=>po.set e.1 {y with room:=y.room+e.2}
 | none=>po
theorem q5{e:Nat×Int}(h:t[e.1]? =some B):Qg t e=t.set e.1 {B with room:=B.room+e.2}:=by unfold Qg;rw[h]
theorem WY:∀(l:List (Nat×Int)) (a:List Po),(l.foldl Qg a).map Cu=l.foldl Qg (a.map Cu)
 | [],_=>rfl
 | e::l,a=>by
  rw[List.foldl_cons,List.foldl_cons,WY l]
  congr 1
  unfold Qg;rw[ς]
  cases a[e.1]? with
  | none=>rfl
  | some y=>show (a.set e.1 _).map Cu=_;rw[List.map_set];rfl
theorem cE(l:(c.map ey.r).Nodup)(f:ey->Po):∀(D:List (AW×Int)),(D.map Prod.fst).Nodup->(mE (c.map ey.r) D).foldl Qg (c.map f)=c.map λx=>{f x with room:=(f x).room+Ds D x.r}:=by
 intro D
 induction D using cH with
 | h0=>
  intro _;show c.map f=_;refine kQ λx _=>?_;show f x={f x with room:=(f x).room+0}
  rw[Int.add_zero]
 | h1 D d a=>
  intro g;rw[jy,m5] at g;have j:d.1∉D.map Prod.fst:=λh=>g.2.2 _ h _ (List.mem_singleton_self _) rfl;have a:=a g.1
  by_cases b:d.1∈c.map ey.r
  .rw[Xi b,List.foldl_append,a];obtain ⟨o,k⟩:=OW b
   grind[Qg,TX,ER,ES,Dk]
  .rw[T4 b,a];refine kQ λx i=>?_;have:Ds (D++ [d]) x.r=Ds D x.r:=Dk λe=>b (e▸Γ.2 ⟨x,i,Z⟩);rw[this]
def EP(on:Nat->Bool):Nat->Bool:=λi=>!on i
def vt(ds:List (List (AW×Int)))(on:Nat->Bool)(x:ey):Po:=⟨x.r,x.n+E2 ds (EP on) x.r,E2 ds (λ_=>true) x.r,none,iX ds x.r,(iX ds x.r).length⟩
def jj(ros:List ey)(its:List cl)(on:Nat->Bool):jh:=⟨(List.range its.length).map (Jb (ros.map ey.r) its on),ros.map (vt (its.map dd) on),none,none⟩
theorem aJ(b:List (List (AW×Int)))(r:AW):E2 b (EP λ_=>true) r=0:=by
 unfold E2 EP
 generalize List.range b.length=l
 induction l with
 | nil=>rfl
 | cons a l c=>rw[k6,lS,c];rfl
theorem fg(a:List ey)(b:List cl):jj a b (λ_=>true)=iW a b λ_=>true:=by grind[jj,iW,kQ,vt,ej,aJ,ZG]
theorem nk{a:List (List (AW×Int))}(h:i<a.length)(c:f i=true)(r:AW):E2 a (EP (BB f i)) r=E2 a (EP f) r+Ds (a.getD i []) r:=by
 obtain ⟨B,b,g⟩:=J8 h;unfold E2;rw[b,jy,jy,k6,k6,mc,mc,lS,lS]
 grind[EP,kQ,HE,J6]
def wg(N:jh)(i:Nat)(x:Nd):jh:={N with nd:=N.nd.set i (FA x),po:=x.ef.foldl Qg N.po}
theorem yA(w:(c.map ey.r).Nodup)(h:BE N=jj c a f)(g:i<a.length)(v:f i=true)(u:N.nd[i]? =some x):BE (wg N i x)=jj c a (BB f i):=by
 have l:N.nd.map FO=(List.range a.length).map (Jb (c.map ey.r) a f):=jq jh.nd h;have k:N.po.map Cu=c.map (vt (a.map dd) f):=jq jh.po h
 have b:FO x=Jb (c.map ey.r) a f i:=by
  have s:(N.nd.map FO)[i]? =some (FO x):=by rw[ς,u];rfl
  grind
 have r:x.ef=mE (c.map ey.r) (dd (a.getD i ek)):=jq Nd.ef b;have kI:i<(a.map dd).length:=by simpa using g
 have o:(a.map dd).getD i []=dd (a.getD i ek):=by rw[Dy [] kI,Dy ek g,kT]
 unfold BE wg jj;dsimp only
 congr 1
 .rw[List.map_set,l]
  have:FO (FA x)=Jb (c.map ey.r) a (BB f i) i:=by
   have s:FO (FA x)=FA (FO x):=rfl;rw[s,b];unfold Jb FA BB;rw[ϱ rfl]
  rw[this];refine m0 λj=>?_;rw[nC]
  by_cases e:i=j
  .subst e;rw[ϱ Z,ϱ (by simpa using g),ς,mX g];rfl
  .rw[ν e,ς,ς]
   cases hj:(List.range a.length)[j]? with
   | none=>rfl
   | some z=>
    have t:=φ.1 hj;have:z=j:=by have:=t.2;simp at this;exact this.symm
    subst this;show some _=some _;unfold Jb BB;rw[ν (λh=>e h.symm)]
 .rw[WY,k,r,cE w _ _ (cN _)];refine kQ λz _=>?_;unfold vt;dsimp only;rw[nk kI v,o,Int.add_assoc]
theorem yh(a:List ey)(b:List cl)(c:Nat->Bool)(j:Nat):((jj a b c).po.getD j Cd).q=((iW a b c).po.getD j Cd).q:=by
 show ((a.map _).getD j Cd).q=((a.map _).getD j Cd).q;rw[Ψ,Ψ,ς,ς]
 cases a[j]?<;>rfl
theorem yg(h:vG c a)(b:Nat->Bool):lR (jj c a b):=by
 have f:=yU h b
 have k:∀y∈(jj c a b).po,y.q.length<=30/\y.mi<=30/\ -1000000000000000000<=y.room/\y.room<=1000000000000000000:=λy g=>by
  obtain ⟨x,i,e⟩:=Γ.1 g;subst e;have j:=LL (a.map dd) x.r;rw[χ] at j;have o:=h.l;have s:=sM h (EP b) x.r;have r:=h.n x i;refine ⟨by show (iX _ _).length<=_;omega,by show (iX _ _).length<=_;omega,?_,?_⟩
  .show _<=x.n+E2 (a.map dd) (EP b) x.r;omega
  .show x.n+E2 (a.map dd) (EP b) x.r<=_;omega
 refine ⟨f.i,f.a,f.l,f.e,λx i e l=>?_,λy g=>?_,λy g=>(k y g).2.2,?_,λy g=>?_⟩
 .rw[yh];exact f.p x i e l
 .grind
 .have j:=f.n
  grind[jj,iW]
 grind
theorem qu(h:BE N=jj c a f)(k:N.nd[i]? =some x):i<a.length/\x.on=f i/\x.it=a.getD i ek:=by
 have b:(N.nd.map FO)[i]? =some (FO x):=by rw[ς,k];rfl
 rw[show N.nd.map FO=(List.range a.length).map (Jb (c.map ey.r) a f) from jq jh.nd h] at b;have g:i<a.length:=by have:=(φ.1 b).1;simpa using this
 rw[ς,mX g] at b;have j:FO x=Jb (c.map ey.r) a f i:=(Option.some.inj b).symm;exact ⟨g,jq Nd.on j,jq Nd.it j⟩
theorem sR(h:BE N=jj c a f):N.nd.length=a.length:=by grind[χ,BE,jj]
theorem sS(h:BE N=jj c a f):Bf N=a.map cl.id:=by
 rw[<-IE,h];exact QQ c a f
def FT(ros:List ey)(its:List cl)(on:Nat->Bool):Option Nat:=(List.range its.length).findIdx? (Kb (jj ros its on))
def MX(ros:List ey)(its:List cl):Nat->(Nat->Bool)->List Int
 | 0,_=> []
 | f+1,on=>match FT ros its on with
  | none=> []
  | some i=>(its.getD i ek).id::MX ros its f (BB on i)
def Bu(p:hU):List Int:=MX (j8 p) (hJ p) (hJ p).length λ_=>true
theorem It(h:FT c a f=some i):i<a.length/\f i=true/\Kb (jj c a f) i=true:=by grind[FT,List.findIdx?_eq_some_iff_getElem,Kb,jj,Jb]
theorem Ff{b:Nat}(h:FT c a f=none):MX c a b f=[]:=by
 cases b with
 | zero=>rfl
 | succ b=>unfold MX;rw[h]
theorem HF{b:List ey}{a:List cl}{f:Nat}{c:Nat->Bool}{i:Nat}(h:FT b a c=some i):MX b a (f+1) c=(a.getD i ek).id::MX b a f (BB c i):=by
 show (match FT b a c with | none=>_ | some i=>_)=_;rw[h]
def RN(po:List Po)(b:Int):Prop:=∀y∈po,-b<=y.room/\y.room<=b
theorem aa{b c:Int}(h:RN t b)(g:b<=c)(f: -c<=B.room/\B.room<=c):RN (t.set A B) c:=λz a=>by
 rcases my a with a | rfl
 .have:=h z a;omega
 .exact f
theorem V5(p:hU)(hf:CT p)(hE:Ac p=0):AI prog 43 [.d (BG p)] (.tup [.sl none ((Bu p).map AE),AE 0]):=by
 have H:=WQ p hf hE;have v:=Y6 hf hE;unfold Bu;rw[fc,<-fg] at H
 obtain ⟨a,hits⟩:∃a,hJ p=a:=⟨_,Z⟩
 obtain ⟨c,W⟩:∃c,j8 p=c:=⟨_,Z⟩
 rw[hits,W] at H v⊢;have hl:=v.l;refine As func43 Z Z ntmps43 Z Z Z λF hF=>?_;refine AD (AF (V (B7 1 Z Z Z Z Z Z Z) (AB Z Z (AB Z Z (AC (AD (AF (J (Ap Z Z Bp Z Z Z) ?_))))))));refine DA (YB H Z [40,50,51] ⟨Z,Z,Z,trivial⟩ Z Z Z Z (λr H' ⟨_,_,_,_,_,_,_,e1,e2,_⟩=>by subst e1 e2;exact ⟨Z,Z,Z⟩) Z) Z ?_;rintro _ ⟨r,H',⟨L,O,A,pb,N,M,bs,rfl,rfl,t,u⟩,rfl⟩;refine ch Z Z (J (Cc Z Z Z) (J (Cc Z Z Z) (V (CP 920 vQ Z Z Z Z) (V (Bi Z Z Z Z Z Z Z ve) (AB Z Z (AC ?_))))));refine AD (AD (AF (ch Z Z (J (DJ Z Z Z) (AC (Cq Z (Z) (AU (AD ?_))))))));rw[sS u];refine AF (AB Z Z (AC (AX (IU 6 900 Ao Z Z Z Z (BC (α:=(Nat->Bool)×jh×MF×List Int×Nat) (λq=>⟨66,[(4,(.ptr 920 0 0)),(6,(.own 900 0 q.2.2.2.1.length))],(900,[.rowD 3 1 (q.2.2.2.1.map AE)])::HG L O bs (Gb A (a.map cl.id)) q.2.2.1⟩) (λq=>Ca L O A pb q.2.1 q.2.2.1/\BE q.2.1=jj c a q.1/\EW a.length q.1<=q.2.2.2.2/\q.2.2.2.1.length+q.2.2.2.2<=a.length/\q.2.2.2.1++MX c a q.2.2.2.2 q.1=MX c a a.length λ_=>true) (λq=>q.2.2.2.2) ((λ_=>true,N,M,[],a.length)) (⟨t,u,i9 _ _,by simp,Z⟩) (AR hF [900,920,40,50,51] Z Z ⟨Z,Z,trivial⟩) ?_)))));rintro ⟨K,N,M,l,f⟩ ⟨t,u,hc,hal,w⟩;dsimp only at t u hc hal w⊢;refine AX (AD ?_);have hw:=sL (N:=N) (by rw[u];exact yg v K);have T:=t.w;have hnr:BX M N.nh en 1 ((List.range N.nd.length).map λi=>B4 (A i)):=t.rs.1 .n;have z:=tv bs t hw;have hNl:=sR u;have hixv:QV (Kb N) (List.range N.nd.length)=match FT c a K with | some k=>(k:Int) | none=> -1:=by rw[<-gm,u,sR u];rfl
 rw[sS u,hixv] at z;refine AF (J (AQ Z Z Z Yq Z) (J (Dx Z Z) (J (Cr Z Jl Z Z Z) (J (FE (f:=40) Z Z (T) Z HQ Z) (J (uk Z Z) ?_)))))
 cases hne:FT c a K<;>rw[hne] at z
 .refine V (FX z Z [920,40,50,51] ⟨Z,Z,Z,Z,trivial⟩ Z Z Z Z Z Z Z Z Z) (AB Z Z ?_);refine AC (AD (AD (AF (ch Z Z (J (At Z Z Z) (AC (CM Z (Z) (AD ?_))))))));rw[Ff hne,kY] at w;refine Fb (emb:=AE) 6 900 l Z Z Z Z Z Z Z (AF (ch Z Z (AB Z Z (AB Z Z (AC (A4 ?_))))));exact ⟨_,[],[],A2 Z,Z,Z,by rw[w],Z⟩
 .refine V (FX z Z [920,40,50,51] ⟨Z,Z,Z,Z,trivial⟩ Z Z Z Z Z Z Z Z Z) (AB Z Z (AC ?_));refine AD (AD (AF (ch Z Z (J (At Z Z Z) (AC (Cq Z ((kC (by show ¬((_:Nat):Int)<0;omega))) (AU (AD ?_))))))))
  rename_i i
  obtain ⟨G,hoi,hgr⟩:=It hne;have g:i<N.nd.length:=by rw[hNl];exact G
  obtain ⟨x,C⟩:∃x,N.nd[i]? =some x:=⟨_,ω g⟩
  obtain ⟨_,hon,hit⟩:=qu u C;obtain ⟨rb,rc,X⟩:=Wg hnr (j:=i) (by rw[kp];exact g);have U:=Tt hnr X;have hcn:=H1 G hoi
  obtain ⟨f2,rfl⟩:∃f2,f=f2+1:=⟨f-1,by omega⟩
  have hrs:=HF (f:=f2) hne;have B:=ϖ C;have hxb:=(t.nn i x C).1;have hez:=W4 (t.nn i x C).2.1;have hrx:=(t.nn i x C).2.1;have hxe:=t.e x B;have h1:=t.setNd (x':=FA x) C Z Z Z Z;have S:(N.nd.set i (FA x))[i]? =some (FA x):=by rw[List.getElem?_set_self g]
  have he:=hw.e x B;have hel:=(hw.l x B).1;have hrB:RN N.po 1000000000000000000:=hw.rm;refine AF (J (AQ Z Z Z Yq Z) (J (Dx Z Z) (J (Cr Z Jl Z Z Z) (J (FE (f:=40) Z Z (T) Z HQ Z) (ch Z Z (J (YF X (i) Z Z Z g S1 NU Z) (J (qj (f:=40) (e:=i) (off:=0) Z (by omega) Z (U) ((by rw[ς,mX g];rfl)) Z PS Z) ?_)))))));refine AB Z Z (AC (AD ?_));refine AF (ch Z Z (J (Dx Z Z) (J (Cr Z F8 Z Z Z) (V (Qk (f:=40) Z Z Z Z (hxb) ((by show _<9;omega)) Z v4) (AC (AD (AD (AF ?_))))))));refine ch Z Z (J (Dx Z Z) (J (Cr Z Lc Z Z Z) (J (FE (f:=40) Z Z ((H3 _ _ _)) Z Yn Z) (J (YA hez Z underlying181 Z) (ch Z Z (AC (AX (BC (α:=Nat×List Po×MF) (λq=>⟨66,[(4,(.ptr 920 0 0)),(6,(.own 900 0 l.length)),(8,(.d (pD (A i) 0))),(41,(.d (ji x.eh x.ef.length))),(42,(.d (AE (x.ef.length:Int)))),(43,(.d (AE (q.1:Int))))],(900,[.rowD 3 1 (l.map AE)])::HG L O bs (Gb A (a.map cl.id)) q.2.2⟩) (λq=>q.1<=x.ef.length/\q.2.1=(x.ef.take q.1).foldl Qg N.po/\Ca L O A pb {N with nd:=N.nd.set i (FA x),po:=q.2.1} q.2.2/\RN q.2.1 (1000000000000000000+100000000000000000*(q.1:Int))/\q.2.1.length=N.po.length) (λq=>x.ef.length-q.1) ((0,N.po,Bh M (A i) (Wc (FA x)))) (⟨κ _,Z,h1,by show RN N.po (1000000000000000000+100000000000000000*((0:Nat):Int));simpa using hrB,Z⟩) (AR hF [900,920,40,50,51] Z Z ⟨Z,Z,Z,Z,Z,Z,trivial⟩) ?_))))))));rintro ⟨k,po,M2⟩ ⟨hk0,E,b,hS,s⟩;dsimp only at hk0 E b hS s⊢;refine AD (AF (J (At Z Z Z) (AC (AD (A5 Z (λI=>?_) (λI=>?_))))))
  .have o:k<x.ef.length:=BF I;refine AU (AD (AX (AD ?_)));obtain ⟨eb,ec,hee⟩:=Wg hrx o;have D:=Tt (b.nn i (FA x) S).2.1 hee;have hjl:x.ef[k].1<po.length:=by rw[s];exact hxe.1 _ (ϑ o)
   obtain ⟨y,hy⟩:∃y,po[x.ef[k].1]? =some y:=⟨_,ω hjl⟩
   have Q:=b.p _ y hy;have hys:=hS y (ϖ hy);have heb:=he _ (ϑ o);refine AF ?_;refine J (YF hee (k) Z Z Z o underlying181 UI Z) (J (E6 (f:=40) (e:=k) Z (Z) Z (D) (AP o) Z dp Z) (V (CP 2 c6 Z Z Z Z) (V (Bi Z Z Z Z Z Z Z UI) (AC (Bq [[],[0],[0,1],[0,1,2],[0,1,2,3],[],[5],rg 7,rg 8,rg 9,rg 10] mixed Z (B2 (AK [10] Z (AM Z TU Z Z Z) (A1 [47] [2] Z Z (λ_=>Aa (AQ Z Z Z FR Z)) ?_))))))));refine AK [48] Z (Dx Z Z) (AK [49] Z (Cr Z TR Z Z Z) (A1 [50] [40] Z Z (λ_=>Aa (FE (f:=40) Z Z (Q) Z FJ Z)) (AK [10] Z (AM Z TT Z Z Z) (A1 [52] [2] Z Z (λ_=>Aa (AQ Z Z Z FJ Z)) (BV 7 Z Z Z (A0 8 Z Z (J (Ad Z Z (Ξ _ (by omega)) Z) (AC ⟨Z,?_⟩))))))));refine A0 9 Z Z (J (Dx Z Z) (AC ⟨Z,?_⟩));refine A0 10 Z Z (J (Cr Z TR Z Z Z) (AC ⟨Z,?_⟩));refine A0 11 Z Z (V (Qk (f:=40) Z Z Z Z (Q) ((by show _<10;omega)) Z xY) (AC ⟨Z,?_⟩));refine Bb (AF (J (Ad Z Z (AJ (k+1) (by omega)) Z) (ch Z Z (AC ?_))));exact ⟨(k+1,po.set x.ef[k].1 {y with room:=y.room+x.ef[k].2},Bh M2 (pb x.ef[k].1) (Wa {y with room:=y.room+x.ef[k].2})),⟨by show k+1<=_;omega,by show po.set _ _=_;rw[Mw o,<-E,q5 hy],b.setPo hy Z Z,by show RN _ (1000000000000000000+100000000000000000*((k+1:Nat):Int));exact aa hS (by omega) (by show _<=y.room+x.ef[k].2/\y.room+x.ef[k].2<=_;omega),by show (po.set _ _).length=_;rw[kn];exact s⟩,by show x.ef.length-(k+1)<x.ef.length-k;omega,AR hF [900,920,40,50,51] Z (Z) ⟨Z,Z,Z,Z,Z,Z,trivial⟩⟩
  .refine Aq ?_;have Y:po=x.ef.foldl Qg N.po:=by rw[E,θ (by have h:=I;omega)]
   have hR2:Ca L O A pb (wg N i x) M2:=by unfold wg;rw[<-Y];exact b
   have R:=(b.nn i (FA x) S).1;refine AF (ch Z Z ?_);refine ch Z Z (J (Dx Z Z) (J (Cr Z G7 Z Z Z) (J (Cr Z QW Z Z Z) (J (FE (f:=40) Z Z (R) Z Ai Z) (V (CF 3 Ao Z Z Z Z Z Z Z Z) (V (DN (l) ([x.it.id]) Z Z Z Z Z Z Z Z Ao (by simp only[ζ];omega) Z Z Z Z) (AB Z Z (AC ?_))))))));exact ⟨(BB K i,wg N i x,M2,l++ [x.it.id],f2),⟨hR2,yA v.r u G hoi C,by show EW a.length (BB K i)<=f2;omega,by show (l++ [x.it.id]).length+f2<=_;rw[Δ];simp;omega,by show (l++ [x.it.id])++MX c a f2 (BB K i)=_;rw[lh,<-w,hrs,hit];rfl⟩,by show f2<f2+1;omega,AR hF [900,920,40,50,51] Z (Z) ⟨Z,Z,trivial⟩⟩
def WZ(a:List UInt8):W7:=⟨a,0,[67,65,83,72]⟩
def Q3(id:Int)(a b:List UInt8)(n:Int):cl:=⟨id,0,id,[⟨WZ a,0-n⟩,⟨WZ b,n⟩],[],[]⟩
deriving instance DecidableEq for I5
theorem I5.eq_iff{x y:I5}:x=y↔x.id=y.id/\x.re=y.re/\x.r=y.r/\x.by_=y.by_:=by cases x;cases y;simp
def oN(a:UInt8):AW:=⟨0,WZ [a],[],[]⟩
def wT:List (List UInt8):=[[65],[66],[67]]
def Sj:List ey:=[⟨oN 65,0⟩,⟨oN 66,0⟩,⟨oN 67,0⟩]
theorem wo(a:List ey)(b:List cl)(c:Nat->Bool):BE (iW a b c)=iW a b c:=by
 unfold BE iW;dsimp only;rw[jw,jw]
 rfl
theorem SL(n:Nat):EW n (λ_=>true)=n:=by
 unfold EW;rw[qy.2 λ_ _=>rfl,kp]
theorem nz(u:(a.map cl.id).Nodup):∀(f:Nat) (b:Nat->Bool),(FF c a f b).1.length+EW a.length (FF c a f b).2=EW a.length b:=by
 intro f
 induction f with
 | zero=>intro b;show 0+_=_;rw[lU];rfl
 | succ f s=>
  intro b
  cases hn:Dj (iW c a b) with
  | none=>rw[Ky hn];show 0+_=_;rw[lU]
  | some e=>
   obtain ⟨i,x,t,j,o⟩:=OR hn;obtain ⟨g,h,k⟩:=MH (wo c a b) t;rw[j] at h;have l:i<(a.map cl.id).length:=by rw[χ];exact g
   have r:(a.map cl.id)[i]=e.id:=by rw[o,k,kT,Dy ek g]
   rw[Kw hn,<-r,Fi u l];have w:=s (BB b i);have v:=H1 g h.symm;show (FF c a f (BB b i)).1.length+1+EW a.length (FF c a f (BB b i)).2=EW a.length b;omega
theorem bM(p:hU):(fl p).length=EW (hJ p).length (JJ p).2:=by
 unfold fl BS EW;rw[χ]
theorem iD(a:Ac g=0):(JJ g).1.length+(fl g).length=g.it.length:=by grind[hJ,nz,F4,SL,bM,JJ,Nr]
theorem Hq(a:Ac g=0):fl g=((hJ g).map cl.id).filter λx=>decide (x∈fl g):=Ss (F4 a) _
theorem Ro(b:Ac g=0)(a:z∈fl g):z∈g.it.map cl.id:=by grind[hJ,Hq,Js]
theorem G3(a:Ac g=0):(fl g).Nodup:=by
 rw[Hq a];exact (F4 a).sublist lj
theorem Ef(a:Ac g=0):(fl g).length<=g.it.length:=by have:=iD a;omega
theorem vE{c b:Type}(f:c->b)(q:b->Bool):∀l:List c,(l.map f).filter q=(l.filter λa=>q (f a)).map f
 | []=>rfl
 | a::l=>by
  rw[k6,l5,l5,vE f q l]
  split<;>rfl
theorem Ix{b:Type}{f g:b->Int}:∀{l:List b},(∀x∈l,f x=g x)->(l.map f).sum=(l.map g).sum
 | [],_=>rfl
 | a::l,h=>by
  rw[k6,k6,lS,lS,h a k7,Ix λx c=>h x (kw _ c)]
structure QT (R:Int->Int->Prop) (l Y:List ey):Prop where
 len:Y.length=l.length
 at_:∀(j:Nat) x y,l[j]? =some x->Y[j]? =some y->y.r=x.r/\ -4*Mx<=y.n/\y.n<=4*Mx/\R x.n y.n
theorem QT.start(h:∀o∈j,-4*Mx<=o.n/\o.n<=4*Mx/\R o.n o.n):QT R j j:=
 ⟨Z,λa x y c b=>by
  rw[c] at b;injection b with b;subst b
  have:=h x (ϖ c)
  exact ⟨Z,this⟩⟩
theorem QT.set(h:QT R j Y)(g:y<Y.length){n:Int}(i: -4*Mx<=n/\n<=4*Mx)(o:∀x,R x Y[y].n->R x n):QT R j (Y.set y ⟨Y[y].r,n⟩):=
 ⟨by rw[kn];exact h.len,λb x a f c=>by
  rw[nC] at c
  split at c
  .rename_i e;subst e
   first | (rw[ϱ g] at c;injection c with c;subst c) | (injection c with c;subst c)
   have:=h.at_ y x _ f (ω g);exact ⟨this.1,i.1,i.2,o _ this.2.2.2⟩
  .exact h.at_ b x a f c⟩
theorem QT.map(h:QT R j Y):Y.map ey.r=j.map ey.r:=by
 refine lg (by rw[χ,χ,h.len]) λa c b=>?_;rw[χ] at c b;rw[kT,kT];exact (h.at_ a _ _ (ω b) (ω c)).1
theorem QT.mem(h:QT R j Y):∀y∈Y,∃x∈j,y.r=x.r/\ -4*Mx<=y.n/\y.n<=4*Mx/\R x.n y.n:=λy f=>by
 obtain ⟨a,c,rfl⟩:=mK.1 f;have b:a<j.length:=by rw[<-h.len];exact c
 exact ⟨j[a],ϑ b,h.at_ a _ _ (ω b) (ω c)⟩
theorem QT.b(h:QT R j Y)(a:y<Y.length): -4000000000000000<=Y[y].n/\Y[y].n<=4000000000000000:=by
 obtain ⟨x,_,_,c,b,_⟩:=h.mem _ (ϑ a)
 grind
theorem Uz(b:h.Nodup)(c:A<h.length):h[A]∉h.take A:=λa=>by
 obtain ⟨i,f,e⟩:=mz.1 a;rw[List.Nodup,l4] at b;exact b i A (by omega) c (by omega) e
theorem MA:OA k=0↔(∀x∈k.af,(0<=x/\x<=1000000000)/\x≠k.id)/\k.af.Nodup:=by
 unfold OA;rw[Tu]
 constructor
 .intro h
  have f:∀c (g:c<k.af.length),(0<=k.af[c]/\k.af[c]<=1000000000)/\k.af[c]≠k.id/\k.af[c]∉k.af.take c:=λc g=>by
   have:=h c (Ω.2 g)
   grind[NO]
  refine ⟨λx j=>?_,?_⟩
  .obtain ⟨c,g,rfl⟩:=mK.1 j
   grind
  .rw[List.Nodup,l4];intro a b r l o e;exact (f b l).2.2 (mz.2 ⟨a,by omega,e⟩)
 grind[ϑ,NO,Uz]
theorem Ti(l:List Int)(h:Aw k=0):Aw (GZ l k)=0:=by
 obtain ⟨a,y,w,v,r,o,j,g,f⟩:=EY h
 have c:OA (GZ l k)=0:=by
  obtain ⟨t,s⟩:=MA.1 j;exact MA.2 ⟨λx b=>t x (Φ.1 b).1,List.Nodup.sublist lj s⟩
 have u:(Qb l k.af).length<=k.af.length:=lE _ _;have B:=a.po;have A:=a.pa;have z:=a.af;unfold Aw;rw[ν (by show ¬(¬(0<=k.id/\k.id<=1000000000)\/¬(0<=k.sq/\k.sq<=1000000000)\/¬(0<=k.pr/\k.pr<=2));omega),ν (by show ¬(256<k.po.length\/256<k.pa.length\/256<(Qb l k.af).length);omega)];show BM [GA k,LF k,OA (GZ l k),Lz k,NK k]=0;rw[r,o,c,g,f];rfl
theorem X1{j:cl}:j∈EF h a↔∃i∈a,i.id∉h/\GZ h i=j:=by grind[EF,Jz]
theorem XB(l:List Int)(a:List cl):(EF l a).map cl.id=(a.map cl.id).filter λx=>!decide (x∈l):=by
 unfold EF;rw[jw,vE];rfl
theorem XA(l:List Int)(a:List cl):(EF l a).map cl.sq=(a.filter λi=>!Jz l i).map cl.sq:=by
 unfold EF;rw[jw];rfl
theorem Gj{x:Int}:x∈(EF h a).map cl.id↔x∈a.map cl.id/\x∉h:=by
 rw[XB,Φ];simp
def sP(p:hU)(l:List Int):hU:=⟨Jv p l,EF l p.it⟩
theorem VT(c:Ac g=0)(b:z∈(sP g h).it.map cl.id):hG (sP g h) z=GZ h (hG g z):=by
 have f:=YE (IL c).2.1;obtain ⟨o,_,r,w⟩:=Zj b
 have j:hG (sP g h) z∈EF h g.it:=by
  rw[r];exact ϑ o
 obtain ⟨i,s,_,v⟩:=X1.1 j;have a:z∈g.it.map cl.id:=(Gj.1 b).1;obtain ⟨k,_,u,t⟩:=Zj a
 grind[OX,ϑ,GZ]
theorem Ki(l:List Int)(h:Aw k=0)(r:AW):BO (GZ l k) r=BO k r:=by
 unfold BO;rw[Ti l h,h];rfl
theorem Y5(l:List Int)(a:Ac g=0):ea (sP g l).it=((ea g.it).filter λi=>!Jz l i).map (GZ l):=by
 have b:=(IL a).2.1;refine (Sr ?_ ?_ ?_).symm
 .show ((EF l g.it).map cl.sq).Nodup;rw[XA];exact List.Nodup.sublist (List.filter_sublist.map _) (JB b)
 .exact ((Js g.it).filter _).map _
 .rw[ky];exact (List.Pairwise.sublist lj (Ku g.it)).imp λh=>h
theorem oP(l:List Int)(b:Ac g=0)(r:AW):hY (ea (sP g l).it) r=(hY (ea g.it) r).filter λx=>!decide (x∈l):=by
 rw[Y5 l b];unfold hY;rw[vE,jw,vE,List.filter_filter,List.filter_filter];have a:(cl.id∘GZ l)=cl.id:=rfl;rw[a]
 congr 1
 refine lr λi f=>?_;have c:i∈g.it:=(Js g.it).mem_iff.1 f;rw[Ki l (G4 (IL b).2.1 i c)];exact Bool.and_comm _ _
def lp(i:Int)(q:List Int):List Int:=if i∈q then q.takeWhile λa=>decide (a≠i) else []
theorem Zc{id:Int}:B6 g h id=none↔(∀x∈g.ro,∀a∈lp id (hY (ea g.it) x.r),a∈h)/\∀a∈(hG g id).af,a∈h:=by grind[kF,lp,qg,B6,Option.map_eq_none_iff]
theorem iA:DY g h↔(∀id∈h,(∀x∈g.ro,∀a∈lp id (hY (ea g.it) x.r),a∈h)/\∀a∈(hG g id).af,a∈h)/\∀x∈g.ro,0<=CO g.it x h:=by
 unfold DY;exact ⟨λb=>⟨λid c=>Zc.1 (b.1 id c),λx f=>by have:=b.2 x f;omega⟩,λb=>⟨λid c=>Zc.2 (b.1 id c),λx f=>by have:=b.2 x f;omega⟩⟩
theorem UJ(u S:List Int)(k:∀x∈S,x∉u)(f:cl->Int):∀b:List cl,((b.filter λi=>decide (i.id∈u++S)).map f).sum=((b.filter λi=>decide (i.id∈u)).map f).sum+((b.filter λi=>!decide (i.id∈u) && decide (i.id∈S)).map f).sum
 | []=>rfl
 | a::l=>by
  have j:=UJ u S k f l;rw[l5,l5,l5]
  by_cases c:a.id∈u
  .rw[Υ (show a.id∈u++S from υ.2 (.inl c)),Υ c];simp only[if_true,Bool.not_true,Bool.false_and,Bool.false_eq_true,if_false,k6,lS];omega
  .by_cases g:a.id∈S
   .rw[Υ (show a.id∈u++S from υ.2 (.inr g)),kC c,Υ g];simp only[if_true,Bool.not_false,Bool.true_and,Bool.false_eq_true,if_false,k6,lS];omega
   .rw[kC (show ¬a.id∈u++S from λh=>(υ.1 h).elim c g),kC c,kC g];simp only[Bool.not_false,Bool.and_false,Bool.false_eq_true,if_false];exact j
theorem Vs(b:Ac g=0)(c:k∈g.it){r:AW}(a:CD r=0):BO k r=Ag (js k) r:=by
 unfold BO;rw[ϱ ⟨G4 (IL b).2.1 k c,a⟩]
section
variable{P:Program}{F:Fr}{s:AS}{d:Nat}{ty:TypeId}{pos:String}{aft:Array Edge}{g:Option (Nat×Bool)}{at_:Array TypeId}
end
variable{a:hU}{c:List cl}{f:List ey}{g:Nat->Bool}{u:List Int}{i:Nat}{G:List Int}{h:Type}{j:List h}{k:Nat}{o:Bool}{s t:List Int}{w:Nat}{x:hU}{y:ey}{z:Int}{A:Type}
def jg(p:hU):List Int:=(ea p.it).map cl.id
def nX(id:Int)(y:cl):cl:=⟨y.id,y.pr,y.sq,y.po,y.pa,BP y.af id⟩
def EG(id:Int)(its:List cl):List cl:=(its.filter λy=>decide (y.id≠id)).map (nX id)
def Si(p:hU)(id:Int):hU:=⟨p.ro.map λx=>⟨x.r,x.n+BO (hG p id) x.r⟩,EG id p.it⟩
theorem Ox{id:Int}(a:k<c.length):EG id (c.take (k+1))=EG id (c.take k)++if c[k].id=id then [] else [nX id c[k]]:=by grind[EG,cO]
theorem RC(id:Int)(a:List cl):(EG id a).length<=a.length:=by
 unfold EG
 grind
theorem n4{f:h->A}(c:k<j.length){b:List A}(a:b=(j.take k).map f):b++ [f j[k]]=(j.take (k+1)).map f:=by
 rw[ψ c,jy,a];rfl
theorem sr(p:hU)(A:CT p)(D:∀x∈p.ro,-100000000000000000<=x.n/\x.n<=100000000000000000)(id:Int)(E:id∈p.it.map cl.id):AI prog 56 [.d (BG p),.d (AE id)] (BG (Si p id)):=by
 have N:=A.i;have M:=A.r;obtain ⟨t,G,u,I⟩:=Zj E;have v:=Pk p id (by omega);rw[G] at v;have B:hG p id∈p.it:=by rw[u];exact ϑ t
 have s:(p.it.map Ah)[List.idxOf id (p.it.map cl.id)]? =some (Ah (hG p id)):=by rw[AP t,u]
 have C:=A.x _ B;have o:Si p id=⟨p.ro.map λx=>⟨x.r,x.n+BO (hG p id) x.r⟩,EG id p.it⟩:=rfl;rw[o]
 obtain ⟨X,Q⟩:∃X,hG p id=X:=⟨_,Z⟩
 rw[Q] at s C⊢;refine As func56 Z Z ntmps56 Z Z Z λF z=>(AD (AF ?_));refine V (B7 1 Z Z Z Z Z Z Z) (V (CP 2 vJ Z Z Z Z) (AC (AD (Bq [[],[0],[],[],[2,3],rg 5,rg 6,[],rg 8] mixed Z (B2 (AK [2] Z (AM Z I7 Z Z Z) (A1 [10] [1] Z Z (λ_=>Aa (AQ Z Z Z Cz Z)) (A1 [2] [1] Z Z (λ_=>Aa (Ap Z Z By Z Z Z)) ?_))))))));refine A7 1 Z Z (AK [12,13] Z (Aj (v) Z Z) (AK [11,14] Z (Al (List.idxOf id (p.it.map cl.id)) Z Z (Z) (s) F0 Z CL Z) (AK [15] Z (CY Z Z F1 Z) (Cv [] [3] [(5,_)] Z Z (λ_=>Cg (CP 3 Zv Z Z Z Z)) (.inr ⟨5,_,Z,Z,Z,Z,Z⟩) Z Z Z Z Z (BV 8 Z Z Z (A0 9 Z Z (V (Bi Z Z Z Z Z Z Z CL) (AC ⟨Z,?_⟩))))))));refine Bb (AD (AF (V (CP 4 vJ Z Z Z Z) ?_)));refine AC (AD (AD (D0 4 0 0 901 Fx Z Z Z Z Z Z Z (AF (AB Z Z (AC (AX (BC (α:=Nat×List ey) (λq=>⟨79,[(1,.d (AE id)),(2,(.ptr 1 0 0)),(4,(.ptr 2 0 0)),(5,(.ptr 3 0 0)),(6,(.ptr 4 0 0)),(7,(.d (AE (q.1:Int))))],[(901,[.rowD 100 7 (q.2.map BY)]),(1,[B3 25 p]),(2,[.blk 25 [Gh,Gh]]),(3,[oz 93 X]),(4,[.blk 25 [.own 901 0 q.2.length,Gh]])]⟩) (λq=>q.1<=p.ro.length/\q.2=(p.ro.take q.1).map λx=>⟨x.r,x.n+BO X x.r⟩) (λq=>p.ro.length-q.1) ((0,[])) (⟨κ _,Z⟩) (AR z [901,1,2,3,4] Z Z ⟨Z,Z,Z,Z,Z,Z,trivial⟩) ?_))))))));rintro ⟨k,b⟩ ⟨g,c⟩;dsimp only at g c⊢;refine AD ?_;refine AD (AF (ch Z Z (J (AM Z MD Z Z Z) (J (AQ Z Z Z E3 Z) (J (BU Z No Z) (J (At Z Z Z) (AC (A5 Z (λl=>?_) (λl=>?_)))))))))
 .have a:k<p.ro.length:=BF l;refine AU (AD (AX ?_));have H:b.length<=100:=by rw[c,χ,η];omega
  have O:=Ls X p.ro[k].r;have K:=D _ (ϑ a);refine Bq [[],[0],[],[2],[],[2,3,4],[2,3,4,5],[2,3,4,5,6],[],[8],[],[8,9,10],[8,9,10,11],[8,9,10,11,12],[],[],[15],[],[15,16,17],[15,16,17,18],[15,16,17,18,19],[14,15,16,17,18,19,20],[8,9,10,11,12,13,14,15,16,17,18,19,20,21],[2,3,4,5,6,7,8,9,10,11,12,13,14,15,16,17,18,19,20,21,22],[2,3,4,5,6,7,8,9,10,11,12,13,14,15,16,17,18,19,20,21,22,23],rg 25,rg 26,rg 27] mixed Z (B2 (AK [6] Z (AM Z MD Z Z Z) (A1 [24] [4] Z Z (λ_=>Aa (AQ Z Z Z E3 Z)) ?_)));refine AK [2] Z (AM Z MD Z Z Z) (A1 [26] [1] Z Z (λ_=>Aa (AQ Z Z Z E3 Z)) (A7 7 Z Z (AK [27,28] Z (Al (k) Z Z (Z) (AP a) No Z Bc Z) (AK [29] Z (KL Z Qh Z Z Z) (AK [30] Z (CY Z Z Cf Z) (AK [2] Z (AM Z MD Z Z Z) (A1 [32] [1] Z Z (λ_=>Aa (AQ Z Z Z E3 Z)) (A7 7 Z Z ?_))))))));refine AK [33,34] Z (Al (k) Z Z (Z) (AP a) No Z Bc Z) (AK [35] Z (Gw Z Jn Z Z Z) (AK [36] Z (BZ Z Z FJ Z) (A1 [5] [3] Z Z (λ_=>Aa (Ap Z Z F1 Z Z Z)) (AK [2] Z (AM Z MD Z Z Z) (A1 [39] [1] Z Z (λ_=>Aa (AQ Z Z Z E3 Z)) (A7 7 Z Z (AK [40,41] Z (Al (k) Z Z (Z) (AP a) No Z Bc Z) (AK [42] Z (KL Z Qh Z Z Z) ?_))))))));refine AK [43] Z (CY Z Z Cf Z) (AK [38,44] Z (Aj (E9 X p.ro[k].r (by omega) (by omega) (by omega)) Z Z) (AK [37,45] Z (Ad Z Z (Ξ _ (by omega)) Z) (AK [31,46] Z (Dz vS wH Z Z Z) (Cv [47] [50] [(48,_)] Z Z (λ_=>Cg (CF 50 Fx Z Z Z Z Z Z Z Z)) (.inr ⟨48,_,Z,Z,Z,Z,Z⟩) Z Z Z Z Z (BV 25 Z Z Z (A0 26 Z Z (V (DN (b) ([⟨p.ro[k].r,p.ro[k].n+BO X p.ro[k].r⟩]) Z Z Z Z Z Z Z Z Fx (by simp only[ζ];omega) Z Z Z Z) (AC ⟨Z,?_⟩))))))));refine A0 27 Z Z (J (AM Z MD Z Z Z) (AC ⟨Z,?_⟩));refine A0 28 Z Z (V (Bi Z Z Z Z Z Z Z xX) (AC ⟨Z,?_⟩));refine Bb (AF (ch Z Z (J (Ad Z Z (AJ (k+1) (by omega)) Z) (AB Z Z (AC ?_)))));exact ⟨(k+1,b++ [⟨p.ro[k].r,p.ro[k].n+BO X p.ro[k].r⟩]),⟨by show k+1<=_;omega,n4 (f:=λx=>(⟨x.r,x.n+BO X x.r⟩:ey)) a c⟩,by show p.ro.length-(k+1)<p.ro.length-k;omega,AR z [901,1,2,3,4] Z (Z) ⟨Z,Z,Z,Z,Z,Z,trivial⟩⟩
 .refine Aq (AD (AD ?_));have w:b=p.ro.map λx=>⟨x.r,x.n+BO X x.r⟩:=by rw[c,θ (by have h:=l;omega)]
  subst w;refine qe (ys:=(p.ro.map λx=>(⟨x.r,x.n+BO X x.r⟩:ey)).map BY) 4 0 0 901 Z Z Z (by simp) (θ (by simp)) Z Z Z Z Z Z (D0 4 0 1 902 MT Z Z Z Z Z Z Z (AF (AB Z Z (AC (AX (BC (α:=Nat×List cl) (λq=>⟨79,[(1,.d (AE id)),(2,(.ptr 1 0 0)),(4,(.ptr 2 0 0)),(6,(.ptr 4 0 0)),(8,(.d (AE (q.1:Int))))],[(902,[.rowD 93 6 (q.2.map Ah)]),(1,[B3 25 p]),(2,[.blk 25 [Gh,Gh]]),(4,[.blk 25 [.d (.sl none ((p.ro.map λx=>(⟨x.r,x.n+BO X x.r⟩:ey)).map BY)),.own 902 0 q.2.length]])]⟩) (λq=>q.1<=p.it.length/\q.2=EG id (p.it.take q.1)) (λq=>p.it.length-q.1) ((0,[])) (⟨κ _,Z⟩) (AR z [902,1,2,4] Z Z ⟨Z,Z,Z,Z,Z,trivial⟩) ?_))))));rintro ⟨k,b⟩ ⟨g,c⟩;dsimp only at g c⊢;refine AD ?_;refine AD (AF (ch Z Z (J (AM Z I7 Z Z Z) (J (AQ Z Z Z Cz Z) (J (BU Z F0 Z) (J (At Z Z Z) (AC (A5 Z (λj=>?_) (λj=>?_)))))))))
  .have a:k<p.it.length:=BF j;refine AU (AD (AX (AD ?_)));have H:b.length<=30:=by rw[c];have:=RC id (p.it.take k);rw[η] at this;omega
   have L:=A.x _ (ϑ a);refine AF (J (AM Z I7 Z Z Z) (J (AQ Z Z Z Cz Z) (ch Z Z (J (Al (k) Z Z (Z) (AP a) F0 Z CL Z) (J (CY Z Z F1 Z) (V (CP 6 Zv Z Z Z Z) (V (Bi Z Z Z Z Z Z Z CL) ?_)))))));refine AC (AD (AF (J (AM Z QP Z Z Z) (J (AQ Z Z Z Ai Z) (ch Z Z (J (DJ Z Z Z) (AC (A5 Z (λi=>?_) (λi=>?_)))))))))
   .refine AD (AF (J (AM Z DD Z Z Z) (J (AQ Z Z Z BL Z) (ch Z Z ?_))));refine J (Aj (Qp p.it[k].af id (by omega)) Z Z) (J (AM Z DD Z Z Z) (V (Bi Z Z Z Z Z Z Z DQ) (AC (AF (J (AM Z I7 Z Z Z) (J (AQ Z Z Z Cz Z) (J (Ap Z Z F1 Z Z Z) (V (CF 51 MT Z Z Z Z Z Z Z Z) ?_))))))));refine V (DN (b) ([nX id p.it[k]]) Z Z Z Z Z Z Z Z MT (by simp only[ζ];omega) Z Z Z Z) (J (AM Z I7 Z Z Z) (V (Bi Z Z Z Z Z Z Z xW) (AC (AF (ch Z Z (J (Ad Z Z (AJ (k+1) (by omega)) Z) (AB Z Z (AC ?_))))))));exact ⟨(k+1,b++ [nX id p.it[k]]),⟨by show k+1<=_;omega,by show _=EG id (p.it.take (k+1));rw[Ox a,ν (by simpa using i),c]⟩,by show p.it.length-(k+1)<p.it.length-k;omega,AR z [902,1,2,4] Z (Z) ⟨Z,Z,Z,Z,Z,trivial⟩⟩
   .refine AU (AF (ch Z Z (J (Ad Z Z (AJ (k+1) (by omega)) Z) (AB Z Z (AC ?_)))));exact ⟨(k+1,b),⟨by show k+1<=_;omega,by show _=EG id (p.it.take (k+1));rw[Ox a,ϱ (by simpa using i),kY,c]⟩,by show p.it.length-(k+1)<p.it.length-k;omega,AR z [902,1,2,4] Z (Z) ⟨Z,Z,Z,Z,Z,trivial⟩⟩
  .refine Aq (AD ?_);have y:b=EG id p.it:=by rw[c,θ (by have h:=j;omega)]
   subst y;refine qe (ys:=(EG id p.it).map Ah) 4 0 1 902 Z Z Z (by simp) (θ (by simp)) Z Z Z Z Z Z (AF (J (Ap Z Z By Z Z Z) (V (Bi Z Z Z Z Z Z Z v8) (AC (A4 ?_)))));exact ⟨_,[],[],A2 Z,Z,Z,Z,Z⟩
structure xE (p:hU) (b:Int):Prop where
 f:CT p
 r:(p.ro.map ey.r).Nodup
 n:∀x∈p.ro,-b<=x.n/\x.n<=b
theorem xE.set{b:Int}(h:xE a b)(id:Int):xE (Si a id) (b+1000000000000000):=by
 refine ⟨⟨?_,?_,λx g=>?_⟩,?_,λx g=>?_⟩
 .have:=RC id a.it;have c:=h.f.i;show (EG id a.it).length<=30;omega
 .show (a.ro.map _).length<=100;rw[χ];exact h.f.r
 .obtain ⟨y,f,rfl⟩:=Γ.1 g;have c:=h.f.x y (Φ.1 f).1;exact ⟨c.1,c.2.1,jp (lE _ _) c.2.2⟩
 .show ((a.ro.map _).map ey.r).Nodup;rw[jw];exact h.r
 .obtain ⟨y,f,rfl⟩:=Γ.1 g;have c:=h.n y f;have i:=Ls (hG a id) y.r
  grind
noncomputable def kJ:Nat->hU->List Int
 | 0,_=> []
 | f+1,p=>match (jg p).find? λid=>decide (DY p [id]) with
  | none=> []
  | some id=>id::kJ f (Si p id)
theorem aX{id:Int}(h:id∈jg a):(jg (Si a id)).length+1<=(jg a).length:=by
 have b:id∈a.it.map cl.id:=((Js a.it).map cl.id).mem_iff.1 h;unfold jg;rw[χ,χ,Nr,Nr];show (EG id a.it).length+1<=_;unfold EG;rw[χ];obtain ⟨y,c,e⟩:=Γ.1 b
 have g:(a.it.filter λy=>decide (y.id≠id)).length≠a.it.length:=λf=>by
  simp_all
 grind
structure GI (G:List Int) (p:hU) (acc:List Int) (f:Nat) (ag:Bool):Prop where
 m:xE p (34000000000000000-1000000000000000*(f:Int))
 l:(jg p).length<=f
 a:acc.length+f<=30
 v:(ag=true->acc++kJ f p=G)/\(ag=false->acc=G)
def GJ(p:hU)(acc:List Int)(i:Nat)(p2:hU)(acc2:List Int)(ag:Bool):Prop:=
 (ag=false/\p2=p/\acc2=acc/\∀id∈(jg p).take i,¬DY p [id])\/(ag=true/\∃id,(jg p).find? (λid=>decide (DY p [id]))=some id/\p2=Si p id/\acc2=acc++ [id])
theorem Nh{f:Nat}(h:(jg a).find? (λid=>decide (DY a [id]))=none):kJ f a=[]:=by
 cases f with
 | zero=>rfl
 | succ f=>unfold kJ;rw[h]
theorem Ng{id:Int}(h:(jg a).find? (λid=>decide (DY a [id]))=some id):kJ (w+1) a=id::kJ w (Si a id):=by
 show (match (jg a).find? (λid=>decide (DY a [id])) with | none=>_ | some id=>_)=_;rw[h]
theorem gu(h:GI G a t w true)(y:GJ a t i x s o)(c:o=true\/¬i<(jg a).length):GI G x s (if o=true then w-1 else w) o:=by
 rcases y with ⟨rfl,rfl,rfl,r⟩ | ⟨rfl,id,u,rfl,rfl⟩
 .rcases c with c | c
  .cases c
  .rw[θ (by omega)] at r;have z:=Nh (f:=w) (HU (l:=jg x) (p:=λid=>decide (DY x [id])) λb v=>kC (r b v));have j:=h.v.1 rfl;rw[z,kY] at j;exact ⟨h.m,h.l,h.a,⟨λe=>(by cases e),λ_=>j⟩⟩
 .have k:=List.mem_of_find?_eq_some u;have C:=h.l;have A:=aX k
  obtain ⟨g,rfl⟩:∃g,w=g+1:=⟨w-1,by omega⟩
  have j:=h.v.1 rfl;rw[Ng u] at j;have B:=h.m.set id;have D:=h.a;refine ⟨?_,?_,?_,⟨λ_=>?_,λe=>(by cases e)⟩⟩
  all_goals (grind)
theorem sk(a:i<j.length):(j.drop i).take (i+1-i)=[j[i]]:=by
 rw[show i+1-i=1 by omega,mM a];rfl
theorem uH(h:GI G a t w true)(c:GJ a t i x s o)(g:o=true):0<w:=by
 rcases c with ⟨j,_⟩ | ⟨_,id,b,_,_⟩
 .grind
 .have:=List.length_pos_of_mem (List.mem_of_find?_eq_some b);have:=h.l;omega
theorem ZU(h:GI G a t w true)(b:GJ a t i x s o):2*(if o=true then w-1 else w)+(if o=true then 1 else 0)<2*w+1:=by
 rcases Bool.eq_false_or_eq_true o with e | e
 .have:=uH h b e
  grind
 .rw[e];simp
theorem ba(p:hU)(z:xE p 4000000000000000):AI prog 16 [.d (BG p)] (.sl none ((kJ 30 p).map AE)):=by
 have D:(jg p).length<=30:=by unfold jg;rw[χ,Nr];exact z.f.i
 obtain ⟨G,O⟩:∃G,kJ 30 p=G:=⟨_,Z⟩
 rw[O];refine As func16 Z Z ntmps16 Z Z Z λF u=>(AD (AF (V (B7 1 Z Z Z Z Z Z Z) (AB Z Z (AC (AD (AF (AB Z Z ?_))))))));refine AC (AD (AD (IU 3 900 Ao Z Z Z Z (AF (AB Z Z (AC (AX (BC (α:=hU×List Int×Nat×Bool) (λq=>⟨41,[(1,(.ptr 1 0 0)),(3,(.own 900 0 q.2.1.length)),(4,(.d (Am q.2.2.2)))],[(900,[.rowD 3 1 (q.2.1.map AE)]),(1,[B3 25 q.1])]⟩) (λq=>GI G q.1 q.2.1 q.2.2.1 q.2.2.2) (λq=>2*q.2.2.1+(if q.2.2.2=true then 1 else 0)) ((p,[],30,true)) (⟨⟨z.f,z.r,λx c=>by have:=z.n x c;show -(34000000000000000-1000000000000000*((30:Nat):Int))<=x.n/\x.n<=34000000000000000-1000000000000000*((30:Nat):Int);omega⟩,D,Θ _,⟨λ_=>O,λe=>(by cases e)⟩⟩) (AR u [900,1] Z Z ⟨Z,Z,Z,trivial⟩) ?_))))))));rintro ⟨p,a,f,Q⟩ b;dsimp only at b⊢;refine AD (AD (AF (ch Z Z (AC (KB Z (λE=>?_) (λE=>?_))))))
 .refine AU (AX (AD ?_));have o:Q=true:=by simpa using E
  subst o;have S:=b.m.f.i;have co:AI prog 54 [.d (BG p)] (.sl none ((jg p).map AE)):=R8 p (by omega);have T:=b.a;have M:=λl I H=>TW p b.m.f b.m.r (λx c=>by have:=b.m.n x c;omega) l I H;have K:=λid h=>sr p b.m.f (λx c=>by have:=b.m.n x c;omega) id h;have U:=b.l;refine AF (AB Z Z (AC (AD (AF (J (Ap Z Z By Z Z Z) ?_)))));refine J (Aj (co) Z Z) (AB Z Z (AC (AD (AF (AB Z Z (AC (AX (BC (α:=Nat×hU×List Int×Bool) (λq=>⟨41,[(1,(.ptr 1 0 0)),(3,(.own 900 0 q.2.2.1.length)),(4,(.d (Am q.2.2.2))),(5,(.d (.sl none ((jg p).map AE)))),(6,(.d (AE (q.1:Int))))],[(900,[.rowD 3 1 (q.2.2.1.map AE)]),(1,[B3 25 q.2.1])]⟩) (λq=>q.1<=(jg p).length/\GJ p a q.1 q.2.1 q.2.2.1 q.2.2.2) (λq=>(jg p).length-q.1) ((0,p,a,false)) (⟨κ _,.inl ⟨Z,Z,Z,by simp⟩⟩) (AR u [900,1] Z Z ⟨Z,Z,Z,Z,Z,trivial⟩) ?_))))))));rintro ⟨i,A,j,g⟩ ⟨C,t⟩;dsimp only at C t⊢;refine AD (AD (AF (ch Z Z (ch Z Z (J (BU Z E0 Z) (J (At Z Z Z) ?_))))))
  by_cases k:i<(jg p).length
  .refine ch Z Z (Co 14 Z ((Υ (by omega))) (AT Z Z Z (ch Z Z (AT Z Z Z (J (QX Z Z) (J (B8 Z Z Z Z) (AC (KB Z (λs=>?_) (λs=>?_)))))))))
   .refine AU (AD (AX (AD ?_)));have w:g=false:=by simpa using s
    subst w;obtain ⟨B,y,N⟩:p=A/\a=j/\∀id∈(jg p).take i,¬DY p [id]:=by rcases t with ⟨_,I,H,W⟩ | ⟨h,_⟩;exact ⟨I.symm,H.symm,W⟩;cases h
    subst B y;have v:(jg p)[i]∈p.it.map cl.id:=((Js p.it).map cl.id).mem_iff.1 (ϑ k);have L:AI prog 55 [.d (BG p),.d (.sl none ((((jg p).drop i).take (i+1-i)).map AE))] (Am (decide (DY p [(jg p)[i]]))):=by rw[sk k];exact M [(jg p)[i]] (by simp) (by intro id h;rw[ξ.1 h];exact v)
    refine Bq [[],[],[],[],[3],[1,2,3,4],rg 6] mixed Z (B2 (Ay [1] Z Z (λ_=>Aa (Ap Z Z By Z Z Z)) ?_));refine A7 5 Z Z (A7 6 Z Z (A7 6 Z Z (AK [23] Z (Ad Z Z (AJ (i+1) (by omega)) Z) (AK [21,22,24] Z (Wu ((jg p)) (i) (i+1) Z Z Z Z (Z) (Z) (by omega) (by omega) E0 BK (λ_=>rfl) Z) (BV 6 Z Z Z (A0 7 Z Z (J (Aj (L) Z Z) (AC ⟨Z,?_⟩))))))));refine Bb (A5 Z (λr=>?_) (λr=>?_))
    .refine Bq [[],[],[],[1,2],[1,2,3],[1,2,3,4],rg 6,[],[],[],[8,9],[8,9,10],rg 12,rg 13,rg 14,rg 15] mixed Z (B2 (A7 3 Z Z (A7 5 Z Z (A7 6 Z Z (AK [28,29] Z (Al (i) Z Z (Z) (AP k) E0 Z BK Z) (AK [30] Z (BZ Z Z Ai Z) (Cv [31] [50] [(32,_)] Z Z (λ_=>Cg (CF 50 Ao Z Z Z Z Z Z Z Z)) (.inr ⟨32,_,Z,Z,Z,Z,Z⟩) Z Z Z Z Z (Cv [27,32] [900,50] [(33,_)] Z Z (λ_=>Cg (DN (a) ([(jg p)[i]]) Z Z Z Z Z Z Z Z Ao (by simp only[ζ];omega) Z Z Z Z)) (.inr ⟨33,_,Z,Z,Z,Z,Z⟩) Z Z Z Z Z ?_))))))));refine A1 [1] [1] Z Z (λ_=>Aa (Ap Z Z By Z Z Z)) (A7 5 Z Z (A7 6 Z Z (AK [35,36] Z (Al (i) Z Z (Z) (AP k) E0 Z BK Z) (AK [37] Z (BZ Z Z Ai Z) (BV 12 Z Z Z (A0 13 Z Z (J (Aj (K _ v) Z Z) (AC ⟨Z,?_⟩))))))));refine A0 14 Z Z (AB Z Z (AC ⟨Z,?_⟩));refine A0 15 Z Z (V (Bi Z Z Z Z Z Z Z v8) (AC ⟨Z,?_⟩));refine A0 16 Z Z (AB Z Z (AC ⟨Z,?_⟩));refine Bb (AF (ch Z Z (J (Ad Z Z (AJ (i+1) (by omega)) Z) (AB Z Z (AC ?_)))));exact ⟨(i+1,Si p (jg p)[i],a++ [(jg p)[i]],true),⟨by show i+1<=_;omega,.inr ⟨Z,(jg p)[i],Jj k (λx c=>kC (N x c)) (Υ r),Z,Z⟩⟩,by show (jg p).length-(i+1)<(jg p).length-i;omega,AR u [900,1] Z (Z) ⟨Z,Z,Z,Z,Z,trivial⟩⟩
    .refine AU (AF (ch Z Z (J (Ad Z Z (AJ (i+1) (by omega)) Z) (AB Z Z (AC ?_)))));exact ⟨(i+1,p,a,false),⟨by show i+1<=_;omega,.inl ⟨Z,Z,Z,by rw[ψ k];intro x c;rcases υ.1 c with c | c;exact N x c;rw[ξ.1 c];exact r⟩⟩,by show (jg p).length-(i+1)<(jg p).length-i;omega,AR u [900,1] Z (Z) ⟨Z,Z,Z,Z,Z,trivial⟩⟩
   .refine Aq ?_;exact ⟨(A,j,(if g=true then f-1 else f),g),gu b t (.inl (by simpa using s)),ZU b t,AR u [900,1] Z (Z) ⟨Z,Z,Z,trivial⟩⟩
  .refine ch Z Z (Ir 14 Z ((kC (by omega))) (AN Z Z Z Z (AN Z Z Z Z (J (Bx Z Z Z Z) (AC (Cq Z Z (Aq ?_)))))));exact ⟨(A,j,(if g=true then f-1 else f),g),gu b t (.inr k),ZU b t,AR u [900,1] Z (Z) ⟨Z,Z,Z,trivial⟩⟩
 .refine Aq (AD ?_);have o:Q=false:=by simpa using E
  have R:=b.v.2 o;refine Fb (emb:=AE) 3 900 a Z Z Z Z Z Z Z (AF (ch Z Z (AB Z Z (AC (A4 ?_)))));exact ⟨_,[],[],A2 Z,Z,Z,by rw[R],Z⟩
theorem cA{N:jh}{x:Nd}:DM N x=true↔(∀e∈x.pl,Wb N e=false)/\(∀a∈x.it.af,je N a=true)/\∀e∈x.ef,Q4 (N.po.getD e.1 Cd) e.2=false:=by
 unfold DM
 simp
theorem bv{B:List Int}:∀{A:List Int},z∉A->lp z (A++z::B)=A:=by
 intro A h;unfold lp;rw[ϱ (by simp)]
 induction A with
 | nil=>rw[kN,List.takeWhile_cons,ν (by simp)]
 | cons a A b=>
  grind[List.takeWhile_cons]
theorem jB{q:List Int}(h:z∉q):lp z q=[]:=ν h
theorem Pn(b:(c.map cl.id).Nodup){X:cl}(g:X∈c):c.filter (λy=>decide (y.id=X.id))=[X]:=by
 obtain ⟨A,B,rfl⟩:=List.append_of_mem g;rw[jy,m5,k6] at b;obtain ⟨_,f,h⟩:=b;rw[nA] at f;rw[lv,l5,ϱ (by simp)];have j:A.filter (λy=>decide (y.id=X.id))=[]:=List.filter_eq_nil_iff.2 λy a e=>h _ (Γ.2 ⟨y,a,Z⟩) _ k7 (lK e);have i:B.filter (λy=>decide (y.id=X.id))=[]:=List.filter_eq_nil_iff.2 λy a e=>f.1 (Γ.2 ⟨y,a,lK e⟩)
 grind
theorem XS(h:mS a f c)(g:Nat->Bool)(i:y∈f):(jj f c g).po.getD ((f.map ey.r).idxOf y.r) Cd=vt (c.map dd) g y:=by
 obtain ⟨j,k,rfl⟩:=kh i;have b:j<(f.map ey.r).length:=by simpa using k
 have e:(f.map ey.r).idxOf f[j].r=j:=by
  have:=Fi h.s.r b
  grind
 rw[e];show (f.map _).getD j Cd=_
 grind
def KM(its:List cl)(on:Nat->Bool)(u:List Int):Prop:=∀j,j<its.length->(on j=true↔(its.getD j ek).id∉u)
theorem s8(h:mS a f c)(w:KM c g u)(r:y∈f):GU (a.it.filter (Jz u)) y.r=E2 (c.map dd) (EP g) y.r:=by
 have v:=Ul h (EP g) r;unfold CO at v;have t:((a.it.filter λi=>decide (i.id∈BS c (EP g) c.length)).map λi=>BO i y.r).sum=E2 (c.map dd) (EP g) y.r:=by omega
 rw[<-t]
 have e:a.it.filter (Jz u)=a.it.filter λi=>decide (i.id∈BS c (EP g) c.length):=lr λb o=>by
  have l:b∈c:=by rw[<-h.hi];exact (Js a.it).mem_iff.2 o
  obtain ⟨j,s,rfl⟩:=kh l;have z:=Me h.s.i (EP g) s
  grind[Jz,EP,KM]
 rw[e];unfold GU;refine Ix λb o=>?_;have k:=(Φ.1 o).1;exact (Vs h.e k (h.w y r)).symm
theorem uE{p:hU}{c:List ey}{b:List cl}(h:mS p c b){f:Nat->Bool}{u:List Int}(T:KM b f u){i:Nat}(L:i<b.length)(ho:f i=true):Kb (jj c b f) i=true↔DY (sP p u) [(b.getD i ek).id]:=by
 obtain ⟨X,E⟩:∃X,b.getD i ek=X:=⟨_,Z⟩
 have A:X∈b:=by rw[<-E,Dy ek L];exact ϑ L
 have F:X∈p.it:=by rw[<-h.hi] at A;exact (Js p.it).mem_iff.1 A
 have N:X.id∉u:=by have:=(T i L).1 ho;rwa [E] at this
 have hXq:X.id∈(sP p u).it.map cl.id:=Gj.2 ⟨Γ.2 ⟨X,F,Z⟩,N⟩
 have hiX:hG p X.id=X:=by
  obtain ⟨hk,_,g,v⟩:=Zj (p:=p) (id:=X.id) (Γ.2 ⟨_,F,Z⟩);exact OX (YE (IL h.e).2.1) (by rw[g];exact ϑ hk) F v
 have hiq:hG (sP p u) X.id=GZ u X:=by rw[VT h.e hXq,hiX]
 have kI:i<(b.map dd).length:=by simpa using L
 have Y:(b.map dd).getD i []=dd X:=by rw[Dy [] kI,kT,<-E,Dy ek L]
 have hnd:(jj c b f).nd.getD i CV=Jb (c.map ey.r) b f i:=by
  show ((List.range b.length).map _).getD i CV=_
  grind
 have D:∀j,j<b.length->kS (jj c b f) j=f j:=λj s=>by
  grind[kS,jj,Jb]
 have W:∀{r:AW},CD r=0->hY b r=(iX (b.map dd) r).map λj=>(b.getD j ek).id:=λhr=>eW h.v hr;have hpl:lZ (c.map ey.r) ((b.map dd).take i) (dd X)=(c.filter λx=>decide (Ds (dd X) x.r<0)).map λx=>((c.map ey.r).idxOf x.r,(iX ((b.map dd).take i) x.r).length):=r6 h _ X
 have hgr:Kb (jj c b f) i=true↔DM (jj c b f) (Jb (c.map ey.r) b f i)=true:=by
  unfold Kb;rw[hnd];show ((f i) && _)=true↔_;rw[ho,Bool.true_and]
 rw[hgr,cA,iA];have Q:(Jb (c.map ey.r) b f i).it=X:=E
 have O:(Jb (c.map ey.r) b f i).pl=(c.filter λx=>decide (Ds (dd X) x.r<0)).map λx=>((c.map ey.r).idxOf x.r,(iX ((b.map dd).take i) x.r).length):=by
  rw[<-hpl,<-E];rfl
 have R:(Jb (c.map ey.r) b f i).ef=mE (c.map ey.r) (dd X):=by rw[<-E];rfl
 rw[Q,O,R,E]
 have t:∀y,y∈(sP p u).ro↔∃x∈c,y=⟨x.r,x.n+GU (p.it.filter (Jz u)) x.r⟩:=λy=>by
  show y∈Jv p u↔_;unfold Jv;rw[Γ];have I:∀x,x∈p.ro↔x∈c:=λx=>by rw[<-h.hr];exact (qg p).mem_iff.symm
  grind
 -- what stands before the item
 have hA:(∀e∈(c.filter λx=>decide (Ds (dd X) x.r<0)).map (λx=>((c.map ey.r).idxOf x.r,(iX ((b.map dd).take i) x.r).length)),Wb (jj c b f) e=false)↔∀y∈(sP p u).ro,∀a∈lp X.id (hY (ea (sP p u).it) y.r),a∈ [X.id]:=by
  have C:∀x∈c,(Ds (dd X) x.r<0->Wb (jj c b f) ((c.map ey.r).idxOf x.r,(iX ((b.map dd).take i) x.r).length)=false)↔∀a∈lp X.id (hY (ea (sP p u).it) x.r),a∈ [X.id]:=λx o=>by
   rw[oP u h.e,h.hi,W (h.w x o)];obtain ⟨B,c1,c2,c3⟩:=LM kI x.r;rw[Y] at c1
   by_cases k:Ds (dd X) x.r<0
   .rw[ϱ k] at c1
    have hp1:Wb (jj c b f) ((c.map ey.r).idxOf x.r,(iX ((b.map dd).take i) x.r).length)=(iX ((b.map dd).take i) x.r).any (kS (jj c b f)):=by
     unfold Wb;dsimp only;rw[XS h f o];show ((iX (b.map dd) x.r).take _).any _=_;rw[c1,List.take_left']
     rfl
    have hA1:∀a∈((iX ((b.map dd).take i) x.r).map λj=>(b.getD j ek).id).filter (λz=>!decide (z∈u)),a≠X.id:=λa w e=>by
     obtain ⟨j,s,e2⟩:=Γ.1 (Φ.1 w).1;have V:=c2 j s;have:=Mp h.s.i (i:=j) (j:=i) (by omega) L (by rw[e2,e,E]);omega
    have hb:lp X.id (((iX (b.map dd) x.r).map λj=>(b.getD j ek).id).filter λz=>!decide (z∈u))=((iX ((b.map dd).take i) x.r).map λj=>(b.getD j ek).id).filter λz=>!decide (z∈u):=by
     rw[c1,jy,jy,lv,lv,nU,E,l5,ϱ (by simpa using N),List.filter_nil,List.singleton_append];exact bv λI=>hA1 _ I rfl
    rw[hb,hp1,List.any_eq_false]
    constructor
    .intro l a w;obtain ⟨ha1,ha2⟩:=Φ.1 w;obtain ⟨j,s,rfl⟩:=Γ.1 ha1;have V:=c2 j s;have g:=l k j s;rw[D j (by omega)] at g;exact absurd ((T j (by omega)).2 (by simpa using ha2)) g
    .intro l _ j s;have V:=c2 j s;rw[D j (by omega)];intro hon;have H:(b.getD j ek).id∈((iX ((b.map dd).take i) x.r).map λj=>(b.getD j ek).id).filter (λz=>!decide (z∈u)):=Φ.2 ⟨Γ.2 ⟨j,s,Z⟩,by simpa using (T j (by omega)).1 hon⟩;exact hA1 _ H (ξ.1 (l _ H))
   .have hn:X.id∉((iX (b.map dd) x.r).map λj=>(b.getD j ek).id).filter λz=>!decide (z∈u):=λI=>by
     obtain ⟨j,s,e⟩:=Γ.1 (Φ.1 I).1;have U:=OS s;rw[χ] at U;have:=Mp h.s.i (i:=j) (j:=i) U L (by rw[e,E]);subst this;have g:=lK (Φ.1 s).2;rw[Y] at g;exact k g
    rw[jB hn];exact ⟨λ_ a w=>(by cases w),λ_ hc=>absurd hc k⟩
  constructor
  .intro l y hy;obtain ⟨x,o,rfl⟩:=(t y).1 hy;exact (C x o).1 λk=>l _ (Γ.2 ⟨x,Φ.2 ⟨o,Υ k⟩,Z⟩)
  .intro l e he;obtain ⟨x,o,rfl⟩:=Γ.1 he;obtain ⟨S,hx2⟩:=Φ.1 o;exact (C x S).2 (l ⟨x.r,x.n+GU (p.it.filter (Jz u)) x.r⟩ ((t _).2 ⟨x,S,Z⟩)) (lK hx2)
 -- what must settle before it
 have hB:(∀a∈X.af,je (jj c b f) a=true)↔∀a∈(hG (sP p u) X.id).af,a∈ [X.id]:=by
  rw[hiq]
  have G:∀a∈X.af,(je (jj c b f) a=true↔a∈u):=λa w=>by
   have I:=h.s.a _ A a w;have s:=mr I;have J:=nI s;unfold je;rw[show Bf (jj c b f)=b.map cl.id from QQ c b f]
   generalize (b.map cl.id).idxOf a=j at s J⊢
   have K:j<b.length:=by simpa using s
   rw[kT] at J;have g:=T j K;rw[Dy ek K,J] at g;have v:=D j K;unfold kS at v;rw[v]
   cases hoj:f j with
   | true=>simp[g.1 hoj]
   | false=>
    have:¬¬a∈u:=λhc=>by rw[g.2 hc] at hoj;cases hoj
    simp[nB.1 this]
  constructor
  .intro l a w;obtain ⟨v,h4⟩:=Φ.1 w;have:=(G a v).1 (l a v)
   simp[uy,this] at h4
  .intro l a w;refine (G a w).2 (Classical.byContradiction λhc=>?_);have g:=l a (Φ.2 ⟨w,by simp[uy,hc]⟩);have v:=(MA.1 (EY (h.v X A)).2.2.2.2.2.2.1).1 a w;exact v.2 (ξ.1 g)
 -- what it overdraws
 have hC:(∀e∈mE (c.map ey.r) (dd X),Q4 ((jj c b f).po.getD e.1 Cd) e.2=false)↔∀y∈(sP p u).ro,0<=CO (sP p u).it y [X.id]:=by
  have C:∀x∈c,CO (sP p u).it ⟨x.r,x.n+GU (p.it.filter (Jz u)) x.r⟩ [X.id]=max (x.n+E2 (b.map dd) (EP f) x.r) 0+Ds (dd X) x.r:=λx o=>by
   rw[s8 h T o];unfold CO
   congr 1
   show (((EF u p.it).filter _).map _).sum=_;unfold EF;rw[vE,List.filter_filter,jw]
   have e3:p.it.filter (λa=>decide ((GZ u a).id∈ [X.id]) && !Jz u a)=[X]:=by
    rw[<-Pn (YE (IL h.e).2.1) F];refine lr λy hy=>?_
    by_cases e:y.id=X.id
    .unfold Jz;show (decide (y.id∈ [X.id]) && !decide (y.id∈u))=_;rw[e,kC N];simp
    .show (decide (y.id∈ [X.id]) && _)=_;rw[kC (λI=>e (ξ.1 I)),kC e];rfl
   rw[e3];show BO (GZ u X) x.r+0=_;rw[Int.add_zero,Ki u (h.v X A),Tm (h.v X A) (h.w x o)]
  constructor
  .intro l y hy;obtain ⟨x,o,rfl⟩:=(t y).1 hy;rw[C x o]
   by_cases k:Ds (dd X) x.r<0
   .have hk:x.r∈(dd X).map Prod.fst:=Classical.byContradiction λhn=>by
     have:Ds (dd X) x.r=0:=ES hn;omega
    obtain ⟨d,hd,e⟩:=Γ.1 hk;have M:Ds (dd X) d.1=d.2:=cR (cN X) hd;have g:=l ((c.map ey.r).idxOf d.1,d.2) (Γ.2 ⟨d,Φ.2 ⟨hd,Υ (by rw[e];exact Γ.2 ⟨x,o,Z⟩)⟩,Z⟩);dsimp only at g;rw[e] at g M;rw[XS h f o] at g;have v:=of_decide_eq_false g;unfold jK at v;have h4:¬(d.2<0/\max (x.n+E2 (b.map dd) (EP f) x.r) 0+d.2<0):=v;omega
   .omega
  .intro l e he;obtain ⟨d,hd,rfl⟩:=Γ.1 he;obtain ⟨hd1,hd2⟩:=Φ.1 hd;obtain ⟨x,o,e⟩:=Γ.1 (lK hd2);have M:Ds (dd X) d.1=d.2:=cR (cN X) hd1;have g:=l _ ((t _).2 ⟨x,o,Z⟩);rw[C x o] at g;dsimp only;rw[<-e] at M⊢;rw[XS h f o];refine kC ?_;unfold jK;show ¬(d.2<0/\max (x.n+E2 (b.map dd) (EP f) x.r) 0+d.2<0);omega
 rw[hA,hB,hC]
 constructor
 .rintro ⟨l,g,v⟩;exact ⟨λid hid=>by rw[ξ.1 hid];exact ⟨l,g⟩,v⟩
 .rintro ⟨l,g⟩;have:=l X.id (List.mem_singleton_self _);exact ⟨this.1,this.2,g⟩
theorem su(p:hU):sP p []=p:=by
 have b:Jv p []=p.ro:=by
  unfold Jv;have e:p.it.filter (Jz [])=[]:=List.filter_eq_nil_iff.2 λy _ h=>by unfold Jz at h;simp at h
  rw[e]
  conv=>rhs;rw[<-List.map_id p.ro]
  refine kQ λx _=>?_;show (⟨x.r,x.n+0⟩:ey)=x;rw[Int.add_zero]
 have a:EF [] p.it=p.it:=by
  unfold EF;rw[qy.2 λy _=>by unfold Jz;simp]
  conv=>rhs;rw[<-List.map_id p.it]
  refine kQ λy _=>?_;show (⟨y.id,y.pr,y.sq,y.po,y.pa,Qb [] y.af⟩:cl)=y;rw[gM λx _=>by simp[uy]]
 unfold sP;rw[b,a]
theorem nv{id:Int}(f:Ac a=0)(g:id∈(sP a u).it.map cl.id):Si (sP a u) id=sP a (u++ [id]):=by
 obtain ⟨o,h⟩:=Gj.1 g;obtain ⟨z,_,A,j⟩:=Zj o;have c:hG a id∈a.it:=by rw[A];exact ϑ z
 have B:((sP a u).ro.map λx=>(⟨x.r,x.n+BO (hG (sP a u) id) x.r⟩:ey))=Jv a (u++ [id]):=by
  show ((Jv a u).map _)=_;unfold Jv;rw[jw];refine kQ λx t=>?_;have v:=U2 (IL f).1 x t;show (⟨x.r,x.n+GU (a.it.filter (Jz u)) x.r+BO (hG (sP a u) id) x.r⟩:ey)=⟨x.r,x.n+GU (a.it.filter (Jz (u++ [id]))) x.r⟩
  rw[VT f g,Ki u (G4 (IL f).2.1 _ c),Vs f c v]
  have s:GU (a.it.filter (Jz (u++ [id]))) x.r=GU (a.it.filter (Jz u)) x.r+Ag (js (hG a id)) x.r:=by
   unfold GU;have k:=UJ u [id] (λy l=>by rw[ξ.1 l];exact h) (λi=>Ag (js i) x.r) a.it
   have r:(a.it.filter λi=>!decide (i.id∈u) && decide (i.id∈ [id]))=[hG a id]:=by
    rw[<-Pn (YE (IL f).2.1) c];refine lr λy l=>?_;rw[j]
    by_cases e:y.id=id
    .rw[e,kC h];simp
    .rw[kC (λw=>e (ξ.1 w)),kC e,Bool.and_false]
   rw[r] at k;show ((a.it.filter λi=>decide (i.id∈u++ [id])).map _).sum=((a.it.filter λi=>decide (i.id∈u)).map _).sum+_;rw[k,nU,lS,List.sum_nil,Int.add_zero]
  rw[s,Int.add_assoc]
 have k:EG id (EF u a.it)=EF (u++ [id]) a.it:=by
  unfold EG EF;rw[vE,List.filter_filter,jw]
  have s:a.it.filter (λb=>decide ((GZ u b).id≠id) && !Jz u b)=a.it.filter λi=>!Jz (u++ [id]) i:=lr λy l=>by
   unfold Jz;show (decide (y.id≠id) && !decide (y.id∈u))=!decide (y.id∈u++ [id]);rw[nG]
   simp[and_comm]
  rw[s];refine kQ λy _=>?_;show (⟨y.id,y.pr,y.sq,y.po,y.pa,BP (Qb u y.af) id⟩:cl)=⟨y.id,y.pr,y.sq,y.po,y.pa,Qb (u++ [id]) y.af⟩
  have r:BP (Qb u y.af) id=Qb (u++ [id]) y.af:=by
   unfold BP Qb;rw[List.filter_filter];refine lr λx _=>?_;unfold uy;rw[nG]
   simp[and_comm]
  rw[r]
 show (⟨(sP a u).ro.map _,EG id (sP a u).it⟩:hU)=⟨Jv a (u++ [id]),EF (u++ [id]) a.it⟩
 rw[B];show (⟨_,EG id (EF u a.it)⟩:hU)=_;rw[k]
theorem XN(n:Nat)(g:Nat->Bool):(List.range n).findIdx? g=(List.range n).find? g:=by
 cases h:(List.range n).findIdx? g with
 | none=>
  grind
 | some i=>
  grind[List.findIdx?_eq_some_iff_getElem,Jj]
theorem sv(h:mS a f c)(k:KM c g u):jg (sP a u)=BS c g c.length:=by
 unfold jg BS;rw[Y5 u h.e,h.hi,jw]
 have e:c.filter (λi=>!Jz u i)=((List.range c.length).filter g).map λi=>c.getD i ek:=by
  conv=>lhs;rw[HT c]
  rw[List.filter_map]
  congr 1
  refine lr λj l=>?_;have b:=Ω.1 l;have:=k j b;show (!decide ((c.getD j ek).id∈u))=g j
  grind
 rw[e,jw];rfl
theorem f7(h:mS a f c)(b:KM c g u):((jg (sP a u)).find? λid=>decide (DY (sP a u) [id]))=(FT f c g).map λi=>(c.getD i ek).id:=by
 unfold FT;rw[sv h b,XN];unfold BS
 grind[GL,Kb,jj,Jb,Dy,uE]
theorem KM.off(b:(c.map cl.id).Nodup)(a:KM c g u)(f:i<c.length):KM c (BB g i) (u++ [(c.getD i ek).id]):=by grind[Mp,KM,BB]
theorem b6(h:mS a f c):∀(b k:Nat) (u:List Int) (j:Nat->Bool),KM c j u->EW c.length j<=b->EW c.length j<=k->kJ b (sP a u)=MX f c k j:=by
 intro b
 induction b with
 | zero=>
  intro k u j r w _
  have:FT f c j=none:=by
   cases hn:FT f c j with
   | none=>rfl
   | some i=>
    obtain ⟨o,s,_⟩:=It hn;have:=H1 o s;omega
  rw[Ff this];rfl
 | succ b v=>
  intro k u j r w y;have l:=f7 h r
  cases hn:FT f c j with
  | none=>
   rw[hn] at l;rw[Ff hn,Nh l]
  | some i=>
   rw[hn] at l;obtain ⟨o,s,_⟩:=It hn;have x:=H1 o s
   obtain ⟨g,rfl⟩:∃g,k=g+1:=⟨k-1,by omega⟩
   have t:(c.getD i ek).id∈(sP a u).it.map cl.id:=((Js (sP a u).it).map cl.id).mem_iff.1 (List.mem_of_find?_eq_some l);rw[HF hn,Ng l,nv h.e t,v g _ _ (r.off h.s.i o) (by omega) (by omega)]
theorem b9(c:Ac a=0)(b:CT a):Bu a=kJ 30 a:=by
 have h:=eX c b;have g:hJ a=ea a.it:=ϱ c;have i:=b.i;unfold Bu;rw[g];have k:=SL (ea a.it).length;have f:=Nr a.it;have:=b6 h 30 (ea a.it).length [] (λ_=>true) (λj _=>by simp) (by omega) (by omega);rw[su] at this;exact this.symm
theorem UX{ros:List ey}{its:List cl}:∀(f:Nat) (a:Nat->Bool),(MX ros its f a).length<=f
 | 0,_=>Θ _
 | f+1,a=>by
  cases hn:FT ros its a with
  | none=>rw[Ff hn];exact κ _
  | some i=>rw[HF hn];have:=UX (ros:=ros) (its:=its) f (BB a i);simp;exact this
theorem S6{a:List AW}{x:cl}(b:Aw x=0):¬Ql a x x:=by
 rintro (⟨⟨r,v⟩,f,i,g⟩ | h)
 .grind[cR,Vv]
 .obtain ⟨_,_,_,_,_,_,c,_⟩:=EY b;exact ((MA.1 c).1 _ h).2 rfl
theorem gT(c:Ac a=0)(b:k<(ea a.it).length):EA (Lm a) k=(ea a.it)[k]/\(ea a.it)[k]∈a.it:=by grind[Js,LW,Vl]
theorem eN(p:hU)(z:Ac p=0)(K:CT p):AI prog 32 [.d (BG p)] (Wd (ll (j1 p) (Lm p))):=by
 have I:=K.i;have w:=Dg p.it (by omega);have G:=Nr p.it;have b:=λ{k:Nat} (j:k<(ea p.it).length)=>gT z j;have r:(Lm p).length=(ea p.it).length:=by unfold Lm;rw[χ]
 obtain ⟨L,O⟩:∃L,ea p.it=L:=⟨_,Z⟩
 obtain ⟨E,H⟩:∃E,Lm p=E:=⟨_,Z⟩
 simp only[O,H] at w G b r⊢;have l:∀{k:Nat} (j:k<L.length),Aw L[k]=0:=λ{k} j=>Et (IL z).2.1 _ (b j).2
 have B:∀{i k:Nat} (o:i<L.length) (j:k<L.length),AI prog 85 [.d (BG p),.d (AE L[i].id),.d (AE L[k].id)] (Am (decide (Ql (j1 p) L[i] L[k]))):=λ{i k} o j=>by
  have:=Qq p z K L[i].id L[k].id (m9 (b o).2) (m9 (b j).2);rw[GH z (b o).2,GH z (b j).2] at this;exact this
 have x:∀{i:Nat} (o:i<L.length) (R:i<(kL (j1 p) E).length),(kL (j1 p) E)[i]=kq (j1 p) E L[i] L.length:=λ{i} o R=>by
  have Q:i<E.length:=by omega
  have e:(kL (j1 p) E)[i]=kq (j1 p) E (E[i]).1 E.length:=by simp[kL]
  rw[e,<-D8 Q,(b o).1,r]
 refine As func32 Z Z ntmps32 Z Z Z λF v=>(AD (AF (V (B7 1 Z Z Z Z Z Z Z) (AB Z Z (AC (AD ?_))))));refine AF (AB Z Z (AC (AD (AF (J (AM Z I7 Z Z Z) (J (AQ Z Z Z Cz Z) (J (Aj (w) Z Z) (AB Z Z ?_))))))));refine AC (AD (AD (AF (AB Z Z (AC (AX (IU 3 10 Ih Z Z Z Z (BC (α:=Nat×List (List Int)) (λq=>⟨53,[(1,(.ptr 1 0 0)),(3,(.own 10 0 q.2.length)),(4,(.d (.sl none (L.map Ah)))),(5,(.d (AY q.1)))],[(1,[.blk 25 [.d (.sl none (p.ro.map BY)),.d (.sl none (p.it.map Ah))]]),(10,[.rowD 28 1 (q.2.map Gl)])]⟩) (λq=>q.1<=L.length/\q.2=((kL (j1 p) E).take q.1).map (BQ E)) (λq=>L.length-q.1) ((0,[])) (⟨κ _,Z⟩) (AR v [1,10] Z Z ⟨Z,Z,Z,Z,trivial⟩) ?_))))))));rintro ⟨i,T⟩ ⟨o,A⟩;dsimp only at o A⊢;refine AD (AD (AF (ch Z Z (ch Z Z (J (I2 Z (χ ..) F0 Z) (J (At Z Z Z) (AC (A5 Z (λt=>?_) (λt=>?_)))))))))
 .refine AU (AD (AX (AD ?_)));have g:i<L.length:=BF t;have y:i<(kL (j1 p) E).length:=by rw[Xz,r];exact g
  have N:T.length<=30:=by rw[A,χ,η];omega
  refine AF (AB Z Z ?_);refine AC (AD (AD (AF (AB Z Z (AC (AX (IU 6 11 Ao Z Z Z Z (BC (α:=Nat×List Int) (λq=>⟨53,[(1,(.ptr 1 0 0)),(3,(.own 10 0 T.length)),(4,(.d (.sl none (L.map Ah)))),(5,(.d (AY i))),(6,(.own 11 0 q.2.length)),(7,(.d (AY q.1)))],[(1,[.blk 25 [.d (.sl none (p.ro.map BY)),.d (.sl none (p.it.map Ah))]]),(10,[.rowD 28 1 (T.map Gl)]),(11,[.rowD 3 1 (q.2.map AE)])]⟩) (λq=>q.1<=L.length/\q.2=BQ E (kq (j1 p) E L[i] q.1)) (λq=>L.length-q.1) ((0,[])) (⟨κ _,Z⟩) (AR v [1,10,11] Z Z ⟨Z,Z,Z,Z,Z,Z,trivial⟩) ?_))))))));rintro ⟨k,S⟩ ⟨j,u⟩;dsimp only at j u⊢;refine AD (AD (AF (ch Z Z (ch Z Z (J (I2 Z (χ ..) F0 Z) (J (At Z Z Z) (AC (A5 Z (λs=>?_) (λs=>?_)))))))))
  .refine AU (AD (AX (AD ?_)));have a:k<L.length:=BF s;have M:S.length<=30:=by rw[u,ET];have:=OG (j1 p) E L[i] k;omega
   refine Bq [[],[],[0,1],[0,1,2],[0,1,2,3],[0,1,2,3],[0,1,2,3],[0,1,2,3,5,6],[0,1,2,3,5,6,7],[0,1,2,3,5,6,7,8],[0,1,2,3],[0,1,2,3],[0,1,2,3,10,11],[0,1,2,3,10,11,12],[0,1,2,3,10,11,12,13],rg 15,rg 16] mixed Z (B2 (A7 7 Z Z (A7 5 Z Z (BV 2 Z Z Z (A0 3 Z Z (J (DJ Z Z Z) (AC ⟨Z,?_⟩)))))));refine A0 4 Z Z (ch Z Z (C7 26 Z (λh=>?_) (λh=>?_)))
   .refine AC ⟨Z,?_⟩;refine B2 (A1 [1,26] [1] Z Z (λ_=>BR Z Z Z (Ap Z Z By Z Z Z)) (A1 [4,26] [] Z Z (λ_=>BR Z Z Z (FW Z Z)) (A1 [5,26] [] Z Z (λ_=>BR Z Z Z (FW Z Z)) (A1 [28,29,26] [] Z Z (λ_=>BR Z Z Z (Al (i) Z Z (Z) (AP g) F0 Z CL Z)) (A1 [30,26] [] Z Z (λ_=>BR Z Z Z (Gw Z QP Z Z Z)) (A1 [31,26] [] Z Z (λ_=>BR Z Z Z (BZ Z Z Ai Z)) (A1 [4,26] [] Z Z (λ_=>BR Z Z Z (FW Z Z)) ?_)))))));refine A1 [7,26] [] Z Z (λ_=>BR Z Z Z (FW Z Z)) (A1 [33,34,26] [] Z Z (λ_=>BR Z Z Z (Al (k) Z Z (Z) (AP a) F0 Z CL Z)) (A1 [35,26] [] Z Z (λ_=>BR Z Z Z (Gw Z QP Z Z Z)) (A1 [36,26] [] Z Z (λ_=>BR Z Z Z (BZ Z Z Ai Z)) (BV 15 Z Z Z (A0 16 Z Z (AT Z Z Z (J (Aj (B g a) Z Z) (AC ⟨Z,?_⟩))))))));refine A0 17 Z Z (J (B8 Z Z Z Z) (AC ⟨Z,?_⟩));refine Bb (A5 Z (λc=>?_) (λc=>?_))
    .refine AF (ch Z Z ?_);refine ch Z Z (ch Z Z (J (Al (k) Z Z (Z) (AP a) F0 Z CL Z) (J (Gw Z QP Z Z Z) (J (BZ Z Z Ai Z) (V (CF 30 Ao Z Z Z Z Z Z Z Z) (V (DN (S) ([L[k].id]) Z Z Z Z Z Z Z Z Ao (by simp only[ζ];omega) Z Z Z Z) (AB Z Z (AC ?_))))))))
     first | (have f:¬Ql (j1 p) L[i] L[k]:=by first | exact c | (have e:k=i:=Int.ofNat.inj (nB.1 h);subst e;exact S6 (l a))) | skip
     refine AF (ch Z Z (J (Ad Z Z (AJ (k+1) (by omega)) Z) (AB Z Z (AC ?_))));exact ⟨(k+1,S++ [L[k].id]),⟨a,by show _=BQ E (kq (j1 p) E L[i] (k+1));rw[YO (by rw[(b a).1];exact c),u];unfold BQ;rw[jy,nU,(b a).1]⟩,by show L.length-(k+1)<L.length-k;omega,AR v [1,10,11] Z (Z) ⟨Z,Z,Z,Z,Z,Z,trivial⟩⟩
    .have f:¬Ql (j1 p) L[i] L[k]:=by first | exact c | (have e:k=i:=Int.ofNat.inj (nB.1 h);subst e;exact S6 (l a))
     refine AU ?_
     first | (have f:¬Ql (j1 p) L[i] L[k]:=by first | exact c | (have e:k=i:=Int.ofNat.inj (nB.1 h);subst e;exact S6 (l a))) | skip
     refine AF (ch Z Z (J (Ad Z Z (AJ (k+1) (by omega)) Z) (AB Z Z (AC ?_))));exact ⟨(k+1,S),⟨a,by show _=BQ E (kq (j1 p) E L[i] (k+1));rw[Oj (by rw[(b a).1];exact f),u]⟩,by show L.length-(k+1)<L.length-k;omega,AR v [1,10,11] Z (Z) ⟨Z,Z,Z,Z,Z,Z,trivial⟩⟩
   .refine AC ⟨Z,?_⟩;refine B2 (A1 [1,26] [] Z Z (λ_=>Bw Z Z Z Z) (A1 [4,26] [] Z Z (λ_=>Bw Z Z Z Z) (A1 [5,26] [] Z Z (λ_=>Bw Z Z Z Z) (A1 [28,29,26] [] Z Z (λ_=>Bw Z Z Z Z) (A1 [30,26] [] Z Z (λ_=>Bw Z Z Z Z) (A1 [31,26] [] Z Z (λ_=>Bw Z Z Z Z) ?_))))));refine A1 [4,26] [] Z Z (λ_=>Bw Z Z Z Z) (A1 [7,26] [] Z Z (λ_=>Bw Z Z Z Z) (A1 [33,34,26] [] Z Z (λ_=>Bw Z Z Z Z) (A1 [35,26] [] Z Z (λ_=>Bw Z Z Z Z) (A1 [36,26] [] Z Z (λ_=>Bw Z Z Z Z) (BV 15 Z Z Z (A0 16 Z Z (AN Z Z Z Z (AC ⟨Z,?_⟩))))))));refine A0 17 Z Z (J (Bx Z Z Z Z) (AC ⟨Z,?_⟩));refine Bb (Cq Z Z (AU ?_))
    first | (have f:¬Ql (j1 p) L[i] L[k]:=by first | exact c | (have e:k=i:=Int.ofNat.inj (nB.1 h);subst e;exact S6 (l a))) | skip
    refine AF (ch Z Z (J (Ad Z Z (AJ (k+1) (by omega)) Z) (AB Z Z (AC ?_))));exact ⟨(k+1,S),⟨a,by show _=BQ E (kq (j1 p) E L[i] (k+1));rw[Oj (by rw[(b a).1];exact f),u]⟩,by show L.length-(k+1)<L.length-k;omega,AR v [1,10,11] Z (Z) ⟨Z,Z,Z,Z,Z,Z,trivial⟩⟩
  .refine Aq ?_;have C:k=L.length:=by have:=s;omega
   refine Fb (emb:=AE) 6 11 S Z Z Z Z Z Z Z ?_;rw[show S=BQ E (kq (j1 p) E L[i] L.length) by rw[u,C]];refine AF (ch Z Z (ch Z Z ?_));refine V (CF 31 Ih Z Z Z Z Z Z Z Z) (V (DN (T) ([BQ E (kq (j1 p) E L[i] L.length)]) Z Z Z Z Z Z Z Z Ih (by simp only[ζ];omega) Z Z Z Z) (AB Z Z (AC (AF (ch Z Z (J (Ad Z Z (AJ (i+1) (by omega)) Z) (AB Z Z (AC ?_))))))));exact ⟨(i+1,T++ [BQ E (kq (j1 p) E L[i] L.length)]),⟨g,by show _=((kL (j1 p) E).take (i+1)).map _;rw[ψ y,jy,A,x g y];rfl⟩,by show L.length-(i+1)<L.length-i;omega,AR v [1,10] Z (Z) ⟨Z,Z,Z,Z,trivial⟩⟩
 .refine Aq (AD ?_);have D:i=L.length:=by have:=t;omega
  refine Fb (emb:=Gl) 3 10 T Z Z Z Z Z Z Z ?_;rw[show T=ll (j1 p) E by rw[A,D,θ (by rw[Xz];omega)];rfl];refine AF (ch Z Z (AB Z Z (AC (A4 ?_))));exact ⟨_,[],[],A2 Z,Z,Z,Z,Z⟩
theorem X5(b:Ac a=0):fG a (fl a)=fl a:=by
 have h:=Hq b;rw[show hJ a=ea a.it from ϱ b,List.filter_map] at h;exact h.symm
theorem VN(p:hU)(b:Ac p=0)(f:CT p):AI prog 15 [.d (BG p)] (Gl (fl p)):=by
 have c:=Vh p f b;rw[pZ b f] at c;dsimp only at c;have g:=f.i;have h:=Ef b;have a:=R7 p (fl p) (by omega) (by omega);rw[X5 b] at a;refine As func15 Z Z ntmps15 Z Z Z λF i=>(AD (AF (V (B7 1 Z Z Z Z Z Z Z) (AB Z Z (AC ?_)))));refine AD (AF (J (Ap Z Z By Z Z Z) (J (Aj (c) Z Z) (ch Z Z (J (Cc Z Z Z) (J (Cc Z Z Z) (AB Z Z (AB Z Z ?_))))))));refine AC (AD (AF (J (Ap Z Z By Z Z Z) (ch Z Z (J (Aj (a) Z Z) (AB Z Z (AC (A4 ?_))))))));exact ⟨_,[],[],A2 Z,Z,Z,Z,Z⟩
abbrev cL(x:Int×ey):D:= .agg [AE x.1,AE x.2.r.k,Ak x.2.r.acc.o,AE x.2.r.acc.k,Ak x.2.r.acc.a,Ak x.2.r.f,Ak x.2.r.t,AE x.2.n]
noncomputable def kB(p:hU)(id:Int):List ey:=Ju p (Av (jx p [id]))
noncomputable def kX(p:hU)(id:Int):Option (Int×ey):=if id∈fl p then none else (kB p id).head?.map λx=>(id,x)
noncomputable def km(p:hU):List (Int×ey):=((ea p.it).map cl.id).filterMap (kX p)
theorem Lx{id:Int}(h:id∈fl a):kX a id=none:=ϱ h
theorem WU{id:Int}(h:¬0<(kB a id).length):kX a id=none:=by grind[kX]
theorem Tk{id:Int}(b:id∉fl a)(h:0<(kB a id).length):kX a id=some (id,(kB a id)[0]):=by
 unfold kX;rw[ν b,List.head?_eq_getElem?,ω h]
 rfl
theorem Ji{f:h->Option A}(a:k<j.length):(j.take (k+1)).filterMap f=(j.take k).filterMap f++(f j[k]).toList:=by grind[ψ]
theorem uM(b:CT a)(f:Ac a=0):PV a:=⟨f,b.b,by have:=b.i;omega,by have:=b.r;omega,λi c=>by have:=b.x i c;omega⟩
theorem Tg(b:Ac a=0){l:List Int}(c:l.Nodup)(g:∀x∈l,x∈a.it.map cl.id):EX a l=0:=by
 unfold EX;rw[ν (by omega)];unfold Sh;refine Tu.2 λk f=>?_
 grind[IT,OT]
theorem Te{S:List Int}:∀y∈jx a S,y∈a.it.map cl.id:=by grind[jx,jR]
theorem Z9(b:Ac a=0)(S:List Int):(jx a S).Nodup:=by
 unfold jx;exact (jR _).nodup_iff.2 (List.Nodup.sublist lj (YE (IL b).2.1))
theorem pF{l:List ey}(h:0<l.length):(l.map BY)[0]? =some (BY l[0]):=AP h
theorem WR(p:hU)(c:CT p)(b:Ac p≠0):AI prog 31 [.d (BG p)] (.tup [.sl (some true) [],AE (Ac p)]):=by
 have a:=Na p c b;refine As func31 Z Z ntmps31 Z Z Z λF f=>(AD (AF (V (B7 1 Z Z Z Z Z Z Z) ?_)));refine AB Z Z (AB Z Z (AC (AD (AF (J (Ap Z Z Bp Z Z Z) (J (Aj (a) Z Z) (ch Z Z (J (Cc Z Z Z) ?_))))))));refine J (Cc Z Z Z) (AB Z Z (AB Z Z (AC (AD (AD (AF (ch Z Z (J (DJ Z Z Z) ?_))))))));refine AC (CM Z (Υ b) (AD (AF (ch Z Z (AB Z Z (AB Z Z (AC (A4 ?_))))))));exact ⟨_,[],[],A2 Z,Z,Z,Z,Z⟩
theorem SS(p:hU)(u:CT p)(i:Ac p=0):AI prog 31 [.d (BG p)] (.tup [.sl none ((km p).map cL),AE 0]):=by
 have C:=K6 p u i;have O:=u.i;have B:=u.r;have g:=Io p u.b;rw[show hJ p=ea p.it from ϱ i] at g;have Q:=Ef i;have H:=Nr p.it;have w:=λ{id:Int} (c:id∈p.it.map cl.id)=>qG p [id] u.b (by simp) (by omega) (by omega) (Tg i (by simp) λx t=>by rw[ξ.1 t];exact c) (by simp) λx t=>by rw[ξ.1 t];exact c
 have v:∀id:Int,AI prog 28 [.d (BG p),.d (Gl (jx p [id]))] (.tup [.sl none ((kB p id).map BY),AE 0]):=λid=>by
  have h:=nZ p (jx p [id]) u.b (by have:=WK (p:=p) (l:=[id]);omega);rw[Tg i (Z9 i _) Te,ϱ rfl] at h;exact h
 obtain ⟨L,z⟩:∃L,(ea p.it).map cl.id=L:=⟨_,Z⟩
 have U:L.length<=30:=by rw[<-z,χ,H];omega
 have I:∀x∈L,x∈p.it.map cl.id:=λx t=>by rw[<-z] at t;exact ((Js p.it).map cl.id).mem_iff.1 t
 have E:km p=L.filterMap (kX p):=by unfold km;rw[z]
 rw[z] at g;rw[E];refine As func31 Z Z ntmps31 Z Z Z λF A=>?_;refine AD (AF (V (B7 1 Z Z Z Z Z Z Z) (AB Z Z (AB Z Z (AC (AD (AF (J (Ap Z Z Bp Z Z Z) ?_))))))));refine J (Aj (C) Z Z) (ch Z Z (J (Cc Z Z Z) (J (Cc Z Z Z) (AB Z Z (AB Z Z (AC (AD (AD ?_))))))));refine AF (ch Z Z (J (DJ Z Z Z) (AC (Cq Z (kC (by decide)) (AU (AD (AF (ch Z Z ?_))))))));refine DA (YB (Gy (fl p) (G3 i) (by omega)) Z [41] ⟨Z,trivial⟩ Z Z Z Z (λr W ⟨b,N,M,K,_⟩=>by subst M K;exact ⟨Z,Z,Z⟩) Z) Z ?_;rintro _ ⟨r,W,⟨b,N,M,K,S⟩,rfl⟩;subst M K;refine AB Z Z (AC (AD (AF (AB Z Z (AC (AD (AD ?_)))))));refine AF (J (Ap Z Z Bp Z Z Z) (J (Aj (g) Z Z) (J (BU Z E0 Z) (ch Z Z (AC (AX (IU 7 10 sp Z Z Z Z (BC (α:=Nat×List (Int×ey)) (λq=>⟨65,[(1,(.ptr 1 0 0)),(6,(.d (Zx b))),(7,(.own 10 0 q.2.length)),(25,(.d (Gl L))),(26,(.d (AE (L.length:Int)))),(27,(.d (AE (q.1:Int))))],[(1,[.blk 39 [.d (.sl none (p.ro.map BY)),.d (.sl none (p.it.map Ah))]]),(41,[.multi N]),(10,[.rowD 66 8 (q.2.map cL)])]⟩) (λq=>q.1<=L.length/\q.2=(L.take q.1).filterMap (kX p)/\q.2.length<=q.1) (λq=>L.length-q.1) ((0,[])) (⟨κ _,Z,κ _⟩) (AR A [1,41,10] Z Z ⟨Z,Z,Z,Z,Z,Z,trivial⟩) ?_))))))));rintro ⟨k,T⟩ ⟨R,y,G⟩;dsimp only at R y G⊢;refine AD (AF (J (At Z Z Z) (AC (AD (A5 Z (λs=>?_) (λs=>?_))))))
 .refine AU (AD (AX (AD ?_)));have a:k<L.length:=BF s;have c:=I _ (ϑ a);refine AF (J (Al (k) Z Z (Z) (AP a) E0 Z BK Z) (J (BZ Z Z Ai Z) (AB Z Z ?_)));refine AC (AD (AD (AF (ch Z Z (ch Z Z (V (cM (J0 S L[k]) Z [41] ⟨Z,trivial⟩ Z Z Z Z Z Z Z Z Z) (AC (A5 Z (λo=>?_) (λo=>?_)))))))))
  .refine Aq (AF (J (Ad Z Z (AJ (k+1) (by omega)) Z) (ch Z Z (AC ?_))));exact ⟨(k+1,T),⟨a,by show _=(L.take (k+1)).filterMap _;rw[Ji a,Lx o,y];simp,by show T.length<=k+1;omega⟩,by show L.length-(k+1)<L.length-k;omega,AR A [1,41,10] Z (Z) ⟨Z,Z,Z,Z,Z,Z,trivial⟩⟩
  .refine AU (AD (AF (J (Ap Z Z Bp Z Z Z) (ch Z Z (V (CF 20 Ao Z Z Z Z Z Z Z Z) ?_)))));refine W3 (emb:=AE) 37 20 [L[k]] Z Z Z Z Z Z Z (V (FX (w c) Z [900] ⟨Z,trivial⟩ Z Z Z Z Z Z Z Z Z) (ch Z Z (J (D3 Z Z Z) (J (D3 Z Z Z) (AB Z Z (AB Z Z (AC (AD ?_))))))));refine Fb (emb:=AE) 10 900 (jx p [L[k]]) Z Z Z Z Z Z Z (AF (J (Ap Z Z Bp Z Z Z) (ch Z Z (J (Aj (v L[k]) Z Z) (ch Z Z (J (Cc Z Z Z) (J (Cc Z Z Z) (AB Z Z ?_))))))));refine AB Z Z (AC (AD (AF (ch Z Z (J (I2 Z (χ ..) underlying69 Z) (J (H4 Z Z Z) (AC (A5 Z (λj=>?_) (λj=>?_)))))))))
   .have f:0<(kB p L[k]).length:=BF j;refine Bq [[],[],[],[2],[2,3],[2,3,4],[],[6],[6,7],[6,7,8],[1,2,3,4,5,6,7,8,9],[1,2,3,4,5,6,7,8,9,10],rg 12,rg 13] mixed Z (B2 (A7 7 Z Z (A7 9 Z Z (A7 12 Z Z (AK [52] Z (Al (0) Z Z (Z) (pF f) underlying69 Z v0 Z) (AK [53] Z (KL Z uK Z Z Z) (AK [54] Z (CY Z Z Cw Z) (A7 12 Z Z ?_))))))));refine AK [56] Z (Al (0) Z Z (Z) (pF f) underlying69 Z v0 Z) (AK [57] Z (Gw Z uJ Z Z Z) (AK [58] Z (BZ Z Z FJ Z) (AK [51,55,59] Z (Dz xQ xk Z Z Z) (Cv [60] [30] [(61,_)] Z Z (λ_=>Cg (CF 30 sp Z Z Z Z Z Z Z Z)) (.inr ⟨61,_,Z,Z,Z,Z,Z⟩) Z Z Z Z Z (BV 12 Z Z Z (A0 13 Z Z (V (DN (T) ([(L[k],(kB p L[k])[0])]) Z Z Z Z Z Z Z Z sp (by simp only[ζ];omega) Z Z Z Z) (AC ⟨Z,?_⟩))))))));refine A0 14 Z Z (AB Z Z (AC ⟨Z,?_⟩));refine Bb (AF (J (Ad Z Z (AJ (k+1) (by omega)) Z) (ch Z Z (AC ?_))));exact ⟨(k+1,T++ [(L[k],(kB p L[k])[0])]),⟨a,by show _=(L.take (k+1)).filterMap _;rw[Ji a,Tk o f,y];rfl,by show (T++ [_]).length<=k+1;rw[Δ];simp only[ζ];omega⟩,by show L.length-(k+1)<L.length-k;omega,AR A [1,41,10] Z (Z) ⟨Z,Z,Z,Z,Z,Z,trivial⟩⟩
   .refine AU (AF (J (Ad Z Z (AJ (k+1) (by omega)) Z) (ch Z Z (AC ?_))));exact ⟨(k+1,T),⟨a,by show _=(L.take (k+1)).filterMap _;rw[Ji a,WU (λh=>j (by exact_mod_cast h)),y];simp,by show T.length<=k+1;omega⟩,by show L.length-(k+1)<L.length-k;omega,AR A [1,41,10] Z (Z) ⟨Z,Z,Z,Z,Z,Z,trivial⟩⟩
 .refine Aq (AD ?_);have D:k=L.length:=by have:=s;omega
  refine Fb (emb:=cL) 7 10 T Z Z Z Z Z Z Z ?_;rw[show T=L.filterMap (kX p) by rw[y,D,kV]];refine AF (ch Z Z (AB Z Z (AB Z Z (AC (A4 ?_)))));exact ⟨_,[],[],A2 Z,Z,Z,Z,Z⟩
theorem eR(p:hU)(D:CT p)(M:Ac p=0):AI prog 22 [.d (BG p),.d (Gl (fl p))] (.sl none ((km p).map cL)):=by
 have L:=D.i;have z:=D.r;have t:=uM D M;have s:=Dg p.it (by omega);have I:=Nr p.it;have N:=Ef M;have u:=λ{id:Int} (g:id∈p.it.map cl.id)=>eP p [id] t (by simp) (by simp) λx w=>by rw[ξ.1 w];exact g
 have r:∀id:Int,AI prog 63 [.d (BG p),.d (Gl (jx p [id]))] (.sl none ((kB p id).map BY)):=λid=>cc p (jx p [id]) t (by have:=WK (p:=p) (l:=[id]);omega) Te
 obtain ⟨S,K⟩:∃S,ea p.it=S:=⟨_,Z⟩
 have H:∀x∈S,x.id∈p.it.map cl.id:=λx w=>by rw[<-K] at w;exact m9 ((Js p.it).mem_iff.1 w)
 have E:km p=(S.map cl.id).filterMap (kX p):=by unfold km;rw[K]
 rw[K] at s I;rw[E];have A:(S.map cl.id).length=S.length:=χ _;have f:∀{k:Nat} (C:k<S.length) (O:k<(S.map cl.id).length),(S.map cl.id)[k]=S[k].id:=λC O=>kT ..;refine As func22 Z Z ntmps22 Z Z Z λF y=>(AD (AF (V (B7 1 Z Z Z Z Z Z Z) (AB Z Z (AC (AD ?_))))));refine AF (AB Z Z (AC (AD (AF (J (AM Z I7 Z Z Z) (J (AQ Z Z Z Cz Z) (J (Aj (s) Z Z) (AB Z Z ?_))))))));refine AC (AD (AD (AF (AB Z Z (AC (AX (IU 5 10 so Z Z Z Z (BC (α:=Nat×List (Int×ey)) (λq=>⟨58,[(1,.d (Gl (fl p))),(2,(.ptr 1 0 0)),(5,(.own 10 0 q.2.length)),(6,(.d (.sl none (S.map Ah)))),(7,(.d (AE (q.1:Int))))],[(1,[.blk 25 [.d (.sl none (p.ro.map BY)),.d (.sl none (p.it.map Ah))]]),(10,[.rowD 114 8 (q.2.map cL)])]⟩) (λq=>q.1<=S.length/\q.2=((S.map cl.id).take q.1).filterMap (kX p)/\q.2.length<=q.1) (λq=>S.length-q.1) ((0,[])) (⟨κ _,Z,κ _⟩) (AR y [1,10] Z Z ⟨Z,Z,Z,Z,Z,trivial⟩) ?_))))))));rintro ⟨k,T⟩ ⟨C,v,G⟩;dsimp only at C v G⊢;refine AD (AD (AF (ch Z Z (ch Z Z (J (I2 Z (χ ..) F0 Z) (J (At Z Z Z) (AC (A5 Z (λo=>?_) (λo=>?_)))))))))
 .refine AU (AD (AX (AD (AD ?_))));have a:k<S.length:=BF o;have b:k<(S.map cl.id).length:=by omega
  have g:=H _ (ϑ a);refine AF ?_;refine ch Z Z (ch Z Z (ch Z Z (J (Al (k) Z Z (Z) (AP a) F0 Z CL Z) (J (Gw Z QP Z Z Z) (J (BZ Z Z Ai Z) (J (Aj (G6 (fl p) S[k].id (by omega)) Z Z) (AC (A5 Z (λj=>?_) (λj=>?_)))))))))
  .refine Aq (AF (ch Z Z (J (Ad Z Z (AJ (k+1) (by omega)) Z) (AB Z Z (AC ?_)))));exact ⟨(k+1,T),⟨a,by show _=((S.map cl.id).take (k+1)).filterMap _;rw[Ji b,f a b,Lx j,v];simp,by show T.length<=k+1;omega⟩,by show S.length-(k+1)<S.length-k;omega,AR y [1,10] Z (Z) ⟨Z,Z,Z,Z,Z,trivial⟩⟩
  .refine AU (AD (Bq [[],[],[],[1,2],[1,2,3],[1,2,3,4],[1,2,3,4,5],rg 7,rg 8] mixed Z (B2 (A1 [2] [1] Z Z (λ_=>Aa (Ap Z Z By Z Z Z)) (A7 6 Z Z (A7 7 Z Z ?_))))));refine AK [27,28] Z (Al (k) Z Z (Z) (AP a) F0 Z CL Z) (AK [29] Z (Gw Z QP Z Z Z) (AK [30] Z (BZ Z Z Ai Z) (Cv [31] [20] [(32,_)] Z Z (λ_=>Cg (CF 20 Ao Z Z Z Z Z Z Z Z)) (.inr ⟨32,_,Z,Z,Z,Z,Z⟩) Z Z Z Z Z (BV 7 Z Z Z (A0 8 Z Z (W3 (emb:=AE) 32 20 [S[k].id] Z Z Z Z Z Z Z (J (Aj (u g) Z Z) (AC ⟨Z,?_⟩))))))));refine A0 9 Z Z (AB Z Z (AC ⟨Z,?_⟩));refine Bb (AD (AF (J (Ap Z Z By Z Z Z) (ch Z Z (J (Aj (r S[k].id) Z Z) ?_)))));refine AB Z Z (AC (AD (AF (ch Z Z (J (I2 Z (χ ..) underlying117 Z) (J (H4 Z Z Z) (AC (A5 Z (λi=>?_) (λi=>?_)))))))))
   .have c:0<(kB p S[k].id).length:=BF i;refine Bq [[],[],[],[1,2],[1,2,3],[1,2,3,4],[],[6],[6,7],[6,7,8],[],[10],[10,11],[10,11,12],[1,2,3,4,5,6,7,8,9,10,11,12,13],[1,2,3,4,5,6,7,8,9,10,11,12,13,14],rg 16,rg 17] mixed Z (B2 (A7 5 Z Z (A7 6 Z Z ?_)));refine A7 7 Z Z (AK [41,42] Z (Al (k) Z Z (Z) (AP a) F0 Z CL Z) (AK [43] Z (Gw Z QP Z Z Z) (AK [44] Z (BZ Z Z Ai Z) (A7 9 Z Z (AK [46] Z (Al (0) Z Z (Z) (pF c) underlying117 Z rP Z) (AK [47] Z (KL Z pT Z Z Z) (AK [48] Z (CY Z Z Cf Z) (A7 9 Z Z ?_))))))));refine AK [50] Z (Al (0) Z Z (Z) (pF c) underlying117 Z rP Z) (AK [51] Z (Gw Z pS Z Z Z) (AK [52] Z (BZ Z Z FJ Z) (AK [45,49,53] Z (Dz vR wG Z Z Z) (Cv [54] [30] [(55,_)] Z Z (λ_=>Cg (CF 30 so Z Z Z Z Z Z Z Z)) (.inr ⟨55,_,Z,Z,Z,Z,Z⟩) Z Z Z Z Z (BV 16 Z Z Z (A0 17 Z Z (V (DN (T) ([(S[k].id,(kB p S[k].id)[0])]) Z Z Z Z Z Z Z Z so (by simp only[ζ];omega) Z Z Z Z) (AC ⟨Z,?_⟩))))))));refine A0 18 Z Z (AB Z Z (AC ⟨Z,?_⟩));refine Bb (AF (ch Z Z (J (Ad Z Z (AJ (k+1) (by omega)) Z) (AB Z Z (AC ?_)))));exact ⟨(k+1,T++ [(S[k].id,(kB p S[k].id)[0])]),⟨a,by show _=((S.map cl.id).take (k+1)).filterMap _;rw[Ji b,f a b,Tk j c,v];rfl,by show (T++ [_]).length<=k+1;rw[Δ];simp only[ζ];omega⟩,by show S.length-(k+1)<S.length-k;omega,AR y [1,10] Z (Z) ⟨Z,Z,Z,Z,Z,trivial⟩⟩
   .refine AU (AF (ch Z Z (J (Ad Z Z (AJ (k+1) (by omega)) Z) (AB Z Z (AC ?_)))));exact ⟨(k+1,T),⟨a,by show _=((S.map cl.id).take (k+1)).filterMap _;rw[Ji b,f a b,WU (λh=>i (by exact_mod_cast h)),v];simp,by show T.length<=k+1;omega⟩,by show S.length-(k+1)<S.length-k;omega,AR y [1,10] Z (Z) ⟨Z,Z,Z,Z,Z,trivial⟩⟩
 .refine Aq (AD ?_);have B:k=S.length:=by have:=o;omega
  refine Fb (emb:=cL) 5 10 T Z Z Z Z Z Z Z ?_;rw[show T=(S.map cl.id).filterMap (kX p) by rw[v,B,<-A,kV]];refine AF (ch Z Z (AB Z Z (AC (A4 ?_))));exact ⟨_,[],[],A2 Z,Z,Z,Z,Z⟩
end Go.Proofs.YteifpcnphnhaoaaGreat
