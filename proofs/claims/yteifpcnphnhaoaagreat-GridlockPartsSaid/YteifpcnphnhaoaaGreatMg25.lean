import Derived.Test.YteifpcnphnhaoaaGreatMg24
import Derived.Shelf.SortG.Plain
import Derived.Shelf.SortG.SortNone
open Go.Proofs.Tryz
namespace Go.Proofs.YteifpcnphnhaoaaGreat
open Go.RowKit Go.Shelf
open Go.Sort (putRow Holds putCells)
def DA (l:List Int):List Int:=l.mergeSort λx y=>decide (x<=y)
theorem DW (l:List Int):(DA l).Perm l:=List.mergeSort_perm l _
theorem FX (l:List Int):(DA l).length=l.length:=(DW l).length_eq
theorem K7 (l:List Int):(DA l).Pairwise (· <= ·):=by grind [List.pairwise_mergeSort,DA]
abbrev zD (z:Int):D:= .raw (.int .i64 z)
variable {P:Program} {ρr:Ren}
theorem TL (L:SlLaysN.n53 P ρr) {E:TypeId} {W:FuncId} (k:List Int) (hsz:k.length<4611686018427387904) {F:Fr} {s:AS} {d:Nat} {x:Operand} {ty:TypeId} {pos:String} {aft:Array Edge} {gd:Option (Nat×Bool)} {at_:Array TypeId} {f n:Nat} {O:List D} {J:Hp}
  (hg:ρr.f 53=W) (z:s.ev x=some (.own f 0 n)) (ho:hget s.hp f 0=some (.rowD E 1 O)) (S:O=k.map zD) (hn:n=k.length) (hh:B7 s.hp f 0 (.rowD E 1 ((DA k).map zD))=some J) (hd:Nat.blt d s.n=true):
  AG P F ⟨some d,.call {callee:= .value (.func W),args:= #[x],argTypes:=at_},ty,pos,aft,gd⟩ s ⟨s.n,(d,.d (.tup []))::s.env,J⟩ (λ_ _=>true):=by
 subst hg S hn;intro ρ B w hs
 obtain ⟨fn6,hf1,hf2,hf3⟩:∃fn,P.funcs[ρr.f 53]? =some fn/\(fn.name== "runtime.NumGoroutine")=false/\fn.body.isSome=true:=by
  obtain ⟨nm,hn,hf⟩:=L.f53;exact ⟨_,hf,hn,Z⟩
 unfold Oper.wp;rw [show (#[x]:Array Operand)=[x].toArray from rfl,DJ hf1 hf2 hf3,Oper.upon_enter]
 suffices G:Calls P (ρr.f 53) ([x].map B.eval).toArray w λe X=>e= .returned (.tuple #[])/\SR F ⟨s.n,s.env,J⟩ ρ B X by
  refine G.mono λe X ⟨M,hsr⟩=>?_;subst M;exact ⟨ρ,hsr.put (IS hd) (.d (.tup Z λi c v hc=>nomatch hc)),λ_ _ _=>rfl⟩
 have r0:=hs.ev z;have hg0:=ho;have h3:=hs.heap;have t:=BB hh;obtain ⟨Y,q1,q2,q3⟩:=h3.sim f 0 _ hg0;show Calls P (ρr.f 53) #[B.eval x] w _
 generalize B.eval x=V0 at r0
 cases r0 with
 | own Q hle=>
  rename_i N o a
  by_cases z:k=[]
  .subst z;refine (AnyG.slices_Sort_int_none L a o w).mono λe X ⟨M,e2⟩=>?_;subst M e2;refine ⟨Z,hs.writeG f 0 _ _ ho t Z Z Z (Γ _) (Γ _) (λ_ _ _=>rfl) (λ_ _ e=>nomatch e) λT=>?_⟩;have h0:DA []=[]:=by simp [DA]
   rw [h0];exact ⟨Y,q1,⟨by simpa using q2.1,λx z=>(nomatch z),λi x z=>by simp at z⟩,λx z=>(nomatch z)⟩
  .have hn:0<k.length:=χa.2 z;have hul:Y.length=k.length:=by have:=q2.1;rw [χ] at this;omega
   have A:∃b m,a=some ⟨b,0,none⟩/\w.heap[b]? =some (.cells m E (0,0))/\m.size=o/\k.length<=o/\o<=maxLen/\m.toList.take k.length=Y/\N=k.length:=by
    rcases q1.2 with ⟨_,h⟩ | ⟨b,cap',m,M,_,e2,e3,e4,e5,e6⟩
    .grind
    grind
   obtain ⟨b,m,rfl,p1,p2,p3,p3',p4,rfl⟩:=A;have hb:Bu (ρ f 0)=some b:=by rw [Q];rfl
   have V:b<w.heap.size:=(ωn.1 p1).1
   have hus:∀i (hi:i<k.length),Y[i]? =some (.int .i64 k[i]):=λi hi=>by
    have hm:(k.map zD)[i]? =some (zD k[i]):=by rw [ν,ω hi];rfl
    obtain ⟨u,hu,_,hr⟩:=q2.2.2 i _ hm 0 (zD k[i]) rfl;rw [χs,ψx] at hu
    cases hr with
    | raw _=>exact hu
   have hH:Holds (Value.int .i64) w b 0 k.toArray:=by
    intro j hj
    grind [World.cell?,World.frozen?]
   have G:=AnyG.slices_Sort_int L b 0 o k w hH V hsz;refine G.mono λe X ⟨M,nd,os,hw⟩=>?_;subst M hw
   obtain ⟨q,H⟩:∃q,DA k=q:=⟨_,Z⟩
   have R:(k.mergeSort λx y=>decide (x<=y))=q:=H;have I:q.length=k.length:=by rw [<-H,FX]
   rw [H] at t hh;rw [R];refine ⟨Z,?_⟩;have r:((putRow (Value.int .i64) (Go.Sort.ahead w nd) b 0 q.toArray)).heap.size=w.heap.size:=by rw [Go.Sort.size_putRow];rfl
   have U:∀C,C<w.heap.size ->C≠b ->(Go.Sort.grow (putRow (Value.int .i64) (Go.Sort.ahead w nd) b 0 q.toArray) os).heap[C]? =w.heap[C]?:=λC hl hne=>by
    rw [Go.Sort.heap_grow_old _ _ (by rw [r];exact hl)];show (w.heap.modify b _)[C]? =_;rw [ψy,η (Ne.symm hne)]
   refine hs.writeG f 0 _ _ ho t Z Z Z (by rw [Go.Sort.size_grow,r];exact Nat.le_add_right _ _) (Nat.le_add_right _ _) (λC hl hno=>U C hl (λe=>hno (by rw [e];exact hb))) (λ_ _ e=>nomatch e) λT=>?_
   have K:(Go.Sort.grow (putRow (Value.int .i64) (Go.Sort.ahead w nd) b 0 q.toArray) os).heap[b]? =some (.cells (putCells (Value.int .i64) 0 q.toArray m) E (0,0)):=by
    rw [Go.Sort.heap_grow_old _ _ (by rw [r];exact V)];show (w.heap.modify b _)[b]? =_;rw [ψy,ς Z,p1];rfl
   have hcs:(putCells (Value.int .i64) 0 q.toArray m).size=o:=by simp only [putCells,Array.size_mapIdx];exact p2
   have l:(q.map zD).length=k.length:=by rw [χ,I]
   refine ⟨q.map (Value.int .i64),⟨by rw [χ,l,I,χs],.inr ⟨b,o,_,by rw [Q,l],ζ _,K,by rw [l];exact p3,p3',by omega,?_⟩⟩,⟨by rw [χ,l,I,χs],λx g=>?_,λi x g j c p=>?_⟩,λx g c p=>?_⟩
   .rw [l,χs]
    apply χn
    intro i
    by_cases hi:i<k.length
    .rw [ψn hi,ψd,ν,ω (by omega),ωg (by omega)];simp only [putCells,Array.getElem_mapIdx];rw [ς ⟨ζ _,by simp;omega⟩];simp only [Nat.sub_zero,ψl];rw [getElem!_pos _ i (by simp;omega)]
     simp
    .rw [ψm (by rw [ϱ];omega),ψm (by rw [χ];omega)]
   .obtain ⟨y,_,rfl⟩:=Ξ.1 g;rfl
   .rw [ν] at g
    cases hyi:q[i]? with
    | none=>rw [hyi] at g;cases g
    | some y=>
     rw [hyi] at g;injection g with g;subst g
     have hj0:j=0:=by have:=(φ.1 p).1;simp [D.cells] at this;exact this
     subst hj0;simp only [D.cells,List.getElem?_cons_zero,Option.some.injEq] at p;subst p;exact ⟨.int .i64 y,by rw [χs,ψx,ν,hyi];rfl,Z,.raw Z⟩
   .obtain ⟨y,_,rfl⟩:=Ξ.1 g;simp only [D.cells,κ] at p;subst p;rfl
end Go.Proofs.YteifpcnphnhaoaaGreat
namespace Go.Proofs.YteifpcnphnhaoaaGreat
open Go.RowKit
set_option maxRecDepth 100000
section
variable {P:Program} {F:Fr} {s:AS} {α β:Type} [DecidableEq α] {eK:α ->D} {eV:β ->D} {K:TypeId} {kv:α ->Value} {d:Nat} {ty T E:TypeId} {pos:String} {aft:Array Edge} {g:Option (Nat×Bool)} {x y z:Operand} {bs:Option (List Nat×Nat)}
variable {a:D}
theorem TP (m:List (α×β)) (b:α) (n v:β) {f i:Nat} (N:s.ev x=some (.map f i)) (S:hget s.hp f i=some (.map bs (B5 eK eV m))) (M:s.ev y=some (.d (eK b))) (H:Bo P T K E=true) (k:Bv P K eK kv) (L:DC P E=some (.d a)) (Q:∀w O v,A1 w O a v ->A1 w O (eV n) v) (R:Ad m b n=v) (U:Nat.blt d s.n=true):
  AA P F ⟨some d,.lookup T x y false,ty,pos,aft,g⟩ s d (.d (eV v)):=
 Cz _ U λl B w D=>by
  obtain ⟨Y,X,c,J,_,I,u,t,_⟩:=D.mapAt N S;have G:B.eval y=kv b:=(D.repD M).val (k.val b);obtain ⟨C,r,q⟩:=Eg L w
  have p:∀o O l,A9 o O l (.d (eV n)) C:=λo O l=>by
   have:=q o O l
   cases this with
   | d h=>exact .d (Q _ _ _ h)
  subst R;rcases hit_get k u t b n with ⟨A,_,W,_⟩ | ⟨j,e,A,Z,_,_,_,_,V⟩
  .refine ⟨C,?_,by rw [W];exact p _ _ _⟩
   simp [execOp,Instr.lookup,run_underlying (XB H),J,G,MapKept.run_getObj_map I,k.check,k.find w b _ _ (Ye k u t),A,r,Result.andThen]
  .refine ⟨e.val,?_,.d V⟩
   simp [execOp,Instr.lookup,run_underlying (XB H),J,G,MapKept.run_getObj_map I,k.check,k.find w b _ _ (Ye k u t),A,Result.andThen]
theorem OW (m:List (α×β)) (b:α) (A:β) {f i:Nat} (Y:s.ev x=some (.map f i)) (ho:hget s.hp f i=some (.map bs (B5 eK eV m))) (X:s.ev y=some (.d (eK b))) (S:Bo P T K E=true) (n:Bv P K eK kv) (W:DC P E=some (.d a)) (hw:∀w O v,A1 w O a v ->A1 w O (eV A) v) (hd:Nat.blt d s.n=true):
  AA P F ⟨some d,.lookup T x y true,ty,pos,aft,g⟩ s d (.tup [.d (eV (Ad m b A)),.d (.raw (.bool (Ot m b)))]):=
 Cz _ hd λk J w Q=>by
  obtain ⟨mb,arr,c,V,_,u,p,H,_⟩:=Q.mapAt Y ho;have R:J.eval y=kv b:=(Q.repD X).val (n.val b);obtain ⟨N,G,D⟩:=Eg W w
  have C:∀B O k,A9 B O k (.d (eV A)) N:=λB O k=>by
   have:=D B O k
   cases this with
   | d h=>exact .d (hw _ _ _ h)
  have l:∀{r q:Value} {M L:AV},A9 w (F.O k s.hp) k M r ->A9 w (F.O k s.hp) k L q ->A9 w (F.O k s.hp) k (.tup [M,L]) (.tuple #[r,q]):=λ{r q M L} u p=>by
   refine .tup (vs:=[r,q]) Z λi b v o t=>?_;rcases i with _ | _ | i
   .simp at o t;subst o t;exact u
   .simp at o t;subst o t;exact p
   .simp at o
  rcases hit_get n p H b A with ⟨I,U,g3,_⟩ | ⟨j,e,I,U,_,g4,_,_,g7⟩
  .refine ⟨.tuple #[N,.bool false],?_,l (by rw [g3];exact C _ _ _) (by rw [U];exact .d (.raw Z))⟩
   simp [execOp,Instr.lookup,run_underlying (XB S),V,R,MapKept.run_getObj_map u,n.check,n.find w b _ _ (Ye n p H),I,G,Result.andThen]
  .refine ⟨.tuple #[e.val,.bool true],?_,l (.d g7) (by rw [g4];exact .d (.raw Z))⟩
   simp [execOp,Instr.lookup,run_underlying (XB S),V,R,MapKept.run_getObj_map u,n.check,n.find w b _ _ (Ye n p H),I,Result.andThen]
end
theorem Hi:∀w O v,A1 w O (.agg [AF 0,AF 0,AF 0,.sl (some true) [],.sl (some true) [],.sl (some true) []]) v ->A1 w O (Af Ag) v:=λw O v h=>h.aggMono Z (by simp [D.one]) λi c e b a v d=>by
 match i,b,a with
 | 0,b,a=>injection b with b;injection a with a;subst b a;exact d
 | 1,b,a=>injection b with b;injection a with a;subst b a;exact d
 | 2,b,a=>injection b with b;injection a with a;subst b a;exact d
 | 3,b,a=>injection b with b;injection a with a;subst b a;exact d.anyNil
 | 4,b,a=>injection b with b;injection a with a;subst b a;exact d.anyNil
 | 5,b,a=>injection b with b;injection a with a;subst b a;exact d.anyNil
def linR (l:List Ae):List Ae:=l.mergeSort λa b=>decide (Bm a.r b.r<=0)
theorem MV (l:List Ae):(linR l).Perm l:=List.mergeSort_perm l _
theorem d8 (l:List Ae):(linR l).length=l.length:=(MV l).length_eq
theorem cmpR_le {a b c:AW} (e:Bm a b<=0) (d:Bm b c<=0):Bm a c<=0:=by
 by_cases g:Bm a b=0
 .rw [E4.1 g];exact d
 .by_cases f:Bm b c=0
  .rw [<-E4.1 f];exact e
  .have:=Pu.trans a b c (by omega) (by omega);omega
theorem UK (l:List Ae):(linR l).Pairwise λa b=>¬Bm b.r a.r<0:=by
 have:=List.pairwise_mergeSort (le:=λa b:Ae=>decide (Bm a.r b.r<=0)) (λa b c e d=>by simp only [ψv] at*;exact cmpR_le e d) (λa b=>by simp only [Bool.or_eq_true,ψv];have:=Pu.anti a.r b.r;omega) l
 exact this.imp λ{a b} h=>by
  have f:Bm a.r b.r<=0:=by simpa using h
  have:=Pu.anti a.r b.r;omega
theorem rsc_one {d:Type} (f:d ->AW) {l m g:List d} (c:(l.map f).Nodup) (o:m.Perm l) (i:m.Pairwise λa b=>¬Bm (f b) (f a)<0) (j:g.Perm l) (p:g.Pairwise λa b=>¬Bm (f b) (f a)<0):g=m:=by
 have n:∀{k:List d},(k.map f).Nodup ->(k.Pairwise λa b=>¬Bm (f b) (f a)<0) ->k.Pairwise λa b=>Bm (f a) (f b)<0:=λ{k} c h=>by
  rw [List.Nodup,ψc] at c;refine (h.and c).imp λ{a b} ⟨r,q⟩=>?_;have j:=Pu.anti (f a) (f b);have p:Bm (f a) (f b)≠0:=λe=>q (E4.1 e);omega
 exact DV (R:=λa b=>Bm (f a) (f b)<0) (λx=>by rw [Pu.refl];omega) (λx y z=>Pu.trans _ _ _) (n ((j.map f).nodup_iff.2 c) p) (n ((o.map f).nodup_iff.2 c) i) λx=>by rw [j.mem_iff,o.mem_iff]
structure Lin where
 r:AW
 n:Int
 q:List Int
abbrev Ov (x:Lin):D:= .agg [AF x.r.k,Aq x.r.acc.o,AF x.r.acc.k,Aq x.r.acc.a,Aq x.r.f,Aq x.r.t,AF x.n,.sl none (x.q.map AF)]
theorem db (x:Lin):∃a,Ov x= .agg a:=⟨_,Z⟩
def IV (p:Prb) (x:Ae):Lin:=⟨x.r,max x.n 0,Ke (ordP p) x.r⟩
def linL (p:Prb):List Lin:=(linR p.ro).map (IV p)
theorem Ie (p:Prb):(linL p).length=p.ro.length:=by unfold linL;rw [χ,d8]
theorem T7 {l:List Ae} (h:Dp l=0):(l.map Ae.r).Nodup:=by
 have c:=V1.1 h;rw [List.Nodup,ψc,ωk];intro i j d a b e;have:=c j (Ψ.2 a)
 grind [Ja,Gb]
theorem YB {p:Prb} (d:BE p=0) {c:List Lin} (f:c.Perm (p.ro.map (IV p))) (e:c.Pairwise λa b=>¬Bm b.r a.r<0):c=linL p:=by
 refine rsc_one Lin.r (l:=p.ro.map (IV p)) ?_ ((MV p.ro).map _) ?_ f e
 .rw [ωt];exact T7 (Pk d).1
 .unfold linL;rw [ψc];exact UK p.ro
theorem ana1_p (a b:Lin):AM prog 175 [.d (Ov a),.d (Ov b)] (AF (Bm a.r b.r)):=by
 refine Ax func175 Z Z ntmps175 Z Z Z λF c=>(AD (AE (V (Bi 1 Z Z Z Z Z Z Z) (V (Bi 2 Z Z Z Z Z Z Z) (AB Z Z (AC (AD ?_)))))));refine AE (J (AL Z LL Z Z Z) (J (BA Z Z Cc Z Z Z) (J (AL Z LL Z Z Z) (J (BA Z Z Cc Z Z Z) (J (Aw (Mh a.r b.r) Z Z) (AB Z Z (AC (AZ ?_))))))));exact ⟨_,[],[],AY Z,Z,Z,Z,Z⟩
def Cr (l:List AJ):List (Int×AJ):=l.map λi=>(i.id,i)
theorem W6 {l:List AJ} {i:AJ} (h:i.id∉l.map AJ.id):BZ (Cr l) i.id i=Cr (l++ [i]):=by
 induction l with
 | nil=>rfl
 | cons a l b=>
  grind [BZ,Cr]
section
variable {β:Type}
end
variable {p:Prb} {a:List (Int×Bool)} {k:Nat} {c:List Int} {d:Type}
def JA (p:Prb):List Int:=(ordP p).map AJ.id
abbrev HA (p:Prb):Hp:=[(10,[.blk 229 [.map 11 0,.d (.sl none ((JA p).map AF)),.d (.sl none ((linL p).map Ov))]]),(11,[B1 AF Af (Cr p.it)])]
theorem maxI (a:Int):(if 0>a then 0 else a)=max a 0:=by omega
theorem Pd (p:Prb) (s:E6 p) (B:BE p=0):AT prog 126 [.d (Bg p)] [] λr M=>r= .tup [.ptr 3 0 0,.d (AF 0)]/\M=[(3,[.blk 229 [.map 2 0,.d (.sl none ((JA p).map AF)),.d (.sl none ((linL p).map Ov))]]),(2,[B1 AF Af (Cr p.it)])]:=by
 have o:=HB p s;rw [B] at o;have A:=Df (Pk B).2.1;have v:=I6 p s;have H:=s.1;have G:=s.2.1;refine Ax func126 Z Z ntmps126 Z Z Z λF t=>(AD (AE (V (Bi 1 Z Z Z Z Z Z Z) ?_)));refine AB Z Z (AB Z Z (AC (AD (AD (AE (J (BA Z Z Br Z Z Z) (J (Aw (o) Z Z) (AB Z Z ?_))))))));refine AC (AD (AE (goMv Z Z (J (C7 Z Z Z) (AC (Cu Z ((by decide)) (AX (AD ?_))))))));refine AE (V (Ps 2 Z Z Z Z) (J (BA Z Z Br Z Z Z) (J (Aw (v) Z Z) (J (EI zl229 pl229 Z Z Z) (V (Bi 3 Z Z Z Z Z Z Z) (AB Z Z (AC (AD ?_))))))));refine AD (AE (J (AL Z Sd Z Z Z) (J (AQ Z Z Z Hc Z) (J (BU Z underlying37 Z) (goMv Z Z (AC (A2 (BO (α:=Nat) (λk=>⟨68,[(1,(.ptr 1 0 0)),(5,(.ptr 3 0 0)),(21,(.d (.sl none (p.it.map Af)))),(22,(.d (AF (p.it.length:Int)))),(23,(.d (AF (k:Int))))],[(1,[Dq 39 p]),(3,[.blk 229 [.map 2 0,.d (.sl none ((JA p).map AF)),Ex]]),(2,[B1 AF Af (Cr (p.it.take k))])]⟩) (λk=>k<=p.it.length) (λk=>p.it.length - k) (0) (ζ _) (AU t [1,3,2] Z Z ⟨Z,Z,Z,Z,Z,trivial⟩) ?_))))))));rintro k E;refine AD (AE (J (Az Z Z Z) (AC (AD (A7 Z (λl=>?_) (λl=>?_))))))
 .have g:k<p.it.length:=BR l;refine AX (AD (A2 (AD (AE ?_))));have w:p.it[k].id∉(p.it.take k).map AJ.id:=λh=>by have C:=A;rw [List.Nodup,ψc,ωk] at C;obtain ⟨x,D,e⟩:=Ξ.1 h;obtain ⟨j,N,rfl⟩:=ψg.1 D;exact C j k (by omega) g (by omega) e
  refine J (BC (k) Z Z (Z) (A3 g) underlying37 Z Cm Z) (J (Ca Z Z CO Z) (V (CA 4 FJ Z Z Z Z) (V (B4 Z Z Z Z Z Z Z Cm) (AC (CD [[],[0],[0,1],[0,1,2],[],[4],[],rg 7] mixed Z (Bt (Ak 5 Z Z (AP [27] Z (Ld Z Z) ?_))))))));refine AP [28] Z (AL Z LN Z Z Z) (Aj [29] Z Z (λ_=>A8 (AQ Z Z Z Tp Z)) (AP [7] Z (AL Z OG Z Z Z) (Aj [31] Z Z (λ_=>A8 (AQ Z Z Z Ai Z)) (Aj [7] Z Z (λ_=>A8 (BA Z Z CO Z Z Z)) (Bk 7 Z Z Z (Ab 8 Z Z (V (VZ (Cr (p.it.take k)) (p.it[k].id) (p.it[k]) Z Z Z UG IN Z Z) (AC ⟨Z,?_⟩))))))));refine Bx (AE (J (Ah Z Z (AK (k+1) (by omega)) Z) (goMv Z Z (AC ?_))));exact ⟨k+1,by show k+1<=_;omega,by show p.it.length - (k+1)<p.it.length - k;omega,AU t [1,3,2] Z (by rw [ψ g,<-W6 w];rfl) ⟨Z,Z,Z,Z,Z,trivial⟩⟩
 .refine Ar (AD (AD ?_));rw [θ (show p.it.length<=k by have h:=l;omega)];refine XA 3 0 2 900 bu Z Z Z Z Z Z Z (AE (J (AL Z DF Z Z Z) (J (AQ Z Z Z ML Z) (J (BU Z underlying36 Z) (goMv Z Z (AC (A2 (BO (α:=Nat×List Lin) (λq=>⟨68,[(1,(.ptr 1 0 0)),(5,(.ptr 3 0 0)),(36,(.d (.sl none (p.ro.map Bl)))),(37,(.d (AF (p.ro.length:Int)))),(38,(.d (AF (q.1:Int))))],[(900,[.rowD 233 8 (q.2.map Ov)]),(1,[Dq 39 p]),(3,[.blk 229 [.map 2 0,.d (.sl none ((JA p).map AF)),.own 900 0 q.2.length]]),(2,[B1 AF Af (Cr p.it)])]⟩) (λq=>q.1<=p.ro.length/\q.2=(p.ro.take q.1).map (IV p)) (λq=>p.ro.length - q.1) ((0,[])) (⟨ζ _,Z⟩) (AU t [900,1,3,2] Z Z ⟨Z,Z,Z,Z,Z,trivial⟩) ?_))))))));rintro ⟨m,c⟩ ⟨z,u⟩;dsimp only at z u⊢;refine AD (AE (J (Az Z Z Z) (AC (AD (A7 Z (λi=>?_) (λi=>?_))))))
  .have n:m<p.ro.length:=BR i;refine AX (AD (A2 (AD (AE ?_))));have I:c.length<=100000:=by rw [u,χ,ϱ];omega
   refine J (BC (m) Z Z (Z) (A3 n) underlying36 Z KY Z) ?_;refine J (Ca Z Z Vz Z) (V (CA 5 R3 Z Z Z Z) (V (B4 Z Z Z Z Z Z Z KY) (AC (CD [[],[],[1],[1,2],[1,2,3],[],[5],[],[7],[7,8],[],[],[11],[10,11,12],[5,6,7,8,9,10,11,12,13],[5,6,7,8,9,10,11,12,13,14],[1,2,3,4,5,6,7,8,9,10,11,12,13,14,15],rg 17,rg 18,rg 19] mixed Z (Bt (Ak 5 Z Z (Ak 5 Z Z (AP [43] Z (Ld Z Z) ?_))))))));refine AP [44] Z (AL Z LM Z Z Z) (As [45] [3] Z Z (λ_=>A8 (AQ Z Z Z Xe Z)) (AP [9] Z (AL Z EY Z Z Z) (As [47] [5] Z Z (λ_=>A8 (BA Z Z Cc Z Z Z)) (AP [9] Z (AL Z PU Z Z Z) (As [49] [5] Z Z (λ_=>A8 (AQ Z Z Z Fn Z)) (AP [50] Z (R9 Z Z (maxI _) Z) (As [1] [1] Z Z (λ_=>A8 (BA Z Z Br Z Z Z)) (AP [9] Z (AL Z EY Z Z Z) ?_))))))));refine As [53] [5] Z Z (λ_=>A8 (BA Z Z Cc Z Z Z)) (AP [52,54] Z (Aw (queue_p p p.ro[m].r s) Z Z) (AP [48,51,55] Z (EI aw pl233 Z Z Z) (F5 [56] [50] [(57,_)] Z Z (λ_=>F6 (C1 50 bu Z Z Z Z Z Z Z Z)) (.inr ⟨57,_,Z,Z,Z,Z,Z⟩) Z Z Z Z Z (F5 [46,57] [900,50,3,2] [(58,_)] Z Z (λ_=>F6 (Eu (c) ([IV p p.ro[m]]) Z Z Z Z Z Z Z Z bu (by simp only [υ];omega) Z Z Z Z)) (.inr ⟨58,_,Z,Z,Z,Z,Z⟩) Z Z Z Z Z (Bk 17 Z Z Z (Ab 18 Z Z (J (Ld Z Z) (AC ⟨Z,?_⟩))))))));refine Ab 19 Z Z (J (AL Z LM Z Z Z) (AC ⟨Z,?_⟩));refine Ab 20 Z Z (V (B4 Z Z Z Z Z Z Z sz227) (AC ⟨Z,?_⟩));refine Bx (AE (J (Ah Z Z (AK (m+1) (by omega)) Z) (goMv Z Z (AC ?_))));exact ⟨(m+1,c++ [IV p p.ro[m]]),⟨by show m+1<=_;omega,by show c++ [IV p p.ro[m]]=(p.ro.take (m+1)).map (IV p);rw [EK n,u]⟩,by show p.ro.length - (m+1)<p.ro.length - m;omega,AU t [900,1,3,2] Z (Z) ⟨Z,Z,Z,Z,Z,trivial⟩⟩
  .refine Ar (AD ?_);have f:c=p.ro.map (IV p):=by rw [u,θ (by have h:=i;omega)]
   refine AE (goMv Z Z (J (Ld Z Z) (J (AL Z LM Z Z Z) (J (AQ Z Z Z Xe Z) (V (Nf laysLn (k:=8) (by decide) isAgg233 sizeOf233 func175 Z Z db (λa b=>Bm a.r b.r) ((Pu.comap Lin.r).swo) c (linL p) (by rw [f,χ];omega) (λx _ y _=>ana1_p x y) (λys L K=>YB B (by rw [<-f];exact L) K) Z Z Z Ma Z Z Z Z Z) ?_)))));refine AC (AD (Va (ys:=(linL p).map Ov) 3 0 2 900 Z Z Z (by rw [χ,Ie,f,χ];exact Γ _) (θ (by rw [χ,Ie,f,χ];exact Γ _)) Z Z Z Z Z Z (AE (goMv Z Z (AB Z Z (AB Z Z (AC (AZ ?_))))))));exact ⟨_,[3,2],_,AY Z,Z,Z,Z,Z⟩
theorem VR (p:Prb) (b:E6 p) (c:BE p≠0):AM prog 126 [.d (Bg p)] (.tup [.raw (.pointer none),AF (BE p)]):=by
 have a:=HB p b;refine Ax func126 Z Z ntmps126 Z Z Z λF e=>(AD (AE (V (Bi 1 Z Z Z Z Z Z Z) (AB Z Z (AB Z Z (AC (AD (AD ?_))))))));refine AE (J (BA Z Z Br Z Z Z) (J (Aw (a) Z Z) (AB Z Z (AC (AD (AE (goMv Z Z (J (C7 Z Z Z) ?_))))))));refine AC (Bz Z ((ωf c)) (AD (AE (goMv Z Z (AB Z Z (AB Z Z (AC (AZ ?_))))))));exact ⟨_,[],[],AY Z,Z,Z,Z,Z⟩
theorem W7 (l:List AJ) (i:Int):Ad (Cr l) i Ag=l.getD ((l.map AJ.id).idxOf i) Ag:=by
 induction l with
 | nil=>rfl
 | cons a l b=>
  grind [Ad,Cr]
theorem KA (l:List AJ) (i:Int):Ot (Cr l) i=decide (i∈l.map AJ.id):=by
 rw [φi,Ft,ψv];unfold Cr;rw [ωt];rfl
theorem Qx (p:Prb) (i:Int):Ad (Cr p.it) i Ag=B8 p i:=W7 p.it i
theorem SA (a:E6 p) (i:Int):(B8 p i).po.length<=100000/\(B8 p i).pa.length<=100000/\(B8 p i).af.length<=100000:=by grind [B8,Ag,E6]
theorem Oa (p:Prb) (l:List Int) (s:E6 p) (v:l.length<=100000) (c:C5 p l=0):AT prog 71 [.d (Bg p),.d (.sl none (l.map AF))] [] λr u=>r= .tup [.ptr 10 0 0,.map 2 0,.d (AF 0)]/\u=HA p++ [(2,[B1 AF Am (BS l)])]:=by
 have o:BE p=0:=by
  unfold C5 at c;split at c
  .exact c
  .rename_i h;simpa using h
 have m:=(Pd p s o).by [(3,10),(2,11)] rfl;have t:C5 p l=K8 (p.it.map AJ.id) l:=η (λh=>h o);rw [t] at c;refine Ax func71 Z Z ntmps71 Z Z Z λF n=>(AD (AE (V (Bi 1 Z Z Z Z Z Z Z) ?_)));refine AB Z Z (AB Z Z (AB Z Z (AC (AD (AE (J (BA Z Z Br Z Z Z) (V (FG m Z [10,11] ⟨Z,Z,trivial⟩ Z Z Z Z Z Z Z Z Z) (goMv Z Z ?_))))))));refine J (DG Z Z Z) (J (DG Z Z Z) (AB Z Z (AB Z Z (AC (AD (AD (AE (goMv Z Z ?_))))))));refine J (C7 Z Z Z) (AC (Cu Z ((by decide)) (AX (AD (AE (V (Ps 2 Z Z Z Z) (AB Z Z (AC ?_))))))));refine AD (AD (AE (goMv Z Z (J (BU Z underlying28 Z) (goMv Z Z (AC (A2 (BO (α:=Nat) (λk=>⟨48,[(7,(.ptr 10 0 0)),(9,(.map 2 0)),(23,(.d (.sl none (l.map AF)))),(24,(.d (AF (l.length:Int)))),(25,(.d (AF (k:Int))))],HA p++ [(2,[B1 AF Am (BS (l.take k))])]⟩) (λk=>k<=l.length) (λk=>l.length - k) (0) (ζ _) (AU n [10,11,2] Z Z ⟨Z,Z,Z,Z,Z,trivial⟩) ?_))))))));rintro k q;refine AD (AE (J (Az Z Z Z) (AC (AD (A7 Z (λb=>?_) (λb=>?_))))))
 .have a:k<l.length:=BR b;refine AX (AD (A2 (AD (AE ?_))));have i:l[k]∈p.it.map AJ.id:=(Re c).2 _ (ϑ a);have f:l[k]∉l.take k:=λh=>by have g:=(Re c).1;rw [List.Nodup,ωk] at g;obtain ⟨j,w,e⟩:=ψg.1 h;exact g j k (by omega) a (by omega) e
  refine J (BC (k) Z Z (Z) (A3 a) underlying28 Z BD Z) (J (CF Z Z Ai Z) (AB Z Z (AC (AD (AD (AE (goMv Z Z (J (Ld Z Z) ?_))))))));refine J (AL Z LN Z Z Z) (J (AQ Z Z Z Tp Z) (goMv Z Z (J (OW (Cr p.it) l[k] Ag Z Z Z UG IN za55 Hi Z) (goMv Z Z (J (DG Z Z Z) (J (DG Z Z Z) (V (CA 3 FJ Z Z Z Z) (V (B4 Z Z Z Z Z Z Z Cm) ?_))))))));refine AB Z Z (AC (AD (AE (goMv Z Z (J (NQ Z Z) (AC (Cu Z ((by rw [KA,ωf i];rfl)) (AX ?_))))))));refine AD (AD (AE (goMv Z Z (goMv Z Z (J (IR (BS (l.take k)) (l[k]) (false) _ Z Z Z Ji IN Sv Z Z) (AC (Cu Z ((by rw [Yc];exact ωh f)) (AX ?_))))))));refine AE (goMv Z Z (goMv Z Z (V (VZ (BS (l.take k)) (l[k]) (true) Z Z Z Ji IN Z Z) (AC (AE (J (Ah Z Z (AK (k+1) (by omega)) Z) (goMv Z Z (AC ?_))))))));exact ⟨k+1,by show k+1<=_;omega,by show l.length - (k+1)<l.length - k;omega,AU n [10,11,2] Z (by rw [ψ a,<-ao f];rfl) ⟨Z,Z,Z,Z,Z,trivial⟩⟩
 .refine Ar ?_;refine AD (AE (goMv Z Z (goMv Z Z (AB Z Z (AB Z Z (AB Z Z (AC (AZ ?_))))))));exact ⟨_,[10,11,2],_,AY Z,Z,Z,Z,by rw [θ (show l.length<=k by have h:=b;omega)];rfl⟩
theorem Tg (p:Prb) (l:List Int) (w:E6 p) (z:l.length<=100000) (t:C5 p l≠0):AM prog 71 [.d (Bg p),.d (.sl none (l.map AF))] (.tup [.raw (.pointer none),.raw (.map none),AF (C5 p l)]):=by
 by_cases o:BE p=0
 .have q:=(Pd p w o).by [(3,10),(2,11)] rfl;have u:C5 p l=K8 (p.it.map AJ.id) l:=η (λh=>h o);rw [u] at t⊢
  obtain ⟨y,n⟩:∃e,K8 (p.it.map AJ.id) l=e:=⟨_,Z⟩
  rw [n] at t⊢;refine Ax func71 Z Z ntmps71 Z Z Z λF s=>(AD (AE (V (Bi 1 Z Z Z Z Z Z Z) ?_)));refine AB Z Z (AB Z Z (AB Z Z (AC (AD (AE (J (BA Z Z Br Z Z Z) (V (FG q Z [10,11] ⟨Z,Z,trivial⟩ Z Z Z Z Z Z Z Z Z) (goMv Z Z ?_))))))));refine J (DG Z Z Z) (J (DG Z Z Z) (AB Z Z (AB Z Z (AC (AD (AD (AE (goMv Z Z ?_))))))));refine J (C7 Z Z Z) (AC (Cu Z ((by decide)) (AX (AD (AE (V (Ps 2 Z Z Z Z) (AB Z Z (AC ?_))))))));refine AD (AD (AE (goMv Z Z (J (BU Z underlying28 Z) (goMv Z Z (AC (A2 (BO (α:=Nat) (λk=>⟨48,[(7,(.ptr 10 0 0)),(9,(.map 2 0)),(23,(.d (.sl none (l.map AF)))),(24,(.d (AF (l.length:Int)))),(25,(.d (AF (k:Int))))],HA p++ [(2,[B1 AF Am (BS (l.take k))])]⟩) (λk=>k<=l.length/\y=BQ (((List.range l.length).drop k).map (Et (p.it.map AJ.id) l))) (λk=>l.length - k) (0) (⟨ζ _,n.symm⟩) (AU s [10,11,2] Z Z ⟨Z,Z,Z,Z,Z,trivial⟩) ?_))))))));rintro k ⟨x,v⟩;refine AD (AE (J (Az Z Z Z) (AC (AD (A7 Z (λm=>?_) (λm=>?_))))))
  .have f:k<l.length:=BR m;refine AX (AD (A2 (AD (AE ?_))));have j:=Zcw f v;have i:=FF 0 f;refine J (BC (k) Z Z (Z) (A3 f) underlying28 Z BD Z) (J (CF Z Z Ai Z) (AB Z Z (AC (AD (AD (AE (goMv Z Z ?_)))))));refine J (Ld Z Z) (J (AL Z LN Z Z Z) (J (AQ Z Z Z Tp Z) (goMv Z Z (J (OW (Cr p.it) l[k] Ag Z Z Z UG IN za55 Hi Z) (goMv Z Z (J (DG Z Z Z) (J (DG Z Z Z) (V (CA 3 FJ Z Z Z Z) ?_))))))));refine V (B4 Z Z Z Z Z Z Z Cm) (AB Z Z (AC (AD (AE (goMv Z Z (J (NQ Z Z) (AC (JC Z (λb=>?_) (λb=>?_)))))))))
   .have g:¬l[k]∈p.it.map AJ.id:=by rw [KA] at b;simpa using b
    refine AD (AE (AB Z Z (AB Z Z (AB Z Z (AC (AZ ?_))))));exact ⟨_,[],[],AY Z,Z,Z,by rw [j.2 9 (by unfold Et;rw [i,ς g]) (by decide)],Z⟩
   .have g:l[k]∈p.it.map AJ.id:=by rw [KA] at b;simpa using b
    refine AX (AD (AD (AE (goMv Z Z (goMv Z Z (J (IR (BS (l.take k)) (l[k]) (false) _ Z Z Z Ji IN Sv Z Z) (AC (JC Z (λa=>?_) (λa=>?_)))))))))
    .have c:l[k]∈l.take k:=by rw [Yc] at a;simpa using a
     refine AD (AE (AB Z Z (AB Z Z (AB Z Z (AC (AZ ?_))))));exact ⟨_,[],[],AY Z,Z,Z,by rw [j.2 7 (by unfold Et;rw [i,η (λh=>h g),ς c]) (by decide)],Z⟩
    .have c:¬l[k]∈l.take k:=by rw [Yc] at a;simpa using a
     refine AX ?_;refine AE (goMv Z Z (goMv Z Z (V (VZ (BS (l.take k)) (l[k]) (true) Z Z Z Ji IN Z Z) (AC (AE (J (Ah Z Z (AK (k+1) (by omega)) Z) (goMv Z Z (AC ?_))))))));exact ⟨k+1,⟨by show k+1<=_;omega,j.1 (by unfold Et;rw [i,η (λh=>h g),η c])⟩,by show l.length - (k+1)<l.length - k;omega,AU s [10,11,2] Z (by rw [ψ f,<-ao c];rfl) ⟨Z,Z,Z,Z,Z,trivial⟩⟩
  .refine Ar ?_;refine AD (AE (goMv Z Z (goMv Z Z (AB Z Z (AB Z Z (AB Z Z (AC (AZ ?_))))))));exact absurd (by rw [v,χp (by have h:=m;simp only [ωo];omega)];rfl) t
 .have u:C5 p l=BE p:=ς o;have r:=VR p w o;rw [u];refine Ax func71 Z Z ntmps71 Z Z Z λF s=>(AD (AE (V (Bi 1 Z Z Z Z Z Z Z) (AB Z Z (AB Z Z ?_)))));refine AB Z Z (AC (AD (AE (J (BA Z Z Br Z Z Z) (J (Aw (r) Z Z) (goMv Z Z (J (Di Z Z Z) (J (Di Z Z Z) ?_))))))));refine AB Z Z (AB Z Z (AC (AD (AD (AE (goMv Z Z (J (C7 Z Z Z) (AC ?_))))))));refine Bz Z ((ωf o)) (AD (AE (goMv Z Z (AB Z Z (AB Z Z (AB Z Z (AC (AZ ?_))))))));exact ⟨_,[],[],AY Z,Z,Z,Z,Z⟩
structure Bkd where
 i:Int
 m:Int
 r:AW
 deriving DecidableEq
abbrev QB:AW:=⟨0,Sc,[],[]⟩
abbrev QN (x:Bkd):D:= .agg [AF x.i,AF x.m,AF x.r.k,Aq x.r.acc.o,AF x.r.acc.k,Aq x.r.acc.a,Aq x.r.f,Aq x.r.t]
def prefN (i:Int) (q:List Int):Nat:=(max (W3 i q) 0).toNat
def DB (i:Int) (q:List Int):List Int:=q.take (prefN i q)
def ZV (i:Int) (af:List Int):List Bkd:=(DA af).map λx=>⟨i,x,QB⟩
def FL (i:Int) (x:Lin):List Bkd:=(DB i x.q).map λy=>⟨i,y,x.r⟩
def Pr (p:Prb) (i:Int):List Bkd:=ZV i (B8 p i).af++(linL p).flatMap (FL i)
def FU (inM:Int ->Bool) (l:List Bkd):List Bkd:=l.filter λb=>!inM b.m
def inM (M:List (Int×Bool)) (x:Int):Bool:=Ad M x false
theorem cZ (i:Int) (q:List Int):prefN i q<=q.length:=by grind [prefN,W3]
theorem c6 (i:Int) (q:List Int):max (W3 i q) 0=(prefN i q:Int):=by unfold prefN;omega
theorem VL (f:Int ->Bool) (l m:List Bkd):FU f (l++m)=FU f l++FU f m:=ωv _ _
theorem GC (f:Int ->Bool) (l:List Bkd):(FU f l).length<=l.length:=ωj _ _
theorem J5 {f:Int ->Bool} {l:List Bkd} (a:k<l.length):FU f (l.take (k+1))=FU f (l.take k)++(if !f l[k].m then [l[k]] else []):=Er a
theorem HK {a:Type} {f:d ->List a} {l:List d} (b:k<l.length):(l.take (k+1)).flatMap f=(l.take k).flatMap f++f l[k]:=by
 rw [ψ b,List.flatMap_append];simp
theorem LK {b c:Type} {f:b ->List c} {n:Nat}:∀{l:List b},(∀x∈l,(f x).length<=n) ->(l.flatMap f).length<=l.length*n
 | [],_=>by simp
 | a::l,h=>by
  have g:=h a (by simp);have e:=LK (l:=l) (λx d=>h x (by simp [d]));rw [List.flatMap_cons,Δ,χq,φf];omega
theorem d9 (x:Lin) (a:x∈linL p):x.q.length<=p.it.length:=by
 unfold linL at a;obtain ⟨y,_,rfl⟩:=Ξ.1 a;show (Ke (ordP p) y.r).length<=_
 grind [Ke,Dr]
theorem Ta (i:Int) (x:Lin) (a:x∈linL p):(FL i x).length<=p.it.length:=by
 unfold FL DB;rw [χ,ϱ];have:=d9 x a;omega
abbrev mapV (mv:Nat):AV:= .d (.raw (.map (some mv)))
abbrev HM2 (p:Prb) (mv:Nat) (bs:Option (List Nat×Nat)) (M:List (Int×Bool)):Hp:=HA p++ [(12,[.map bs (B5 AF Am M)]),(13,[.addr 12 0 (.map (some mv))])]
theorem Wq (p:Prb) (e:Nat) (I:Option (List Nat×Nat)) (M:List (Int×Bool)) (i:Int) (hb:E6 p) (h1:p.it.length<=1000) (h2:p.ro.length<=1000):AT prog 127 [.ptr 10 0 0,mapV e,.d (AF i)] (HM2 p e I M) λr H'=>r= .d (.sl none ((FU (inM M) (Pr p i)).map QN))/\H'=HM2 p e I M:=by
 have hI:=Qx p i;have hIb:=SA hb i;have hLl:=Ie p;have U:=(VF (B8 p i).af (by omega)).by [(20,21)] rfl;have D:∀x∈linL p,(FL i x).length<=1000:=λx L=>ωa (Ta i x L) h1;have A:=FX (B8 p i).af
 obtain ⟨S,W⟩:∃S,DA (B8 p i).af=S:=⟨_,Z⟩
 have B:Pr p i=(S.map λx=>(⟨i,x,QB⟩:Bkd))++(linL p).flatMap (FL i):=by unfold Pr ZV;rw [W]
 rw [B];rw [W] at A;refine Ax func127 Z Z ntmps127 Z Z Z λF o=>(AD ?_);refine AE (AB Z Z (AC (AD (AE (AB Z Z (AC (AD (NR 7 900 O0 Z Z Z Z ?_))))))));refine AE (goMv Z Z (J (Ld Z Z) (J (AL Z LN Z Z Z) (J (AQ Z Z Z Tp Z) (goMv Z Z (J (TP (Cr p.it) i Ag (B8 p i) Z Z Z UG IN za55 Hi hI Z) (J (Vv Z EA Z Z) (V (FG U Z [21] ⟨Z,trivial⟩ Z Z Z Z Z Z Z Z Z) ?_))))))));refine AB Z Z (AC (AD (AE (goMv Z Z (V (TL laysS (B8 p i).af (by omega) Z Z Z Z Z Z Z) (AC (AD (AD ?_))))))));rw [W];refine KP (emb:=AF) 8 21 S Z Z Z A.symm Z Z Z (AE (goMv Z Z (J (BU Z underlying28 Z) (goMv Z Z (AC (A2 (BO (α:=Nat×List Bkd) (λq=>⟨81,[(0,.ptr 10 0 0),(1,mapV e),(2,.d (AF i)),(7,(.own 900 0 q.2.length)),(26,(.d (.sl none (S.map AF)))),(27,(.d (AF (S.length:Int)))),(28,(.d (AF (q.1:Int))))],HM2 p e I M++ [(900,[.rowD 144 8 (q.2.map QN)])]⟩) (λq=>q.1<=S.length/\q.2=FU (inM M) ((S.map λx=>(⟨i,x,QB⟩:Bkd)).take q.1)) (λq=>S.length - q.1) ((0,[])) (⟨ζ _,Z⟩) (AU o [10,11,12,13,900] Z Z ⟨Z,Z,Z,Z,Z,Z,Z,trivial⟩) ?_)))))));rintro ⟨k,c⟩ ⟨O,H⟩;dsimp only at O H⊢;refine AD (AE (J (Az Z Z Z) (AC (AD (A7 Z (λz=>?_) (λz=>?_))))))
 .have s:k<S.length:=BR z;refine AX (AD (A2 (AD (AE (J (BC (k) Z Z (Z) (A3 s) underlying28 Z BD Z) (J (CF Z Z Ai Z) (AB Z Z (AC ?_))))))));refine AD (AE (goMv Z Z (Dv 32 13 0 Z Z (goMv Z Z (J (IR M S[k] false (inM M S[k]) Z Z Z Ji IN Sv Z Z) (J (NQ Z Z) (AC (JC Z (λy=>?_) (λy=>?_)))))))))
  .refine AE ?_;have hal:c.length<=100000:=by rw [H];refine ωa (GC _ _) ?_;rw [ϱ,χ];omega
   refine goMv Z Z (goMv Z Z (goMv Z Z ?_));refine J (EI bA pl144 Z Z Z) (V (C1 1 O0 Z Z Z Z Z Z Z Z) (V (Eu (c) ([⟨i,S[k],QB⟩]) Z Z Z Z Z Z Z Z O0 (by simp only [υ];omega) Z Z Z Z) (AB Z Z (AC (AE (J (Ah Z Z (AK (k+1) (by omega)) Z) (goMv Z Z (AC ?_))))))));exact ⟨(k+1,c++ [⟨i,S[k],QB⟩]),⟨by show k+1<=_;omega,by show c++ [⟨i,S[k],QB⟩]=FU (inM M) ((S.map λx=>(⟨i,x,QB⟩:Bkd)).take (k+1));rw [J5 (by simpa using s),ωp,ς (by show (!inM M S[k])=true;simpa using y),H]⟩,by show S.length - (k+1)<S.length - k;omega,AU o [10,11,12,13,900] Z (Z) ⟨Z,Z,Z,Z,Z,Z,Z,trivial⟩⟩
  .refine AX (AE (J (Ah Z Z (AK (k+1) (by omega)) Z) (goMv Z Z (AC ?_))));exact ⟨(k+1,c),⟨by show k+1<=_;omega,by show c=FU (inM M) ((S.map λx=>(⟨i,x,QB⟩:Bkd)).take (k+1));rw [J5 (by simpa using s),ωp,η (by show ¬(!inM M S[k])=true;simpa using y),ωi,H]⟩,by show S.length - (k+1)<S.length - k;omega,AU o [10,11,12,13,900] Z (Z) ⟨Z,Z,Z,Z,Z,Z,Z,trivial⟩⟩
 .refine Ar (AD (AD ?_));have G:c=FU (inM M) (S.map λx=>(⟨i,x,QB⟩:Bkd)):=by rw [H,θ (by rw [χ];have h:=z;omega)]
  have Y:c.length<=100000:=by rw [G];refine ωa (GC _ _) ?_;rw [χ];omega
  refine AE ?_;refine goMv Z Z (J (Ld Z Z) (J (AL Z LM Z Z Z) (J (AQ Z Z Z Xe Z) (J (BU Z underlying227 Z) (goMv Z Z (AC (A2 (BO (α:=Nat×List Bkd) (λq=>⟨81,[(0,.ptr 10 0 0),(1,mapV e),(2,.d (AF i)),(7,(.own 900 0 q.2.length)),(46,(.d (.sl none ((linL p).map Ov)))),(47,(.d (AF ((linL p).length:Int)))),(48,(.d (AF (q.1:Int))))],HM2 p e I M++ [(900,[.rowD 144 8 (q.2.map QN)])]⟩) (λq=>q.1<=(linL p).length/\q.2=c++FU (inM M) (((linL p).take q.1).flatMap (FL i))) (λq=>(linL p).length - q.1) ((0,c)) (⟨ζ _,by simp [FU]⟩) (AU o [10,11,12,13,900] Z Z ⟨Z,Z,Z,Z,Z,Z,Z,trivial⟩) ?_))))))));rintro ⟨m,b⟩ ⟨N,K⟩;dsimp only at N K⊢;refine AD (AE (J (Az Z Z Z) (AC (AD (A7 Z (λw=>?_) (λw=>?_))))))
  .have g:m<(linL p).length:=BR w;refine AX (AD (A2 (AD (AE ?_))));have hql:=d9 _ (ϑ g);have R:=LK (f:=FL i) (n:=1000) (l:=(linL p).take m) (λx L=>D x (ωs L));have hbl:b.length<=1200000:=by rw [K,Δ];have:=GC (inM M) (((linL p).take m).flatMap (FL i));rw [ϱ] at R;have h3:min m (linL p).length*1000<=1000*1000:=ψa _ (by omega);omega
   refine J (BC (m) Z Z (Z) (A3 g) underlying227 Z XQ Z) (J (Ca Z Z rw233 Z) (V (CA 2 aw Z Z Z Z) (V (B4 Z Z Z Z Z Z Z XQ) (AC (AD (AE ?_))))));refine J (AL Z YP Z Z Z) (J (AQ Z Z Z BF Z) (goMv Z Z (J (Aw (YL (linL p)[m].q i (by omega)) Z Z) (AB Z Z (AC (AD (AE (J (AL Z YP Z Z Z) ?_))))))));refine J (AQ Z Z Z BF Z) (goMv Z Z (J (R9 Z Z (maxI _) Z) (J (Zch ((linL p)[m].q) (prefN i (linL p)[m].q) Z Z Z (c6 _ _) (cZ _ _) underlying28 BD (λ_=>rfl) Z) (J (BU Z underlying28 Z) (goMv Z Z (AC (A2 (BO (α:=Nat×List Bkd) (λq=>⟨81,[(0,.ptr 10 0 0),(1,mapV e),(2,.d (AF i)),(7,(.own 900 0 q.2.length)),(12,(.ptr 2 0 0)),(46,(.d (.sl none ((linL p).map Ov)))),(47,(.d (AF ((linL p).length:Int)))),(48,(.d (AF (m:Int)))),(60,(.d (.sl none ((DB i (linL p)[m].q).map AF)))),(61,(.d (AF ((DB i (linL p)[m].q).length:Int)))),(62,(.d (AF (q.1:Int))))],HM2 p e I M++ [(900,[.rowD 144 8 (q.2.map QN)]),(2,[.blk 233 [.d (AF (linL p)[m].r.k),.d (Aq (linL p)[m].r.acc.o),.d (AF (linL p)[m].r.acc.k),.d (Aq (linL p)[m].r.acc.a),.d (Aq (linL p)[m].r.f),.d (Aq (linL p)[m].r.t),.d (AF (linL p)[m].n),.d (.sl none ((linL p)[m].q.map AF))]])]⟩) (λq=>q.1<=(DB i (linL p)[m].q).length/\q.2=b++FU (inM M) ((FL i (linL p)[m]).take q.1)) (λq=>(DB i (linL p)[m].q).length - q.1) ((0,b)) (⟨ζ _,by simp [FU]⟩) (AU o [10,11,12,13,900,2] Z Z ⟨Z,Z,Z,Z,Z,Z,Z,Z,Z,Z,Z,trivial⟩) ?_))))))));rintro ⟨j,a⟩ ⟨Q,E⟩;dsimp only at Q E⊢;refine AD (AE (J (Az Z Z Z) (AC (AD (A7 Z (λv=>?_) (λv=>?_))))))
   .have t:j<(DB i (linL p)[m].q).length:=BR v;refine AX (AD (A2 (AD (AE (J (BC (j) Z Z (Z) (A3 t) underlying28 Z BD Z) (J (CF Z Z Ai Z) (AB Z Z (AC ?_))))))));refine AD (AE (goMv Z Z (Dv 66 13 0 Z Z (goMv Z Z (J (IR M (DB i (linL p)[m].q)[j] false (inM M (DB i (linL p)[m].q)[j]) Z Z Z Ji IN Sv Z Z) (J (NQ Z Z) (AC (JC Z (λu=>?_) (λu=>?_)))))))))
    .refine AE ?_;have X:a.length<=1300000:=by rw [E,Δ];have h3:=GC (inM M) ((FL i (linL p)[m]).take j);have h4:=D _ (ϑ g);rw [ϱ] at h3;omega
     refine goMv Z Z (goMv Z Z (goMv Z Z (J (AL Z LL Z Z Z) (J (BA Z Z Cc Z Z Z) ?_))));refine J (EI bA pl144 Z Z Z) (V (C1 3 O0 Z Z Z Z Z Z Z Z) (V (Eu (a) ([⟨i,(DB i (linL p)[m].q)[j],(linL p)[m].r⟩]) Z Z Z Z Z Z Z Z O0 (by simp only [υ];omega) Z Z Z Z) (AB Z Z (AC (AE (J (Ah Z Z (AK (j+1) (by have h5:(DB i (linL p)[m].q).length<=1000:=by {unfold DB;rw [ϱ];omega};omega)) Z) (goMv Z Z (AC ?_))))))));exact ⟨(j+1,a++ [⟨i,(DB i (linL p)[m].q)[j],(linL p)[m].r⟩]),⟨by show j+1<=_;omega,by show a++ [⟨i,(DB i (linL p)[m].q)[j],(linL p)[m].r⟩]=b++FU (inM M) ((FL i (linL p)[m]).take (j+1));rw [J5 (by unfold FL;simpa using t),E,ψi];congr 2;unfold FL;rw [ωp,ς (by show (!inM M (DB i (linL p)[m].q)[j])=true;simpa using u)]⟩,by show (DB i (linL p)[m].q).length - (j+1)<(DB i (linL p)[m].q).length - j;omega,AU o [10,11,12,13,900,2] Z (Z) ⟨Z,Z,Z,Z,Z,Z,Z,Z,Z,Z,Z,trivial⟩⟩
    .refine AX (AE (J (Ah Z Z (AK (j+1) (by have h5:(DB i (linL p)[m].q).length<=1000:=by {unfold DB;rw [ϱ];omega};omega)) Z) (goMv Z Z (AC ?_))));exact ⟨(j+1,a),⟨by show j+1<=_;omega,by show a=b++FU (inM M) ((FL i (linL p)[m]).take (j+1));rw [J5 (by unfold FL;simpa using t),E];unfold FL;rw [ωp,η (by show ¬(!inM M (DB i (linL p)[m].q)[j])=true;simpa using u),ωi]⟩,by show (DB i (linL p)[m].q).length - (j+1)<(DB i (linL p)[m].q).length - j;omega,AU o [10,11,12,13,900,2] Z (Z) ⟨Z,Z,Z,Z,Z,Z,Z,Z,Z,Z,Z,trivial⟩⟩
   .have C:a=b++FU (inM M) (FL i (linL p)[m]):=by rw [E,θ (by unfold FL;rw [χ];have h:=v;omega)]
    refine Ar (AE (J (Ah Z Z (AK (m+1) (by omega)) Z) (goMv Z Z (AC ?_))));exact ⟨(m+1,a),⟨by show m+1<=_;omega,by show a=c++FU (inM M) (((linL p).take (m+1)).flatMap (FL i));rw [HK g,VL,<-ψi,<-K];exact C⟩,by show (linL p).length - (m+1)<(linL p).length - m;omega,AU o [10,11,12,13,900] Z (Z) ⟨Z,Z,Z,Z,Z,Z,Z,trivial⟩⟩
  .refine Ar (AD ?_);have T:b=FU (inM M) ((S.map λx=>(⟨i,x,QB⟩:Bkd))++(linL p).flatMap (FL i)):=by rw [K,G,θ (by have h:=w;omega),VL]
   refine KP (emb:=QN) 7 900 b Z Z Z Z Z Z Z (AE (goMv Z Z (AB Z Z (AC (AZ ?_)))));exact ⟨_,[10,11,12,13],_,AY Z,Z,Z,by rw [T],Z⟩
def KJ (p:Prb) (f:Int ->Bool) (i:Int):List Bkd:=if f i then FU f (Pr p i) else []
def blks (p:Prb) (f:Int ->Bool):List Bkd:=(JA p).flatMap (KJ p f)
theorem Rk (b:E6 p) (c:p.it.length<=1000) (g:p.ro.length<=1000) (i:Int):(Pr p i).length<=1100000:=by
 unfold Pr ZV;rw [Δ,χ,FX];have e:=SA b i;have d:=LK (f:=FL i) (n:=1000) (l:=linL p) (λx a=>ωa (Ta i x a) c)
 grind [Ie]
theorem VM (a:E6 p) (c:p.it.length<=1000) (b:p.ro.length<=1000) (f:Int ->Bool) (i:Int):(KJ p f i).length<=1100000:=by grind [KJ,GC,Rk]
theorem le_step {a N:Nat} (h:a<=k*N):a<=(k+1)*N:=ωa h (ψa _ (Nat.le_succ _))
theorem dg {a b:List d} {N:Nat} (h:a.length<=k*N) (c:b.length<=N):(a++b).length<=(k+1)*N:=by grind
theorem fb (p:Prb) (f:Nat) (o:Option (List Nat×Nat)) (M:List (Int×Bool)) (l:E6 p) (j:p.it.length<=1000) (n:p.ro.length<=1000):AT prog 72 [.ptr 10 0 0,mapV f] (HM2 p f o M) λr z=>r= .d (.sl none ((blks p (inM M)).map QN))/\z=HM2 p f o M:=by
 have y:∀i,(KJ p (inM M) i).length<=1100000:=VM l j n _;have g:(JA p).length<=1000:=by unfold JA;rw [χ];exact ωa (Dr p) j
 have u:blks p (inM M)=(JA p).flatMap (KJ p (inM M)):=rfl;rw [u];refine Ax func72 Z Z ntmps72 Z Z Z λF w=>(AD (AE (AB Z Z ?_)));refine AC (AD (AE (AB Z Z (AC (AD (AD (NR 5 900 O0 Z Z Z Z (AE ?_))))))));refine goMv Z Z (J (Ld Z Z) (J (AL Z fi229_1 Z Z Z) (J (AQ Z Z Z BF Z) (J (BU Z underlying28 Z) (goMv Z Z (AC (A2 (BO (α:=Nat×List Bkd) (λq=>⟨28,[(0,.ptr 10 0 0),(1,mapV f),(5,(.own 900 0 q.2.length)),(11,(.d (.sl none ((JA p).map AF)))),(12,(.d (AF ((JA p).length:Int)))),(13,(.d (AF (q.1:Int))))],HM2 p f o M++ [(900,[.rowD 144 8 (q.2.map QN)])]⟩) (λq=>q.1<=(JA p).length/\q.2=((JA p).take q.1).flatMap (KJ p (inM M))/\q.2.length<=q.1*1100000) (λq=>(JA p).length - q.1) ((0,[])) (⟨ζ _,Z,Γ _⟩) (AU w [10,11,12,13,900] Z Z ⟨Z,Z,Z,Z,Z,Z,trivial⟩) ?_))))))));rintro ⟨k,a⟩ ⟨s,m,v⟩;dsimp only at s m v⊢;refine AD (AE (J (Az Z Z Z) (AC (AD (A7 Z (λe=>?_) (λe=>?_))))))
 .have b:k<(JA p).length:=BR e;refine AX (AD (A2 (AD (AE (J (BC (k) Z Z (Z) (A3 b) underlying28 Z BD Z) (J (CF Z Z Ai Z) (AB Z Z ?_)))))));refine AC (AD (AE (goMv Z Z (Dv 17 13 0 Z Z (goMv Z Z (J (IR M (JA p)[k] false (inM M (JA p)[k]) Z Z Z Ji IN Sv Z Z) (AC (JC Z (λc=>?_) (λc=>?_)))))))))
  .refine AE (goMv Z Z (goMv Z Z (goMv Z Z (goMv Z Z (V (FG (Wq p f o M (JA p)[k] l j n) Z [10,11,12,13] ⟨Z,Z,Z,Z,trivial⟩ Z Z Z Z Z Z Z Z Z) ?_)))));have x:=ωa (GC (inM M) _) (Rk l j n (JA p)[k]);refine V (QR (a) (FU (inM M) (Pr p (JA p)[k])) Z Z Z Z Z Z (λ_=>rfl) O0 (by omega) Z Z Z Z) (AB Z Z (AC (AE (J (Ah Z Z (AK (k+1) (by have h:=g;omega)) Z) (goMv Z Z (AC ?_))))));exact ⟨(k+1,a++FU (inM M) (Pr p (JA p)[k])),⟨by show k+1<=_;omega,by show a++FU (inM M) (Pr p (JA p)[k])=((JA p).take (k+1)).flatMap (KJ p (inM M));rw [HK b,<-m];unfold KJ;rw [ς (by simpa using c)],dg v (ωa (GC (inM M) _) (Rk l j n (JA p)[k]))⟩,by show (JA p).length - (k+1)<(JA p).length - k;omega,AU w [10,11,12,13,900] Z (Z) ⟨Z,Z,Z,Z,Z,Z,trivial⟩⟩
  .refine AX (AE (J (Ah Z Z (AK (k+1) (by have h:=g;omega)) Z) (goMv Z Z (AC ?_))));exact ⟨(k+1,a),⟨by show k+1<=_;omega,by show a=((JA p).take (k+1)).flatMap (KJ p (inM M));rw [HK b,<-m];unfold KJ;rw [η (by simpa using c),ωi],le_step v⟩,by show (JA p).length - (k+1)<(JA p).length - k;omega,AU w [10,11,12,13,900] Z (Z) ⟨Z,Z,Z,Z,Z,Z,trivial⟩⟩
 .refine Ar (AD ?_);have t:a=(JA p).flatMap (KJ p (inM M)):=by rw [m,θ (by have h:=e;omega)]
  refine KP (emb:=QN) 5 900 a Z Z Z Z Z Z Z (AE (goMv Z Z (AB Z Z (AC (AZ ?_)))));exact ⟨_,[10,11,12,13],_,AY Z,Z,Z,by rw [t],Z⟩
def GK (p:Prb) (r:AW) (l:List (Int×Bool)):Int:=(l.map λe=>if e.2=true then CC (B8 p e.1) r else 0).sum
theorem Lk {r:AW} {m:List (Int×Bool)} (h:a.Perm m):GK p r a=GK p r m:=cm h _
theorem Yn (p:Prb) (r:AW) (e:Int×Bool) (l:List (Int×Bool)):GK p r (e::l)=(if e.2=true then CC (B8 p e.1) r else 0)+GK p r l:=by simp [GK]
theorem OL (p:Prb) (r:AW) (k:Int) (v:Bool) (l:List (Int×Bool)):GK p r ((k,v)::l)=(if v=true then CC (B8 p k) r else 0)+GK p r l:=Yn p r (k,v) l
theorem L6 (h:C5 p c=0):BE p=0:=by grind [C5]
theorem fG (i:AJ) (r:AW): -1000000000000000<=CC i r/\CC i r<=1000000000000000:=by
 unfold CC
 split
 all_goals (simp [*,OC])
theorem Vi (p:Prb) (r:AW) (h:a.length<=1000): -1000000000000000000<=GK p r a/\GK p r a<=1000000000000000000:=by
 have:=JI (l:=a) (f:=λe=>if e.2=true then CC (B8 p e.1) r else 0) (B:=1000000000000000) (λe _=>by
  show _<=(if e.2=true then _ else _)/\_;have:=fG (B8 p e.1) r
  split<;>omega) 1000 h (by omega)
 unfold GK;omega
def Sy (p:Prb) (M:List (Int×Bool)) (x:Lin):List Ae:=if x.n+GK p x.r M<0 then [⟨x.r,0 - (x.n+GK p x.r M)⟩] else []
def NU (p:Prb) (M:List (Int×Bool)):List Ae:=(linL p).flatMap (Sy p M)
theorem da (c:BE p=0) (x:Lin) (a:x∈linL p):0<=x.n/\x.n<=4000000000000000:=by
 unfold linL at a;obtain ⟨y,b,rfl⟩:=Ξ.1 a;have:=Lw (Pk c).1 y ((MV p.ro).mem_iff.1 b);show 0<=max y.n 0/\max y.n 0<=_;omega
abbrev HM3 (p:Prb) (mv:Nat) (M:List (Int×Bool)):Hp:=HA p++ [(12,[B1 AF Am M]),(13,[.addr 12 0 (.map (some mv))])]
theorem R6 (p:Prb) (i:Nat) (M:List (Int×Bool)) (O:BE p=0) (D:E6 p) (C:M.length<=1000):AT prog 74 [.ptr 10 0 0,mapV i] (HM3 p i M) λr W=>r= .d (.sl none ((NU p M).map Bl))/\W=HM3 p i M:=by
 have R:=D.1;have S:=Ie p;refine Ax func74 Z Z ntmps74 Z Z Z λF s=>(AD (AE (AB Z Z ?_)));refine AC (AD (AE (AB Z Z (AC (AD (AD (NR 5 900 sl69 Z Z Z Z (AE ?_))))))));refine goMv Z Z (J (Ld Z Z) (J (AL Z LM Z Z Z) (J (AQ Z Z Z Xe Z) (J (BU Z underlying227 Z) (goMv Z Z (AC (A2 (BO (α:=Nat×List Ae) (λq=>⟨53,[(0,.ptr 10 0 0),(1,mapV i),(5,(.own 900 0 q.2.length)),(14,(.d (.sl none ((linL p).map Ov)))),(15,(.d (AF ((linL p).length:Int)))),(16,(.d (AF (q.1:Int))))],HM3 p i M++ [(900,[.rowD 73 7 (q.2.map Bl)])]⟩) (λq=>q.1<=(linL p).length/\q.2=((linL p).take q.1).flatMap (Sy p M)/\q.2.length<=q.1) (λq=>(linL p).length - q.1) ((0,[])) (⟨ζ _,Z,Γ _⟩) (AU s [10,11,12,13,900] Z Z ⟨Z,Z,Z,Z,Z,Z,trivial⟩) ?_))))))));rintro ⟨k,a⟩ ⟨z,x,T⟩;dsimp only at z x T⊢;refine AD (AE (J (Az Z Z Z) (AC (AD (A7 Z (λo=>?_) (λo=>?_))))))
 .have f:k<(linL p).length:=BR o;refine AX (AD (A2 (AD (AE ?_))));have H:=da O _ (ϑ f);refine J (BC (k) Z Z (Z) (A3 f) underlying227 Z XQ Z) (J (Ca Z Z rw233 Z) ?_);refine V (CA 1 aw Z Z Z Z) (V (B4 Z Z Z Z Z Z Z XQ) (AC (AD (AE (J (AL Z fi233_1 Z Z Z) (J (AQ Z Z Z Fn Z) (AB Z Z (AC ?_))))))));refine AD (AD (AE (goMv Z Z (Dv 22 13 0 Z Z (V (Gs 2 Z Z Z Ji Z Z Z Z) (AC (A2 (BO (α:=List Nat×Int) (λq=>⟨53,[(0,.ptr 10 0 0),(1,mapV i),(5,(.own 900 0 a.length)),(7,(.ptr 1 0 0)),(8,(.d (AF q.2))),(14,(.d (.sl none ((linL p).map Ov)))),(15,(.d (AF ((linL p).length:Int)))),(16,(.d (AF (k:Int)))),(23,(.ptr 2 0 0))],HM3 p i M++ [(900,[.rowD 73 7 (a.map Bl)]),(1,[.blk 233 [.d (AF (linL p)[k].r.k),.d (Aq (linL p)[k].r.acc.o),.d (AF (linL p)[k].r.acc.k),.d (Aq (linL p)[k].r.acc.a),.d (Aq (linL p)[k].r.f),.d (Aq (linL p)[k].r.t),.d (AF (linL p)[k].n),.d (.sl none ((linL p)[k].q.map AF))]]),(2,[.iter 12 0 M.length q.1])]⟩) (λq=>q.2+GK p (linL p)[k].r (CE M (List.range M.length) q.1)=(linL p)[k].n+GK p (linL p)[k].r M) (λq=>(CE M (List.range M.length) q.1).length) (([],(linL p)[k].n)) (by show (linL p)[k].n+GK p (linL p)[k].r (CE M (List.range M.length) [])=_;rw [ZcM (by simp)]) (AU s [10,11,12,13,900,1,2] Z Z ⟨Z,Z,Z,Z,Z,Z,Z,Z,Z,trivial⟩) ?_))))))));rintro ⟨seen,left⟩ w;dsimp only at w⊢;refine AD (AE (MM (M) Z Z Z Z (λu=>?_) (λy c b G t v E e=>⟨_,Z,?_⟩)))
  .have g:left=(linL p)[k].n+GK p (linL p)[k].r M:=by have U:=w;rw [u] at U;have X:GK p (linL p)[k].r []=0:=rfl;omega
   refine J (DG Z Z Z) (AC ?_);refine AD (Cu Z Z (Ar (AD (AE (goMv Z Z (J (Az Z Z Z) (AC (A7 Z (λj=>?_) (λj=>?_)))))))))
   .refine AE ?_;have I:=Vi p (linL p)[k].r C;refine goMv Z Z (J (AL Z LL Z Z Z) (J (BA Z Z Cc Z Z Z) (goMv Z Z (J (bi Z (Θ _ (by omega)) Z) ?_))));refine J (EI zl73 pl73 Z Z Z) (V (C1 3 sl69 Z Z Z Z Z Z Z Z) (V (Eu (a) ([⟨(linL p)[k].r,0 - left⟩]) Z Z Z Z Z Z Z Z sl69 (by simp only [υ];omega) Z Z Z Z) (AB Z Z (AC (AE (J (Ah Z Z (AK (k+1) (by omega)) Z) (goMv Z Z (AC ?_))))))));exact ⟨(k+1,a++ [⟨(linL p)[k].r,0 - left⟩]),⟨by show k+1<=_;omega,by show a++ [⟨(linL p)[k].r,0 - left⟩]=((linL p).take (k+1)).flatMap (Sy p M);rw [HK f,<-x];unfold Sy;rw [<-g,ς (by simpa using j)],by show (a++ [_]).length<=k+1;rw [Δ];simp;omega⟩,by show (linL p).length - (k+1)<(linL p).length - k;omega,AU s [10,11,12,13,900] Z (Z) ⟨Z,Z,Z,Z,Z,Z,trivial⟩⟩
   .refine AX (AE (J (Ah Z Z (AK (k+1) (by omega)) Z) (goMv Z Z (AC ?_))));exact ⟨(k+1,a),⟨by show k+1<=_;omega,by show a=((linL p).take (k+1)).flatMap (Sy p M);rw [HK f,<-x];unfold Sy;rw [<-g,η (by simpa using j),ωi],by show a.length<=k+1;omega⟩,by show (linL p).length - (k+1)<(linL p).length - k;omega,AU s [10,11,12,13,900] Z (Z) ⟨Z,Z,Z,Z,Z,Z,trivial⟩⟩
  .refine J (DG Z Z Z) ?_;refine AC (AD (Bz Z Z (AX (A2 (AD (AE (J (Gt (M) y c Z Z Z t v Z) (J (DG Z Z Z) ?_))))))));refine J (DG Z Z Z) (AB Z Z (AB Z Z (AC (AD (AE (goMv Z Z (AC (JC Z (λl=>?_) (λl=>?_)))))))))
   .refine CD [[],[],[1],[1,2],[1,2,3],[],[1,2,3,4,5],[],[7],[1,2,3,4,5,6,7,8],rg 10,rg 11] mixed Z (Bt ?_);have Q:=SA D b;have N:=Vi p (linL p)[k].r C;have L:=Vi p (linL p)[k].r (ωa (YE (m:=M) (B:=List.range M.length) (seen:=seen)) C);have K:=fG (B8 p b) (linL p)[k].r;refine Ak 8 Z Z (Ak 0 Z Z (AP [31] Z (Ld Z Z) (AP [32] Z (AL Z LN Z Z Z) (Aj [33] Z Z (λ_=>A8 (AQ Z Z Z Tp Z)) ?_))));refine Ak 9 Z Z (Aj [34,35] Z Z (λ_=>A8 (TP (Cr p.it) b Ag (B8 p b) Z Z Z UG IN za55 Hi (Qx p b) Z)) (AP [7] Z (AL Z LL Z Z Z) (Aj [37] Z Z (λ_=>A8 (BA Z Z Cc Z Z Z)) (AP [36,38] Z (Aw (YZ (B8 p b) (linL p)[k].r (by omega) (by omega) (by omega)) Z Z) (Bk 10 Z Z Z (Ab 11 Z Z (J (Ah Z Z (Θ _ (by omega)) Z) (AC ⟨Z,?_⟩))))))));refine Ab 12 Z Z (AB Z Z (AC ⟨Z,?_⟩));refine Bx ?_;exact ⟨(seen++ [c],left+CC (B8 p b) (linL p)[k].r),(by show left+CC (B8 p b) (linL p)[k].r+GK p (linL p)[k].r (CE M (List.range M.length) (seen++ [c]))=_;rw [<-w,Lk e,OL,ς (by simpa using l)];omega),by show (CE M (List.range M.length) (seen++ [c])).length<(CE M (List.range M.length) seen).length;rw [e.length_eq];exact ψp _,AU s [10,11,12,13,900,1,2] Z (Z) ⟨Z,Z,Z,Z,Z,Z,Z,Z,Z,trivial⟩⟩
   .refine AX ?_;exact ⟨(seen++ [c],left),(by show left+GK p (linL p)[k].r (CE M (List.range M.length) (seen++ [c]))=_;rw [<-w,Lk e,OL,η (by simpa using l)];omega),by show (CE M (List.range M.length) (seen++ [c])).length<(CE M (List.range M.length) seen).length;rw [e.length_eq];exact ψp _,AU s [10,11,12,13,900,1,2] Z (Z) ⟨Z,Z,Z,Z,Z,Z,Z,Z,Z,trivial⟩⟩
 .refine Ar (AD ?_);have A:a=NU p M:=by rw [x,θ (by have h:=o;omega)];rfl
  refine KP (emb:=Bl) 5 900 a Z Z Z Z Z Z Z (AE (goMv Z Z (AB Z Z (AC (AZ ?_)))));exact ⟨_,[10,11,12,13],_,AY Z,Z,Z,by rw [A],Z⟩
def LH (l:List Int) (x:Int):Bool:=decide (x∈l)
theorem violF_p (p:Prb) (l:List Int) (f:E6 p) (g:l.length<=1000):AM prog 28 [.d (Bg p),.d (.sl none (l.map AF))] (.tup [.sl none ((if C5 p l=0 then NU p (BS l) else []).map Bl),AF (C5 p l)]):=by
 by_cases b:C5 p l=0
 .have a:=(Oa p l f (by omega) b).by [(2,12)] rfl;have i:=L6 b;rw [ς b,b];have e:=λc=>R6 p c (BS l) i f (by unfold BS;rw [χ];exact g);refine Ax func28 Z Z ntmps28 Z Z Z λF h=>(AD (AE ?_));refine V (Bi 1 Z Z Z Z Z Z Z) (AB Z Z (AB Z Z (AC (AD (AE (J (BA Z Z Br Z Z Z) (goMv Z Z (V (FG a Z [10,11,12] ⟨Z,Z,Z,trivial⟩ Z Z Z Z Z Z Z Z Z) ?_))))))));refine goMv Z Z (J (DG Z Z Z) (J (DG Z Z Z) (J (DG Z Z Z) (AB Z Z (AB Z Z (AB Z Z (AC (AD ?_))))))));refine AD (AE (goMv Z Z (J (C7 Z Z Z) (AC (Cu Z ((by decide)) (AX (AD (VW 13 12 0 Z Z Z Z Z λc=>?_))))))));refine Y7 7 13 0 (.inl Z) Z (AE (goMv Z Z (goMv Z Z (V (FG (e c) Z [10,11,12,13] ⟨Z,Z,Z,Z,trivial⟩ Z Z Z Z Z Z Z Z Z) (AB Z Z (AB Z Z (AC (AZ ?_))))))));exact ⟨_,[],[],AY Z,Z,Z,Z,Z⟩
 .have a:=Tg p l f (by omega) b;rw [η b];refine Ax func28 Z Z ntmps28 Z Z Z λF h=>(AD (AE (V (Bi 1 Z Z Z Z Z Z Z) (AB Z Z (Yb 4 Z (AB Z Z (AC (AD ?_))))))));refine AE (J (BA Z Z Br Z Z Z) (goMv Z Z (J (Aw (a) Z Z) (goMv Z Z (J (Di Z Z Z) (J (Di Z Z Z) (J (Di Z Z Z) (AB Z Z ?_))))))));refine AB Z Z (AB Z Z (AC (AD (AD (AE (goMv Z Z (J (C7 Z Z Z) (AC ?_))))))));refine Bz Z ((ωf b)) (AD (AE (goMv Z Z (AB Z Z (Yb 4 Z (AB Z Z (AC (AZ ?_))))))));exact ⟨_,[],[],AY Z,Z,Z,Z,Z⟩
theorem PC.le {a:Type} {c:a ->a ->Int} (h:PC c) {x y z:a} (f:c x y<=0) (b:c y z<=0):c x z<=0:=by
 by_cases e:c x y=0
 .rw [h.eqv x y z e];exact b
 .by_cases g:c y z=0
  .have l:=h.anti y z;have d:c z y=0:=by omega
   have k:=h.eqv z y x d;have j:=h.anti z x;have i:=h.anti y x;omega
  .have:=h.trans x y z (by omega) (by omega);omega
theorem cmpI_ge {a b:Int}:¬Cf b a<0↔a<=b:=by unfold Cf;split<;>(try split)<;>omega
theorem TT {d:List Int} (f:d.Perm c) (e:d.Pairwise λa b=>¬Cf b a<0):d=DA c:=by grind [List.Perm.eq_of_pairwise,K7,DW,Cf]
theorem W5 {p:Prb} (b:BE p=0) {x:AJ} (a:x∈p.it):B8 p x.id=x:=by
 obtain ⟨c,_,e,d⟩:=LF (p:=p) (Ξ.2 ⟨x,a,Z⟩);exact ids_inj (Df (Pk b).2.1) (by rw [e];exact ϑ c) a d
structure PV (p:Prb):Prop where
 e:BE p=0
 b:E6 p
 i:p.it.length<=1000
 r:p.ro.length<=1000
 q:∀i∈p.it,i.po.length<=1000/\i.pa.length<=1000/\i.af.length<=1000
abbrev u32D (n:Nat):D:= .raw (.int .u32 (n:Int))
structure Sma where
 ids:List Int
 bl:List Nat
 de:List (List Int)
 rm:List Int
abbrev rowZ (l:List Int):D:= .sl none (l.map AF)
abbrev smaD (s:Sma):D:= .agg [.sl none (s.ids.map AF),.sl none (s.bl.map u32D),.sl none (s.de.map rowZ),.sl none (s.rm.map AF)]
def badS (s:Sma) (x:Nat) (i:Nat):Bool:=x.testBit i && decide (anU (s.bl.getD i 0) x≠0)
def admS (s:Sma) (x:Nat):Bool:=!(List.range s.bl.length).any (badS s x)
def listS (s:Sma) (x:Nat):List Int:=((List.range s.ids.length).filter λi=>x.testBit i).map λi=>s.ids.getD i 0
def enumX (n:Nat):Nat ->Nat ->Nat ->List Nat
 | 0,_,x=> [x]
 | l+1,frm,x=>((List.range (n+1 - (l+1) - frm)).map (frm+ ·)).flatMap λi=>enumX n l (i+1) (x ||| 1<<<i)
section
variable {β:Type} (step:β ->Nat ->β×Bool)
end
section
variable {β:Type}
def fp (s:Sma):List Nat:=(List.range (s.ids.length+1)).flatMap λk=>(enumX s.ids.length k 0 0).filter (admS s)
end
variable {p:Prb} {M:List (Int×Bool)} {E:List (AJ×Nat)} {S C:List Int} {a:Bkd} {f:Nat ->Nat} {c:List AW} {x:Int} {d:Int ->Bool} {i:Int} {e:List Int} {j k:Nat}
def smI (p:Prb):List Int:=DA (JA p)
theorem MH (a:BE p=0):(JA p).Perm (p.it.map AJ.id):=by grind [JA,ordP,ah]
theorem br (a:BE p=0):(smI p).Perm (p.it.map AJ.id):=(DW _).trans (MH a)
theorem XZ (a:BE p=0) (x:Int):x∈smI p↔x∈p.it.map AJ.id:=(br a).mem_iff
theorem req_in (f:BE p=0) (q:i∈p.it.map AJ.id) (j:a∈Pr p i):a.m∈smI p:=by
 rw [XZ f];unfold Pr at j;rcases ϖ.1 j with h | h
 .unfold ZV at h;obtain ⟨x,l,rfl⟩:=Ξ.1 h;have e:=(DW _).mem_iff.1 l;obtain ⟨n,_,s,_⟩:=LF q;rw [s] at e;have t:=HI (Pk f).2.2 _ (Ξ.2 ⟨_,ϑ n,Z⟩)
  grind [QK,I8]
 .obtain ⟨y,g,h⟩:=χl.1 h;unfold FL at h;obtain ⟨z,k,rfl⟩:=Ξ.1 h;have d:z∈y.q:=ωs k;unfold linL at g;obtain ⟨r,_,rfl⟩:=Ξ.1 g;have c:z∈Ke (ordP p) r.r:=d;unfold Ke at c;obtain ⟨o,m,rfl⟩:=Ξ.1 c;exact (MH f).mem_iff.1 (Ξ.2 ⟨o,(ωc.1 m).1,Z⟩)
structure SmaB (s:Sma):Prop where
 n:s.ids.length<=20
 b:s.bl.length<=20
 u:∀b∈s.bl,b<4294967296
 r:s.rm.length<=1000
 d:s.de.length=s.rm.length
 v:∀r∈s.de,r.length<=32/\∀v∈r,-1000000000000000<=v/\v<=1000000000000000
 m:∀v∈s.rm,0<=v/\v<=4000000000000000
deriving instance DecidableEq for Lin
theorem ZI:DA []=[]:=ωz (FX [])
inductive Yi (p:Prb) (S:List Int):Int ->Prop
 | base {x:Int} (h:x∈S):Yi p S x
 | step {i:Int} {b:Bkd} (h:Yi p S i) (hb:b∈Pr p i):Yi p S b.m
theorem Yi.ids (a:BE p=0) (d:∀x∈S,x∈p.it.map AJ.id) (h:Yi p S x):x∈p.it.map AJ.id:=by
 induction h with
 | base h=>exact d _ h
 | step _ c b=>exact (XZ a _).1 (req_in a b c)
theorem VK (h:a∈blks p d):∃i,i∈JA p/\d i=true/\a∈Pr p i/\d a.m=false:=by
 unfold blks at h;obtain ⟨i,c,h⟩:=χl.1 h;unfold KJ at h
 split at h
 .rename_i e
  obtain ⟨j,g⟩:=ωc.1 h
  grind
 .cases h
theorem Ml (c:BE p=0) (h:blks p d=[]) (e:i∈p.it.map AJ.id) (g:d i=true) (j:a∈Pr p i):d a.m=true:=by
 cases hm:d a.m with
 | true=>rfl
 | false=>
  have:a∈blks p d:=χl.2 ⟨i,(MH c).mem_iff.2 e,by unfold KJ;rw [ς g];exact ωc.2 ⟨j,by rw [hm];rfl⟩⟩
  grind
noncomputable def cloS (p:Prb) (S:List Int):List Int:=DA ((p.it.map AJ.id).filter λx=> @decide (Yi p S x) (Classical.propDecidable _))
theorem OY {m:List Int} (h:e.Perm m):DA e=DA m:=TT ((DW e).trans h) ((K7 e).imp λh=>cmpI_ge.2 h)
theorem Y3 {C:List Int} (b:BE p=0) (e:∀x∈S,x∈p.it.map AJ.id) (c:C.Nodup) (h:∀x,x∈C↔Yi p S x):DA C=cloS p S:=by
 unfold cloS;have d:=Df (Pk b).2.1;refine OY ((List.perm_ext_iff_of_nodup c (List.Nodup.sublist ψj d)).2 λx=>?_);rw [h x,ωc]
 constructor
 .intro a;exact ⟨a.ids b e,by simpa using a⟩
 simp
theorem RH {d:Type} {q r:d ->Bool}:∀{l:List d},(∀x∈l,q x=true ->r x=true) ->(∃x,x∈l/\r x=true/\q x=false) ->(l.filter q).length<(l.filter r).length
 | [],_,⟨x,b,_⟩=>by cases b
 | a::l,h,⟨x,b,j,i⟩=>by
  have f:∀{l:List d},(∀x∈l,q x=true ->r x=true) ->(l.filter q).length<=(l.filter r).length:=by
   intro l
   induction l with
   | nil=>intro _;exact Γ _
   | cons c l e=>
    intro h;have k:=e λx b=>h x (ωw _ b);have g:=h c ωu;rw [χe,χe]
    cases hq:q c with
    | false=>cases r c<;>simp<;>omega
    | true=>rw [g hq];simp;exact k
  have m:=f (l:=l) λx b=>h x (ωw _ b);rw [χe,χe];rcases Υ.1 b with rfl | b
  .rw [j,i];simp;omega
  .have e:=RH (l:=l) (λx b=>h x (ωw _ b)) ⟨x,b,j,i⟩;have g:=h a ωu
   cases hq:q a with
   | false=>cases r a<;>simp<;>omega
   | true=>rw [g hq];simp;exact e
structure Cl (p:Prb) (S C:List Int):Prop where
 n:C.Nodup
 s:∀x∈S,x∈C
 r:∀x∈C,Yi p S x
theorem Cl.len {p:Prb} {S C:List Int} (h:Cl p S C) (b:BE p=0) (d:∀x∈S,x∈p.it.map AJ.id):C.length<=p.it.length:=by
 have c:=Df (Pk b).2.1
 have e:=((List.perm_ext_iff_of_nodup h.n (List.Nodup.sublist (ψj (p:=λx=>decide (x∈C))) c)).2 λx=>by
  rw [ωc]
  exact ⟨λa=>⟨(h.r x a).ids b d,by simpa using a⟩,λa=>by simpa using a.2⟩).length_eq
 grind
theorem Cl.done (h:Cl p S C) (c:BE p=0) (d:∀x∈S,x∈p.it.map AJ.id) (k:blks p (LH C)=[]):DA C=cloS p S:=by
 refine Y3 c d h.n λx=>⟨h.r x,λa=>?_⟩
 induction a with
 | base f=>exact h.s _ f
 | @step i b a g e=>
  have j:=Ml c k (a.ids c d) (ωf e) g
  simpa [LH] using j
theorem Cl.add (h:Cl p S C) (g:a∈blks p (LH C)):Cl p S (C++ [a.m])/\a.m∉C:=by
 obtain ⟨i,_,l,k,j⟩:=VK g;have f:i∈C:=by simpa [LH] using l
 have d:a.m∉C:=by simpa [LH] using j
 refine ⟨⟨?_,λx c=>ϖ.2 (.inl (h.s x c)),λx c=>?_⟩,d⟩
 .rw [χv];refine ⟨h.n,by simp,λx c y m e=>?_⟩
  grind
 .rcases ϖ.1 c with c | c
  .exact h.r x c
  .rw [κ.1 c];exact .step (h.r i f) k
theorem Cl.dec {D:List Int} {m:Int} (b:m∈p.it.map AJ.id) (e:m∉C) (d:m∈D) (h:∀x∈C,x∈D):((p.it.map AJ.id).filter λx=>!LH D x).length<((p.it.map AJ.id).filter λx=>!LH C x).length:=
 RH (λx _ a=>by
  have:x∉D:=by simpa [LH] using a
  have:x∉C:=λc=>this (h x c)
  simpa [LH] using this) ⟨m,b,by simpa [LH] using e,by simpa [LH] using d⟩
theorem aX (a:E6 p) (c:p.it.length<=1000) (b:p.ro.length<=1000) (f:Int ->Bool):(blks p f).length<=1100000000:=by
 unfold blks;have d:=LK (f:=KJ p f) (n:=1100000) (l:=JA p) (λx _=>VM a c b f x)
 grind [JA,Dr]
def D4 (M:List (Int×Bool)):List Int:=(M.filter λe=>e.2).map Prod.fst
theorem ON (k:Int) (v:Bool) (M:List (Int×Bool)):D4 ((k,v)::M)=(if v=true then [k] else [])++D4 M:=by
 unfold D4;cases v<;>simp
theorem OM {l m:List (Int×Bool)} (h:l.Perm m):(D4 l).Perm (D4 m):=(h.filter _).map _
theorem Yq (M:List (Int×Bool)):(D4 M).length<=M.length:=by unfold D4;rw [χ];exact ωj _ _
abbrev HM4 (mv:Nat) (B:List Nat) (c:Nat) (M:List (Int×Bool)):Hp:=[(12,[.map (some (B,c)) (B5 AF Am M)]),(13,[.addr 12 0 (.map (some mv))])]
theorem bm (h:Nat) (B:List Nat) (c:Nat) (M:List (Int×Bool)) (u:B.length=M.length) (y:M.length<=100000):AT prog 73 [mapV h] (HM4 h B c M) λr v=>r= .own 900 0 (D4 M).length/\v=HM4 h B c M++ [(900,[.rowD 3 1 ((DA (D4 M)).map AF)])]:=by
 have x:=Yq M;refine Ax func73 Z Z ntmps73 Z Z Z λF n=>?_;refine AD (AE (AB Z Z (AC (AD (AE (AB Z Z (AC (AD ?_))))))));refine AD (NR 3 900 BT Z Z Z Z (AE (goMv Z Z (Dv 6 13 0 Z Z (V (Gs 1 Z Z Z Ji Z Z Z Z) (AC (A2 (BO (α:=List Nat×List Int) (λq=>⟨21,[(3,(.own 900 0 q.2.length)),(7,(.ptr 1 0 0))],HM4 h B c M++ [(900,[.rowD 3 1 (q.2.map AF)]),(1,[.iter 12 0 c q.1])]⟩) (λq=>(q.2++D4 (CE M B q.1)).Perm (D4 M)) (λq=>(CE M B q.1).length) (([],[])) (by show ([]++D4 (CE M B [])).Perm _;rw [ZcM u];exact List.Perm.refl _) (AU n [12,13,900,1] Z Z ⟨Z,Z,trivial⟩) ?_))))))));rintro ⟨seen,a⟩ g;dsimp only at g⊢;refine AD (AE (MM (M) Z Z Z Z (λl=>?_) (λp f j w k m t d=>⟨_,Z,?_⟩)))
 .have b:a.Perm (D4 M):=by have i:=g;rw [l] at i;simpa [D4] using i
  refine J (DG Z Z Z) (AC (AD (Cu Z Z (Ar (AD (AE ?_))))));have o:=b.length_eq;refine goMv Z Z (V (TL laysS a (by omega) Z Z Z Z Z Z Z) (AC (AD (AE (goMv Z Z (AB Z Z (AC (AZ ?_))))))));exact ⟨_,[12,13,900],_,AY Z,Z,Z,by rw [b.length_eq],by rw [OY b];rfl⟩
 .refine J (DG Z Z Z) ?_;refine AC (AD (Bz Z Z (AX (A2 (AD (AE (J (Gt (M) p f Z Z Z k m Z) (J (DG Z Z Z) ?_))))))));refine J (DG Z Z Z) (AB Z Z (AB Z Z (AC (AD (AE (goMv Z Z (AC (JC Z (λe=>?_) (λe=>?_)))))))))
  .refine AE (goMv Z Z ?_);have s:a.length<=100000:=by have i:=g.length_eq;rw [Δ] at i;omega
   refine goMv Z Z (V (C1 30 BT Z Z Z Z Z Z Z Z) (V (Eu (a) ([j]) Z Z Z Z Z Z Z Z BT (by simp only [υ];omega) Z Z Z Z) (AB Z Z (AC ?_))));exact ⟨(seen++ [f],a++ [j]),(by show ((a++ [j])++D4 (CE M B (seen++ [f]))).Perm _;refine List.Perm.trans (List.Perm.trans ?_ (List.Perm.append_left a (OM d)).symm) g;rw [ON,ς (by simpa using e),ψi]),by show (CE M B (seen++ [f])).length<(CE M B seen).length;rw [d.length_eq];exact ψp _,AU n [12,13,900,1] Z (Z) ⟨Z,Z,trivial⟩⟩
  .refine AX ?_;exact ⟨(seen++ [f],a),(by show (a++D4 (CE M B (seen++ [f]))).Perm _;refine List.Perm.trans (List.Perm.trans ?_ (List.Perm.append_left a (OM d)).symm) g;rw [ON,η (by simpa using e),χj]),by show (CE M B (seen++ [f])).length<(CE M B seen).length;rw [d.length_eq];exact ψp _,AU n [12,13,900,1] Z (Z) ⟨Z,Z,trivial⟩⟩
def VS (M:List (Int×Bool)):Prop:=∀e∈M,e.2=true
def keysM (M:List (Int×Bool)):List Int:=M.map Prod.fst
theorem Yr (h:VS M):D4 M=keysM M:=by
 unfold D4 keysM;rw [List.filter_eq_self.2 h]
theorem YM (h:VS M):inM M=LH (keysM M):=by grind [inM,LH,keysM,Ic,JS,VS]
theorem ft (h:VS M) (x:Int):VS (BZ M x true):=λe g=>by
 obtain ⟨j,c,rfl⟩:=ψb.1 g;have f:=Nq (m:=M) (a:=x) (b:=true)
 by_cases e:j=mix M x
 .subst e;have:=f.1;rw [ω c] at this;injection this with this;rw [this]
 .have d:=f.2 j e;rw [ω c] at d;exact h _ (ξ d.symm)
theorem Oz (M:List (Int×Bool)) (x:Int) (b:Bool):keysM (BZ M x b)=if x∈keysM M then keysM M else keysM M++ [x]:=MQ
theorem Cl.put (h:Cl p S (keysM M)) (i:Yi p S x):Cl p S (keysM (BZ M x true)):=by
 rw [Oz]
 split
 .exact h
 .rename_i f
  refine ⟨?_,λy c=>ϖ.2 (.inl (h.s y c)),λy c=>?_⟩
  .rw [χv];exact ⟨h.n,by simp,λa g b d e=>by rw [κ] at d;subst d;subst e;exact f g⟩
  .rcases ϖ.1 c with c | c
   .exact h.r y c
   grind
theorem bz (l:List Int):VS (BS l):=λe a=>by
 unfold BS at a;obtain ⟨x,_,rfl⟩:=Ξ.1 a;rfl
theorem ZM (l:List Int):keysM (BS l)=l:=by unfold keysM BS;rw [ωt];exact List.map_id' l
theorem closF_c (p:Prb) (l:List Int) (i:E6 p) (X:l.length<=1000) (S:p.it.length<=1000) (R:p.ro.length<=1000) (O:C5 p l=0) (T:l.Nodup) (I:∀x∈l,x∈p.it.map AJ.id):AT prog 27 [.d (Bg p),.d (.sl none (l.map AF))] [] λr W=>r= .tup [.own 900 0 (cloS p l).length,.d (AF 0)]/\W=[(900,[.rowD 3 1 ((cloS p l).map AF)])]:=by
 have D:=(Oa p l i (by omega) O).by [(2,12)] rfl;have L:=L6 O;have y:=λf M=>fb p f (some (List.range M.length,M.length)) M i S R;refine Ax func27 Z Z ntmps27 Z Z Z λF C=>(AD (AE (V (Bi 1 Z Z Z Z Z Z Z) ?_)));refine AB Z Z (AB Z Z (AC (AD (AE (J (BA Z Z Br Z Z Z) (goMv Z Z (V (FG D Z [10,11,12] ⟨Z,Z,Z,trivial⟩ Z Z Z Z Z Z Z Z Z) (goMv Z Z ?_))))))));refine J (DG Z Z Z) (J (DG Z Z Z) (J (DG Z Z Z) (AB Z Z (AB Z Z (AB Z Z (AC (AD (AD ?_))))))));refine AE (goMv Z Z (J (C7 Z Z Z) (AC (Cu Z ((by decide)) (AX (AD (AD (VW 13 12 0 Z Z Z Z Z λf=>?_))))))));refine Y7 7 13 0 (.inl Z) Z (AE (goMv Z Z (goMv Z Z (V (FG (y f (BS l)) Z [10,11,12,13] ⟨Z,Z,Z,Z,trivial⟩ Z Z Z Z Z Z Z Z Z) (AB Z Z (AC (A2 (BO (α:=List (Int×Bool)) (λM=>⟨43,[(6,(.ptr 10 0 0)),(7,(mapV f)),(9,(.d (.sl none ((blks p (inM M)).map QN))))],HM2 p f (some (List.range M.length,M.length)) M⟩) (λM=>VS M/\Cl p l (keysM M)) (λM=>((p.it.map AJ.id).filter λx=>!LH (keysM M) x).length) (BS l) (⟨bz l,by rw [ZM];exact ⟨T,λ_ h=>h,λ_ h=> .base h⟩⟩) (AU C [10,11,12,13] Z Z ⟨Z,Z,Z,trivial⟩) ?_))))))));rintro M ⟨B,z⟩;refine AD (AD (AE (goMv Z Z ?_)));have U:(blks p (inM M)).length<=1100000000:=aX i S R _;refine J (BU Z underlying141 Z) (J (Gi Z Z Z) (AC (A7 Z (λs=>?_) (λs=>?_))))
 .refine AX (AD (A2 (AD ?_)));have u:0<(blks p (inM M)).length:=by have h:=s;omega
  have e:∀b∈blks p (inM M),Yi p l b.m/\b.m∉keysM M:=λb i=>by rw [YM B] at i;exact ⟨(z.add i).1.r _ (by simp),(z.add i).2⟩
  refine AE (goMv Z Z (J (BU Z underlying141 Z) (goMv Z Z (AC (A2 (BO (α:=Nat×List (Int×Bool)) (λq=>⟨43,[(6,(.ptr 10 0 0)),(7,(mapV f)),(31,(.d (.sl none ((blks p (inM M)).map QN)))),(32,(.d (AF ((blks p (inM M)).length:Int)))),(33,(.d (AF (q.1:Int))))],HM2 p f (some (List.range q.2.length,q.2.length)) q.2⟩) (λq=>q.1<=(blks p (inM M)).length/\VS q.2/\Cl p l (keysM q.2)/\(∀x∈keysM M,x∈keysM q.2)/\(0<q.1 ->(blks p (inM M))[0].m∈keysM q.2)) (λq=>(blks p (inM M)).length - q.1) ((0,M)) (⟨ζ _,B,z,λ_ h=>h,λh=>absurd h (φe 0)⟩) (AU C [10,11,12,13] Z Z ⟨Z,Z,Z,Z,Z,trivial⟩) ?_))))));rintro ⟨k,t⟩ ⟨E,j,n,a,c⟩;dsimp only at E j n a c⊢;refine AD (AE (J (Az Z Z Z) (AC (AD (A7 Z (λo=>?_) (λo=>?_))))))
  .have v:k<(blks p (inM M)).length:=BR o;refine AX (AD (A2 ?_));refine AD (AE (J (BC (k) Z Z (Z) (A3 v) underlying141 Z sz144 Z) (J (Ca Z Z rw144 Z) (V (CA 2 bA Z Z Z Z) (V (B4 Z Z Z Z Z Z Z sz144) (AC (AE (goMv Z Z ?_))))))));refine Dv 37 13 0 Z Z (J (AL Z fi144_1 Z Z Z) (J (AQ Z Z Z Ai Z) (V (VZ (t) ((blks p (inM M))[k].m) (true) Z Z Z Ji IN Z Z) (AC (AE (J (Ah Z Z (AK (k+1) (by omega)) Z) (goMv Z Z (AC ?_))))))));exact ⟨(k+1,BZ t (blks p (inM M))[k].m true),⟨by show k+1<=_;omega,ft j _,n.put (e _ (ϑ v)).1,λx N=>by show x∈keysM (BZ t _ true);rw [Oz];split;exact a x N;exact ϖ.2 (.inl (a x N)),λ_=>by show _∈keysM (BZ t _ true);rw [Oz];rcases Nat.eq_zero_or_pos k with A | A;subst A;split;assumption;simp;split;exact c A;exact ϖ.2 (.inl (c A))⟩,by show (blks p (inM M)).length - (k+1)<(blks p (inM M)).length - k;omega,AU C [10,11,12,13] Z (Z) ⟨Z,Z,Z,Z,Z,trivial⟩⟩
  .have w:((p.it.map AJ.id).filter λx=>!LH (keysM t) x).length<((p.it.map AJ.id).filter λx=>!LH (keysM M) x).length:=Cl.dec ((e _ (ϑ u)).1.ids L I) (e _ (ϑ u)).2 (c (by have h:=o;omega)) a;refine Ar (AE (goMv Z Z (goMv Z Z (V (FG (y f t) Z [10,11,12,13] ⟨Z,Z,Z,Z,trivial⟩ Z Z Z Z Z Z Z Z Z) (AB Z Z (AC ?_))))));exact ⟨t,⟨j,n⟩,w,AU C [10,11,12,13] Z (Z) ⟨Z,Z,Z,trivial⟩⟩
 .refine Ar (AD ?_);have H:blks p (LH (keysM M))=[]:=by rw [<-YM B];exact ωz (by have h:=s;omega)
  have K:M.length<=100000:=by have Q:=z.len L I;unfold keysM at Q;rw [χ] at Q;omega
  have g:DA (D4 M)=cloS p l:=by rw [Yr B];exact z.done L I H
  have G:(D4 M).length=(cloS p l).length:=by rw [<-g,FX]
  refine AE (goMv Z Z (V (FG (bm f (List.range M.length) M.length M (by simp) K) Z [12,13,900] ⟨Z,Z,Z,trivial⟩ Z Z Z Z Z Z Z Z Z) (AB Z Z (AB Z Z (AC (AZ ?_))))));exact ⟨_,[900],_,AY Z,Z,Z,by rw [G],by rw [g]⟩
inductive Drp (p:Prb) (S:List Int):Int ->Prop
 | base {i:Int} {b:Bkd} (hb:b∈Pr p i) (h:b.m∉S):Drp p S i
 | step {i:Int} {b:Bkd} (hb:b∈Pr p i) (h:Drp p S b.m):Drp p S i
theorem req_i (c:a∈Pr p i):a.i=i:=by grind [Pr,ZV,FL]
noncomputable def intS (p:Prb) (S:List Int):List Int:=DA (S.filter λx=> @decide (¬Drp p S x) (Classical.propDecidable _))
structure Ci (p:Prb) (S C:List Int):Prop where
 n:C.Nodup
 s:∀x∈C,x∈S
 r:∀x∈S,x∉C ->Drp p S x
theorem Ci.done (h:Ci p S C) (g:BE p=0) (m:S.Nodup) (j:∀x∈S,x∈p.it.map AJ.id) (k:blks p (LH C)=[]):DA C=intS p S:=by
 have d:∀x,Drp p S x ->x∉C:=λx a=>by
  induction a with
  | @base i b e n=>
   intro c;have f:=Ml g k (j _ (h.s _ c)) (ωf c) e;exact n (h.s _ (by simpa [LH] using f))
  | @step i b e _ l=>
   intro c;have f:=Ml g k (j _ (h.s _ c)) (ωf c) e;exact l (by simpa [LH] using f)
 unfold intS;refine OY ((List.perm_ext_iff_of_nodup h.n (List.Nodup.sublist ψj m)).2 λx=>?_);rw [ωc]
 constructor
 .intro a;exact ⟨h.s x a,by simpa using λo=>d x o a⟩
 .intro a;have r:¬Drp p S x:=by simpa using a.2
  exact Classical.byContradiction λq=>r (h.r x a.1 q)
theorem Ci.drop (h:Ci p S C) (g:a∈blks p (LH C)):Drp p S a.i/\a.i∈C:=by
 obtain ⟨i,_,k,c,j⟩:=VK g;have f:i∈C:=by simpa [LH] using k
 have e:a.m∉C:=by simpa [LH] using j
 rw [req_i c];refine ⟨?_,f⟩
 by_cases d:a.m∈S
 .exact .step c (h.r _ d e)
 .exact .base c d
theorem Ci.rest (h:Ci p S C) (c:Drp p S x):Ci p S (C.filter λy=>decide (y≠x)):=by
 refine ⟨List.Nodup.sublist ψj h.n,λy a=>h.s y (ωc.1 a).1,λy a d=>?_⟩
 by_cases b:y∈C
 .grind
 .exact h.r y a b
theorem dY (M:List (Int×Bool)) (x:Int):mix M x=(keysM M).idxOf x:=by
 induction M with
 | nil=>rfl
 | cons e r a=>
  grind [mix,keysM]
theorem dq (a:(keysM M).Nodup) (x:Int):keysM (mdel M x)=(keysM M).filter λy=>decide (y≠x):=by
 unfold mdel;rw [dY];show ((M.eraseIdx _).map Prod.fst)=_;rw [Xz];show (keysM M).eraseIdx _=_;rw [<-List.erase_eq_eraseIdx_of_idxOf Z,List.Nodup.erase_eq_filter a]
 grind
theorem Ci.del (h:Ci p S (keysM M)) (a:Drp p S x):Ci p S (keysM (mdel M x)):=by
 rw [dq h.n];exact h.rest a
theorem aU (h:C5 p e=0):e.Nodup:=by
 have f:=L6 h;unfold C5 at h;rw [η (by omega)] at h;unfold K8 at h;rw [List.Nodup,ωk];intro i j k b d a;have c:=HI h _ (Ξ.2 ⟨j,Ψ.2 b,Z⟩);unfold Et at c;rw [FF 0 b] at c;have g:e[j]∈e.take j:=by rw [<-a];exact ψg.2 ⟨i,by omega,Z⟩
 grind
theorem fU {p:Prb} {l:List Int}:(cloS p l).length<=p.it.length:=by grind [cloS,FX]
abbrev Gl (l:List Int):D:= .sl none (l.map AF)
abbrev YA (l:List (List Int)):D:= .sl none (l.map Gl)
def idT (k:Nat):Nat ->Nat:=λj=>if j<k then j else 0
theorem eH (k:Nat):BL (idT k) k k=idT (k+1):=by grind [Lh,idT,HU]
theorem eG:(λ_:Nat=>0)=idT 0:=by funext j;unfold idT;rw [η (by omega)]
def QI (f:Nat ->Nat) (k j:Nat):List Nat:=(List.range j).filter λi=>decide (f i=k)
theorem dm (h:f j=k):QI f k (j+1)=QI f k j++ [j]:=by unfold QI;rw [ωy,ωv];simp [h]
theorem Zu (h:¬f j=k):QI f k (j+1)=QI f k j:=by unfold QI;rw [ωy,ωv];simp [h]
theorem dl (f:Nat ->Nat) (k j:Nat):(QI f k j).length<=j:=ωa (ωj _ _) (by rw [ωo];exact Γ _)
theorem Cn.trans {i:Nat} (h:Cn c E i j) (a:Cn c E j k):Cn c E i k:=Rh.trans h a
abbrev Yo (rs:List AW) (E:List (AJ×Nat)) (i:Nat):List AW:=(dR rs (DO E i)).map Prod.fst
theorem cn_rsc {i:Nat} {r:AW} (b:i<E.length) (a:j<E.length) (e:r∈Yo c E i) (d:r∈Yo c E j):Cn c E i j:=Rh.one (Eb.2 ⟨b,a,.inr (.inr ⟨r,e,d⟩)⟩)
theorem cn_aft {rs:List AW} {i j:Nat} (b:i<E.length) (a:j<E.length) (h:(DO E i).id∈(DO E j).af):Cn rs E i j:=Rh.one (Eb.2 ⟨b,a,.inr (.inl h)⟩)
structure AllJ (rs:List AW) (E:List (AJ×Nat)) (f:Nat ->Nat):Prop where
 uf:UF E.length (Cn rs E) f
 us:∃U,QU rs E (λi r=>i<E.length/\r∈Yo rs E i) U f
 af:∀i,i<E.length ->∀j,j<E.length ->(DO E j).id∈(DO E i).af ->f j=f i
theorem AllJ.full (h:AllJ c E f):∀i j,i<E.length ->j<E.length ->Cn c E i j ->f i=f j:=λi j o n l=>by
 obtain ⟨U,e⟩:=h.us;refine (Rh.clos (p:=λx=>f i=f x) (λv k y g=>?_) l Z);obtain ⟨d,b,a⟩:=Eb.1 g;rw [k];rcases a with a | a | ⟨r,a,m⟩
 .exact (h.af v d y b a).symm
 .exact h.af y b v d a
 .rw [<-(e.has v r ⟨d,a⟩).2,(e.has y r ⟨b,m⟩).2]
theorem fM (p:Prb) (l:List Int) (e:E6 p) (c:l.length<=100000) (a:p.it.length<=1000) (f:C5 p l≠0):AM prog 23 [.d (Bg p),.d (Gl l)] (.tup [.sl (some true) [],AF (C5 p l)]):=by
 have b:=J4 p l e c a;refine Ax func23 Z Z ntmps23 Z Z Z λF g=>?_;refine AD (AE (V (Bi 1 Z Z Z Z Z Z Z) (AB Z Z (AB Z Z (AC (AD (AD (AE ?_))))))));refine J (BA Z Z Br Z Z Z) (goMv Z Z (J (Aw (b) Z Z) (AB Z Z (AC (AD (AE (goMv Z Z (J (C7 Z Z Z) ?_))))))));refine AC (Bz Z (ωf f) (AD (AE (goMv Z Z (AB Z Z (AB Z Z (AC (AZ ?_))))))));exact ⟨_,[],[],AY Z,Z,Z,Z,Z⟩
theorem PI {a:List AJ} (h:(a.map AJ.id).Nodup) {q:AJ ->Bool} (b:E.map Prod.fst=a.filter q):IdI E:=by grind [ψj,Se,ωk,IdI]
noncomputable def compL (rs:List AW) (E:List (AJ×Nat)):List (List Int):=(clsN E.length (Cn rs E)).map (BJ E)
set_option maxHeartbeats 4000000 in
theorem comp_c (p:Prb) (l:List Int) (hf:GH p) (hl:l.length<=100000) (hC:C5 p l=0) (hE:BE p=0) (hn:l.Nodup):
  AT prog 23 [.d (Bg p),.d (Gl l)] [] λr H'=>∃E:List (AJ×Nat),E.map Prod.fst=(ordP p).filter (λi=>decide (i.id∈l))/\r= .d (.tup [YA (compL (rsP p) E),AF 0])/\H'=[]:=by
 have hi30:=hf.i;have hck:=J4 p l hf.b hl (by omega);rw [hC] at hck;have hids:((ordP p).map AJ.id).Nodup:=GX hE;have hol:(ordP p).length<=30:=by rw [show ordP p=BP p.it from ς hE,am];exact hi30
 have hxm:∀i∈ordP p,i∈p.it:=λi hi=>by rw [show ordP p=BP p.it from ς hE] at hi;exact (ah p.it).mem_iff.1 hi
 refine Ax func23 Z Z ntmps23 Z Z Z λF u=>(AD (AE (V (Bi 1 Z Z Z Z Z Z Z) (AB Z Z (AB Z Z (AC ?_))))));refine AD (AD (AE (J (BA Z Z Br Z Z Z) (goMv Z Z (J (Aw (hck) Z Z) (AB Z Z (AC (AD ?_))))))));refine AE (goMv Z Z (J (C7 Z Z Z) (AC (Cu Z (ωh (by decide)) (AX (AD (CD [[],[],[1],[0,1,2],[0,1,2,3]] mixed Z (dwx3 (γ:=Nat×MF) 3 (λq=>⟨154,[(2,.ptr 1 0 0),(35,.d (Bg p)),(37,.d (Pq q.1))],[(41,[.multi q.2])]⟩) (λq=>HT q.2 q.1 l) Z Z Z ?_ ?_ (λa hI=>?_)))))))))
 .refine J (BA Z Z Br Z Z Z) (AC ⟨Z,?_⟩);refine goMv Z Z (AC ⟨Z,?_⟩);refine Cd (Ve (Gp l hn (by omega)) Z [41] ⟨Z,trivial⟩ Z Z Z Z (λr H' ⟨b,N,D,C,_⟩=>by subst D C;exact ⟨Z,Z,Z⟩) Z) Z ?_;rintro _ ⟨r,H',⟨b,N,D,C,hW⟩,rfl⟩;subst D C;refine AC ⟨Z,?_⟩;exact ⟨(b,N),hW,AU u [41] Z Z ⟨Z,Z,Z,trivial⟩⟩
 .refine goMv Z Z (AC ⟨Z,?_,?_⟩)
  .refine J (BA Z Z Br Z Z Z) (AC ⟨Z,?_⟩);refine Cd (Ve (Gp l hn (by omega)) Z [41] ⟨Z,trivial⟩ Z Z Z Z (λr H' ⟨b,N,D,C,_⟩=>by subst D C;exact ⟨Z,Z,Z⟩) Z) Z ?_;rintro _ ⟨r,H',⟨b,N,D,C,hW⟩,rfl⟩;subst D C;refine AC ⟨Z,?_⟩;exact ⟨(b,N),hW,AU u [41] Z Z ⟨Z,Z,Z,trivial⟩⟩
  .refine Cd (Ve (Gp l hn (by omega)) Z [41] ⟨Z,trivial⟩ Z Z Z Z (λr H' ⟨b,N,D,C,_⟩=>by subst D C;exact ⟨Z,Z,Z⟩) Z) Z ?_;rintro _ ⟨r,H',⟨b,N,D,C,hW⟩,rfl⟩;subst D C;refine AC ⟨Z,?_⟩;refine J (BA Z Z Br Z Z Z) (AC ⟨Z,?_⟩);exact ⟨(b,N),hW,AU u [41] Z Z ⟨Z,Z,Z,trivial⟩⟩
 .obtain ⟨b,N⟩:=a;have hW:HT N b l:=hI;refine Ab 4 Z Z ?_;refine Cd (Ve (Mc p hE hf WF [pD b 0] N (λid=>decide (id∈l)) (EJ hW)) Z [41,40] ⟨Z,Z,trivial⟩ Z Z Z Z (λr H' ⟨E,M,D,C,_⟩=>by subst D C;exact ⟨Z,Z,Z⟩) Z) Z ?_;rintro _ ⟨r,H',⟨E,M,D,C,hR,hEq⟩,rfl⟩;subst D C;refine AC ⟨Z,?_⟩;refine Ab 5 Z Z (AB Z Z (AC ⟨Z,?_⟩));refine Bx (AD ?_)
  obtain ⟨n,v⟩:∃n,E.length=n:=⟨_,Z⟩
  have hn30:n<=30:=by have h1:(E.map Prod.fst).length<=(ordP p).length:=(by rw [hEq];exact ωj _ _);rw [χ,v] at h1;omega
  have hIt:∀k,k<n ->DO E k∈ordP p:=λk hk=>by have h1:DO E k∈E.map Prod.fst:=(by rw [Se (by omega)];exact ψz (ϑ _));rw [hEq] at h1;exact (ωc.1 h1).1
  have hId:IdI E:=PI hids hEq;have Q:(E.map Cx).length=n:=by rw [χ,v]
  refine AE (goMv Z Z (J (IQ Z Q underlying122 Z) (V (FK 2 BT Z Z Z (by omega) zd3 Z Z Z Z) ?_)));rw [repN,eG];refine V (CA 3 zl28 Z Z Z Z) (V (B4 Z Z Z Z Z Z Z Cv) (AC ?_));refine AD (AD (AE (J (AQ Z Z Z BF Z) (J (Lc Z underlying28 Z) (goMv Z Z (AC (A2 (BO (α:=Nat) (λk=>⟨154,[(7,(.d (.sl none (E.map Cx)))),(8,(.ptr 3 0 0)),(43,(.d (AO n))),(44,(.d (AO k)))],[(2,[.rowD 3 1 (rowN n (idT k))]),(3,[.blk 28 [.own 2 0 n]]),(40,[.multi M])]⟩) (λk=>k<=n) (λk=>n - k) (0) (ζ _) (AU u [2,3,40] Z Z ⟨Z,Z,Z,Z,trivial⟩) ?_))))))));rintro k hk;refine AD (AE (J (Az Z Z Z) (AC (AD (A7 Z (λh45=>?_) (λh45=>?_))))))
  .refine AX (AD (A2 (AD ?_)));have g:k<n:=BR h45;refine AE ?_;refine goMv Z Z (AB Z Z (AC (AE (J (AQ Z Z Z BF Z) (goMv Z Z (goMv Z Z (J (CM (k) Z Z (Z) (g) Z underlying28 BD Z) (V (Sg Z Z Z Z Z (by rw [gB];exact g) gC Z BD) ?_))))))));rw [eH];refine AC (AE (J (Ah Z Z (AK (k+1) (by omega)) Z) (goMv Z Z (AC ?_))));exact ⟨k+1,g,by omega,AU u [2,3,40] Z (Z) ⟨Z,Z,Z,Z,trivial⟩⟩
  .refine Ar (AD ?_);have R:k=n:=by have:=h45;omega
   rw [Q7 (f:=idT k) (h:=λj=>j) λj I=>ς (by omega)];refine AE (J (ZcN Z Z) ?_);refine AB Z Z (AC (AD (AE (V (Ps 50 Z Z Z Z) (V (Ps 51 Z Z Z Z) (AB Z Z (AB Z Z (AC ?_))))))));refine AD (AD (AE (goMv Z Z (J (IQ Z Q underlying122 Z) (goMv Z Z (AC (A2 (BO (α:=Nat×List (AW×Nat)×(Nat ->Nat)) (λq=>⟨154,[(7,(.d (.sl none (E.map Cx)))),(8,(.ptr 3 0 0)),(10,(.fn 67 [.ptr 3 0 0])),(11,(.map 50 0)),(12,(.map 51 0)),(55,(.d (.sl none (E.map Cx)))),(56,(.d (AO n))),(57,(.d (AO q.1)))],[(2,[.rowD 3 1 (rowN n q.2.2)]),(3,[.blk 28 [.own 2 0 n]]),(50,[B1 Bd AO q.2.1]),(51,[B1 AF AO (Nk E q.1)]),(40,[.multi M])]⟩) (λq=>q.1<=n/\UF n (Cn (rsP p) E) q.2.2/\QU (rsP p) E (λi r=>i<q.1/\r∈Yo (rsP p) E i) q.2.1 q.2.2) (λq=>n - q.1) ((0,[],λj=>j)) (⟨ζ _,UF.id n λi=>Rh.refl i,(QU.zero _ _ _).mono λi r h=>by have:=h.1;omega⟩) (AU u [2,3,50,51,40] Z Z ⟨Z,Z,Z,Z,Z,Z,Z,Z,trivial⟩) ?_))))))));rintro ⟨k,U,f⟩ ⟨hk,z,w⟩;dsimp only at hk z w⊢;refine AD (AE (J (Az Z Z Z) (AC (AD (A7 Z (λh58=>?_) (λh58=>?_))))))
   .refine AX (AD (A2 (AD ?_)));have g:k<n:=BR h58;have m:k<E.length:=by omega
    have hek:=ϑ m;refine AE (goMv Z Z (J (BC (k) Z Z (Z) (A3 m) underlying122 Z GU Z) (J (Ca Z Z K9 Z) (V (CA 4 Mr Z Z Z Z) (AB Z Z (V (B4 Z Z Z Z Z Z Z GU) ?_))))));refine AC (AD (AE (goMv Z Z (J (AL Z JZ Z Z Z) (J (AL Z OG Z Z Z) (J (AQ Z Z Z Ai Z) (goMv Z Z (V (VZ (Nk E k) ((E[k]).1.id) (k) Z Z Z mt128 IN Z Z) ?_))))))));rw [show BZ (Nk E k) (E[k]).1.id k=Nk E (k+1) by rw [<-Se m];exact plc_put hId m];refine AC (AD ?_)
    obtain ⟨L,hLe⟩:∃L,dR (rsP p) (E[k]).1=L:=⟨_,Z⟩
    have hRk:=hR _ hek;rw [hLe] at hRk;have hus:Yo (rsP p) E k=L.map Prod.fst:=by rw [<-hLe,<-Se m]
    refine Mn 40 (E[k]).2 Z hRk (λ_ _=>rfl) λB c hB hBn=>?_
    obtain ⟨M1,hM1⟩:∃M1,B6 M (E[k]).2 (.map (some (B,c)) (KC L))=M1:=⟨_,Z⟩
    rw [hM1];have h1k:M1 (E[k]).2=some (.map (some (B,c)) (KC L)):=by rw [<-hM1,GF]
    refine AE (J (AL Z LY Z Z Z) (J (AQ Z Z Z Tq Z) (V (Lo 5 (f:=40) Z Z h1k Z CQ Z Z Z Z) (AC (A2 (BO (α:=List Nat×List (AW×Int)×List (AW×Nat)×(Nat ->Nat)) (λq=>⟨154,[(7,(.d (.sl none (E.map Cx)))),(8,(.ptr 3 0 0)),(10,(.fn 67 [.ptr 3 0 0])),(11,(.map 50 0)),(12,(.map 51 0)),(13,(.d (AO k))),(55,(.d (.sl none (E.map Cx)))),(56,(.d (AO n))),(57,(.d (AO k))),(69,(.ptr 5 0 0))],[(5,[.iter 40 (E[k]).2 c q.1]),(2,[.rowD 3 1 (rowN n q.2.2.2)]),(3,[.blk 28 [.own 2 0 n]]),(50,[B1 Bd AO q.2.2.1]),(51,[B1 AF AO (Nk E (k+1))]),(40,[.multi M1])]⟩) (λq=>(q.2.1++CE L B q.1).Perm L/\UF n (Cn (rsP p) E) q.2.2.2/\QU (rsP p) E (λi r=>(i<k/\r∈Yo (rsP p) E i)\/(i=k/\r∈q.2.1.map Prod.fst)) q.2.2.1 q.2.2.2) (λq=>(CE L B q.1).length) (([],[],U,f)) (⟨by show ([]++CE L B []).Perm L;rw [ZcM (by simpa [B5] using hB)];exact List.Perm.refl _,z,w.mono λi r h=>h.elim id λh=>by simp at h⟩) (AU u [5,2,3,50,51,40] Z Z ⟨Z,Z,Z,Z,Z,Z,Z,Z,Z,Z,trivial⟩) ?_))))));rintro ⟨seen,K,U,f⟩ ⟨hP,z,w⟩;dsimp only at hP z w⊢;refine AD (AE (Ru (L) Z Z Z (h1k) Z (λhl70=>?_) (λj70 b70 t v70 hm70 hb70 hB70 G=>⟨_,Z,?_⟩)))
    .rw [hl70] at hP;have hPm:∀r,r∈K.map Prod.fst↔r∈Yo (rsP p) E k:=λr=>by rw [hus];exact ((show K.Perm L by simpa using hP).map Prod.fst).mem_iff
     refine JQ 40 (E[k]).2 Z h1k Z ?_;rw [show B6 M1 (E[k]).2 (.map none (KC L))=M by rw [<-hM1,Fs];exact MR hRk];refine J (DG Z Z Z) (AC (AD (Cu Z Z (Ar (AE (J (Ah Z Z (AK (k+1) (by omega)) Z) (goMv Z Z (AC ?_))))))));exact ⟨(k+1,U,f),⟨g,z,w.mono λi r ⟨h1,h2⟩=>(Nat.decEq i k).byCases (λe=>by subst e;exact .inr ⟨Z,(hPm r).2 h2⟩) λe=> .inl ⟨by omega,h2⟩⟩,by show n - (k+1)<n - k;omega,AU u [2,3,50,51,40] Z (Z) ⟨Z,Z,Z,Z,Z,Z,Z,Z,trivial⟩⟩
    .refine J (DG Z Z Z) (AC (AD (Bz Z Z (AX (A2 (AD ?_))))));have hku:t∈Yo (rsP p) E k:=by rw [hus];exact ψz (f:=Prod.fst) (df hm70)
     have O:∀i s,((i<k/\s∈Yo (rsP p) E i)\/(i=k/\s∈(K++ [(t,v70)]).map Prod.fst)) ->((i<k/\s∈Yo (rsP p) E i)\/(i=k/\s∈K.map Prod.fst))\/(i=k/\s=t):=λi s h=>h.elim (λh=> .inl (.inl h)) λ⟨e,h⟩=>by rw [Ω,ϖ] at h;exact h.elim (λh=> .inl (.inr ⟨e,h⟩)) λh=> .inr ⟨e,by simpa using h⟩
     refine AE (J (Lq (L) j70 b70 Z Z Z (h1k) hm70 hb70 Z) (J (DG Z Z Z) (V (CA 6 KQ Z Z Z Z) ?_)));refine V (B4 Z Z Z Z Z Z Z Yv) (AC (AD (AE (goMv Z Z (J (BA Z Z Cc Z Z Z) (J (Q0 (U) (t) (0) Z Z Z mt127 C4 za3 Z) (goMv Z Z (J (DG Z Z Z) ?_))))))));refine J (DG Z Z Z) (AB Z Z (AB Z Z (AC (AD (AE (goMv Z Z (AC (JC Z (λh80=>?_) (λh80=>?_)))))))))
     .have hkU:t∈U.map Prod.fst:=Ft.1 h80;obtain ⟨H,hu2⟩:=w.ok _ (mget_ok hkU);rw [v] at H;have hCk:=cn_rsc (by omega) m hu2 hku;refine AE (goMv Z Z (goMv Z Z (goMv Z Z (V (Vc ((YH n f (Ad U t 0) k H g (by omega)).by [(930,3),(931,2)] Z) Z [3,2] ⟨Z,Z,trivial⟩ Z Z Z Z Z Z Z Z Z) (AC ?_)))));exact ⟨(seen++ [b70],K++ [(t,v70)],U,_),⟨Gz hP G,z.join (λ_ _ _=>Cn.trans) (λ_ _=>Cn.symm) H g hCk,w.join hkU O⟩,by show (CE L B (seen++ [b70])).length<(CE L B seen).length;rw [G.length_eq];exact ψp _,AU u [5,2,3,50,51,40] Z (Z) ⟨Z,Z,Z,Z,Z,Z,Z,Z,Z,Z,trivial⟩⟩
     .refine AE (goMv Z Z (J (BA Z Z Cc Z Z Z) (goMv Z Z (V (VZ (U) (t) (k) Z Z Z mt127 C4 Z Z) (AC ?_)))));exact ⟨(seen++ [b70],K++ [(t,v70)],BZ U t k,f),⟨Gz hP G,z,w.new (λy=>by rw [Ft.2 y] at h80;cases h80) m hku O⟩,by show (CE L B (seen++ [b70])).length<(CE L B seen).length;rw [G.length_eq];exact ψp _,AU u [5,2,3,50,51,40] Z (Z) ⟨Z,Z,Z,Z,Z,Z,Z,Z,Z,Z,trivial⟩⟩
   .refine Ar (AD (AD ?_));have R:k=n:=by have:=h58;omega
    rw [R]
    have hS':QU (rsP p) E (λi r=>i<E.length/\r∈Yo (rsP p) E i) U f:=w.mono λi r ⟨h1,h2⟩=>⟨by omega,h2⟩
    refine AE (goMv Z Z (J (IQ Z Q underlying122 Z) (goMv Z Z (AC (A2 (BO (α:=Nat×(Nat ->Nat)) (λq=>⟨154,[(7,(.d (.sl none (E.map Cx)))),(8,(.ptr 3 0 0)),(10,(.fn 67 [.ptr 3 0 0])),(12,(.map 51 0)),(89,(.d (.sl none (E.map Cx)))),(90,(.d (AO n))),(91,(.d (AO q.1)))],[(2,[.rowD 3 1 (rowN n q.2)]),(3,[.blk 28 [.own 2 0 n]]),(51,[B1 AF AO (Nk E n)])]⟩) (λq=>q.1<=n/\UF n (Cn (rsP p) E) q.2/\QU (rsP p) E (λi r=>i<E.length/\r∈Yo (rsP p) E i) U q.2/\∀i,i<q.1 ->∀j,j<n ->(DO E j).id∈(DO E i).af ->q.2 j=q.2 i) (λq=>n - q.1) ((0,f)) (⟨ζ _,z,hS',λi hi=>by omega⟩) (AU u [2,3,51] Z Z ⟨Z,Z,Z,Z,Z,Z,Z,trivial⟩) ?_))))));rintro ⟨k,f⟩ ⟨hk,z,w,hA⟩;dsimp only at hk z w hA⊢;refine AD (AE (J (Az Z Z Z) (AC (AD (A7 Z (λh92=>?_) (λh92=>?_))))))
    .refine AX (AD (A2 (AD ?_)));have g:k<n:=BR h92;have m:k<E.length:=by omega
     have hek:=ϑ m;have hIk:=hIt k g;rw [Se m] at hIk;have haf:=(hf.x _ (hxm _ hIk)).2.2;refine AE (goMv Z Z (J (BC (k) Z Z (Z) (A3 m) underlying122 Z GU Z) (J (Ca Z Z K9 Z) (V (CA 4 Mr Z Z Z Z) (AB Z Z (V (B4 Z Z Z Z Z Z Z GU) (AC (AD ?_))))))));refine AE (J (AL Z JZ Z Z Z) (J (AL Z EA Z Z Z) (J (AQ Z Z Z BF Z) (J (BU Z underlying28 Z) (goMv Z Z (AC (A2 (BO (α:=Nat×(Nat ->Nat)) (λq=>⟨154,[(7,(.d (.sl none (E.map Cx)))),(8,(.ptr 3 0 0)),(10,(.fn 67 [.ptr 3 0 0])),(12,(.map 51 0)),(18,(.d (AO k))),(89,(.d (.sl none (E.map Cx)))),(90,(.d (AO n))),(91,(.d (AO k))),(98,(.d (Gl (E[k]).1.af))),(99,(.d (AO (E[k]).1.af.length))),(100,(.d (AO q.1)))],[(2,[.rowD 3 1 (rowN n q.2)]),(3,[.blk 28 [.own 2 0 n]]),(51,[B1 AF AO (Nk E n)])]⟩) (λq=>q.1<=(E[k]).1.af.length/\UF n (Cn (rsP p) E) q.2/\QU (rsP p) E (λi r=>i<E.length/\r∈Yo (rsP p) E i) U q.2/\(∀i,i<k ->∀j,j<n ->(DO E j).id∈(DO E i).af ->q.2 j=q.2 i)/\∀j,j<n ->(DO E j).id∈(E[k]).1.af.take q.1 ->q.2 j=q.2 k) (λq=>(E[k]).1.af.length - q.1) ((0,f)) (⟨ζ _,z,w,hA,λj I y=>by simp at y⟩) (AU u [2,3,51] Z Z ⟨Z,Z,Z,Z,Z,Z,Z,Z,Z,Z,Z,trivial⟩) ?_))))))));rintro ⟨A,f⟩ ⟨hj8,z,w,hA,hD⟩;dsimp only at hj8 z w hA hD⊢;refine AD (AE (J (Az Z Z Z) (AC (AD (A7 Z (λh101=>?_) (λh101=>?_))))))
     .refine AX (AD (A2 (AD ?_)));have o:A<(E[k]).1.af.length:=BR h101;refine AE (J (BC (A) Z Z (Z) (A3 o) underlying28 Z BD Z) (J (CF Z Z Ai Z) ?_));refine AB Z Z (AC (AD (AE (goMv Z Z (goMv Z Z (J (Q0 (Nk E n) ((E[k]).1.af[A]) (0) Z Z Z mt128 IN za3 Z) (goMv Z Z (J (DG Z Z Z) ?_))))))));refine J (DG Z Z Z) (AB Z Z (AB Z Z (AC (AD (AE (goMv Z Z (AC (JC Z (λh110=>?_) (λh110=>?_)))))))))
      .have hkP:=Ft.1 h110;have hpg:=X5 hId (x:=(E[k]).1.af[A]) (by rw [v];exact hkP);rw [v] at hpg;obtain ⟨H,hu2⟩:=hpg;have hCk:=cn_aft (rs:=rsP p) (i:=Ad (Nk E n) (E[k]).1.af[A] 0) (j:=k) (by omega) m (by rw [hu2,Se m];exact ϑ o);refine AE ?_;refine goMv Z Z (goMv Z Z (goMv Z Z (V (Vc ((YH n f (Ad (Nk E n) (E[k]).1.af[A] 0) k H g (by omega)).by [(930,3),(931,2)] Z) Z [3,2] ⟨Z,Z,trivial⟩ Z Z Z Z Z Z Z Z Z) (AC (AE (J (Ah Z Z (AK (A+1) (by omega)) Z) (goMv Z Z (AC ?_))))))));exact ⟨(A+1,_),⟨o,z.join (λ_ _ _=>Cn.trans) (λ_ _=>Cn.symm) H g hCk,w.keep λ_ _ h=>Hh h,λi hi j I y=>Hh (hA i hi j I y),λj I y=>by rw [ψ o,ϖ] at y;exact y.elim (λh=>Hh (hD j I h)) λh=>by have h3:=(cb hId (show j<E.length by omega)).2;rw [κ.1 h,v] at h3;rw [<-h3];exact Qv⟩,by show (E[k]).1.af.length - (A+1)<(E[k]).1.af.length - A;omega,AU u [2,3,51] Z (Z) ⟨Z,Z,Z,Z,Z,Z,Z,Z,Z,Z,Z,trivial⟩⟩
      .refine AX (AE (J (Ah Z Z (AK (A+1) (by omega)) Z) (goMv Z Z (AC ?_))));exact ⟨(A+1,f),⟨o,z,w,hA,λj I y=>by rw [ψ o,ϖ] at y;exact y.elim (hD j I) λh=>absurd (Ft.2 (by have h3:=(cb hId (show j<E.length by omega)).1;rw [κ.1 h,v] at h3;exact h3)) (by rw [h110];decide)⟩,by show (E[k]).1.af.length - (A+1)<(E[k]).1.af.length - A;omega,AU u [2,3,51] Z (Z) ⟨Z,Z,Z,Z,Z,Z,Z,Z,Z,Z,Z,trivial⟩⟩
     .refine Ar (AE (J (Ah Z Z (AK (k+1) (by omega)) Z) (goMv Z Z (AC ?_))));exact ⟨(k+1,f),⟨g,z,w,λi hi j I y=>(Nat.decEq i k).byCases (λe=>by subst e;exact hD j I (by rw [Se m] at y;have hje:A=(E[i]).1.af.length:=(by have:=h101;omega);rw [hje,ωl];exact y)) λe=>hA i (by omega) j I y⟩,by show n - (k+1)<n - k;omega,AU u [2,3,51] Z (Z) ⟨Z,Z,Z,Z,Z,Z,Z,trivial⟩⟩
    .refine Ar (AD ?_);have R:k=n:=by have:=h92;omega
     have hall:AllJ (rsP p) E f:=⟨by rw [v];exact z,⟨U,w⟩,λi hi j I y=>hA i (by omega) j (by omega) y⟩
     have hcls:(LB n n f).map (BJ E)=compL (rsP p) E:=by unfold compL;rw [<-lab_cls hall.uf hall.full,v]
     refine AE (AB Z Z (AC (AD ?_)));refine AD (AE (goMv Z Z (J (IQ Z Q underlying122 Z) (goMv Z Z (AC (A2 (NR 24 10 OZ Z Z Z Z (BO (α:=Nat×List (List Int)) (λq=>⟨154,[(7,(.d (.sl none (E.map Cx)))),(8,(.ptr 3 0 0)),(24,(.own 10 0 q.2.length)),(117,(.d (.sl none (E.map Cx)))),(118,(.d (AO n))),(119,(.d (AO q.1)))],[(10,[.rowD 28 1 (q.2.map Gl)]),(2,[.rowD 3 1 (rowN n f)]),(3,[.blk 28 [.own 2 0 n]])]⟩) (λq=>q.1<=n/\q.2=(LB n q.1 f).map (BJ E)) (λq=>n - q.1) ((0,[])) (⟨ζ _,Z⟩) (AU u [10,2,3] Z Z ⟨Z,Z,Z,Z,Z,Z,trivial⟩) ?_))))))));rintro ⟨k,T⟩ ⟨hk,hT⟩;dsimp only at hk hT⊢;refine AD (AE (J (Az Z Z Z) (AC (AD (A7 Z (λY=>?_) (λY=>?_))))))
     .refine AX (AD (A2 (AD ?_)));have g:k<n:=BR Y;have hTl:T.length<=30:=by have:=di n k f;rw [hT,χ];omega
      refine AE (goMv Z Z (AB Z Z (AC (AD (AD ?_)))));refine AE (J (AQ Z Z Z BF Z) (goMv Z Z (J (CM (k) Z Z (Z) (g) Z underlying28 BD Z) (J (CY Z Z (JB g) Z Ai Z) (goMv Z Z (J (C7 Z Z Z) (AC (A7 Z (λh127=>?_) (λh127=>?_)))))))))
      .refine Ar (AE (J (Ah Z Z (AK (k+1) (by omega)) Z) (goMv Z Z (AC ?_))));exact ⟨(k+1,T),⟨g,by show _=(LB n (k+1) f).map _;rw [Zs (by omega),hT]⟩,by show n - (k+1)<n - k;omega,AU u [10,2,3] Z (Z) ⟨Z,Z,Z,Z,Z,Z,trivial⟩⟩
      .refine AX (AD (AE (AB Z Z (AC (AD ?_)))));refine AD (AE (goMv Z Z (J (IQ Z Q underlying122 Z) (goMv Z Z (AC (A2 (NR 26 11 BT Z Z Z Z (BO (α:=Nat×List Int) (λq=>⟨154,[(7,(.d (.sl none (E.map Cx)))),(8,(.ptr 3 0 0)),(24,(.own 10 0 T.length)),(25,(.d (AO k))),(26,(.own 11 0 q.2.length)),(117,(.d (.sl none (E.map Cx)))),(118,(.d (AO n))),(119,(.d (AO k))),(128,(.d (.sl none (E.map Cx)))),(129,(.d (AO n))),(130,(.d (AO q.1)))],[(11,[.rowD 3 1 (q.2.map AF)]),(10,[.rowD 28 1 (T.map Gl)]),(2,[.rowD 3 1 (rowN n f)]),(3,[.blk 28 [.own 2 0 n]])]⟩) (λq=>q.1<=n/\q.2=BJ E (QI f k q.1)) (λq=>n - q.1) ((0,[])) (⟨ζ _,Z⟩) (AU u [11,10,2,3] Z Z ⟨Z,Z,Z,Z,Z,Z,Z,Z,Z,Z,Z,trivial⟩) ?_))))))));rintro ⟨j,S⟩ ⟨I,W⟩;dsimp only at I W⊢;refine AD (AE (J (Az Z Z Z) (AC (AD (A7 Z (λX=>?_) (λX=>?_))))))
       .refine AX (AD (A2 (AD ?_)));have o:j<n:=BR X;have hjE:j<E.length:=by omega
        have hSl:S.length<=30:=by have:=dl f k j;rw [W];unfold BJ;rw [χ];omega
        refine AE (goMv Z Z (J (BC (j) Z Z (Z) (A3 hjE) underlying122 Z GU Z) (J (Ca Z Z K9 Z) (V (CA 4 Mr Z Z Z Z) (AB Z Z (V (B4 Z Z Z Z Z Z Z GU) (AC (AD ?_))))))));refine AE (J (AQ Z Z Z BF Z) (goMv Z Z (J (CM (j) Z Z (Z) (o) Z underlying28 BD Z) (J (CY Z Z (JB o) Z Ai Z) (goMv Z Z (J (FC Z Z Z) (AC (A7 Z (λh140=>?_) (λh140=>?_)))))))))
        .refine AE (goMv Z Z (J (AL Z JZ Z Z Z) (J (AL Z OG Z Z Z) ?_)));refine J (AQ Z Z Z Ai Z) (V (C1 30 BT Z Z Z Z Z Z Z Z) (V (Eu (S) ([(E[j]).1.id]) Z Z Z Z Z Z Z Z BT (by simp only [υ];omega) Z Z Z Z) (AB Z Z (AC (AE (J (Ah Z Z (AK (j+1) (by omega)) Z) (goMv Z Z (AC ?_))))))));exact ⟨(j+1,S++ [(E[j]).1.id]),⟨o,by show _=BJ E (QI f k (j+1));rw [dm (by omega),W];unfold BJ;rw [Ω,List.map_singleton,Se hjE]⟩,by show n - (j+1)<n - j;omega,AU u [11,10,2,3] Z (Z) ⟨Z,Z,Z,Z,Z,Z,Z,Z,Z,Z,Z,trivial⟩⟩
        .refine AX (AE (J (Ah Z Z (AK (j+1) (by omega)) Z) (goMv Z Z (AC ?_))));exact ⟨(j+1,S),⟨o,by show _=BJ E (QI f k (j+1));rw [Zu (by omega),W]⟩,by show n - (j+1)<n - j;omega,AU u [11,10,2,3] Z (Z) ⟨Z,Z,Z,Z,Z,Z,Z,Z,Z,Z,Z,trivial⟩⟩
       .refine Ar ?_;have hje:j=n:=by have:=X;omega
        refine KP (emb:=AF) 26 11 S Z Z Z Z Z Z Z ?_;rw [show S=BJ E (Zt n f k) by rw [W,hje];rfl];refine AE (goMv Z Z ?_);refine goMv Z Z (V (C1 31 OZ Z Z Z Z Z Z Z Z) (V (Eu (T) ([BJ E (Zt n f k)]) Z Z Z Z Z Z Z Z OZ (by simp only [υ];omega) Z Z Z Z) (AB Z Z (AC (AE (J (Ah Z Z (AK (k+1) (by omega)) Z) (goMv Z Z (AC ?_))))))));exact ⟨(k+1,T++ [BJ E (Zt n f k)]),⟨g,by show _=(LB n (k+1) f).map _;rw [dj (by omega),Ω,hT];rfl⟩,by show n - (k+1)<n - k;omega,AU u [10,2,3] Z (Z) ⟨Z,Z,Z,Z,Z,Z,trivial⟩⟩
     .refine Ar (AD ?_);have R:k=n:=by have:=Y;omega
      refine KP (emb:=Gl) 24 10 T Z Z Z Z Z Z Z ?_;rw [show T=compL (rsP p) E by rw [hT,R,hcls]];refine AE (goMv Z Z (AB Z Z (AB Z Z (AC (AZ ?_)))));exact ⟨_,[],[],AY Z,Z,Z,E,hEq,Z,Z⟩
end Go.Proofs.YteifpcnphnhaoaaGreat
