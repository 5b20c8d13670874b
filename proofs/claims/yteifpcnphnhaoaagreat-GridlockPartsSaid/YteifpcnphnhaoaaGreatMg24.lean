import Derived.Test.YteifpcnphnhaoaaGreatMg23
import Derived.Shelf.SortG.Plain
import Derived.Shelf.SortG.SortNone
open Go.Proofs.Tryz
namespace Go.Proofs.YteifpcnphnhaoaaGreat
open Go.RowKit Go.Shelf
open Go.Sort (putRow Holds putCells)
def Ct (l:List Int):List Int:=l.mergeSort λx y=>decide (x<=y)
theorem DQ (l:List Int):(Ct l).Perm l:=List.mergeSort_perm l _
theorem FV (l:List Int):(Ct l).length=l.length:=(DQ l).length_eq
theorem KF (l:List Int):(Ct l).Pairwise (· <= ·):=by grind [List.pairwise_mergeSort,Ct]
abbrev zD (z:Int):D:= .raw (.int .i64 z)
variable {P:Program} {ρr:Ren}
theorem Sc (L:SlLaysN.n53 P ρr) {E:TypeId} {g53:FuncId} (k:List Int) (hsz:k.length<4611686018427387904) {F:Fr} {s:AS} {d:Nat} {x:Operand} {ty:TypeId} {pos:String} {aft:Array Edge} {gd:Option (Nat×Bool)} {at_:Array TypeId} {f n:Nat} {S:List D} {O:Hp}
  (hg:ρr.f 53=g53) (C:s.ev x=some (.own f 0 n)) (ho:fb s.hp f 0=some (.rowD E 1 S)) (V:S=k.map zD) (hn:n=k.length) (hh:B1 s.hp f 0 (.rowD E 1 ((Ct k).map zD))=some O) (hd:Nat.blt d s.n=true):
  AH P F ⟨some d,.call {callee:= .value (.func g53),args:= #[x],argTypes:=at_},ty,pos,aft,gd⟩ s ⟨s.n,(d,.d (.tup []))::s.env,O⟩ (λ_ _=>true):=by
 subst hg V hn;intro ρ H w hs
 obtain ⟨fn6,hf1,hf2,hf3⟩:∃fn,P.funcs[ρr.f 53]? =some fn/\(fn.name== "runtime.NumGoroutine")=false/\fn.body.isSome=true:=by
  obtain ⟨nm,hn,hf⟩:=L.f53;exact ⟨_,hf,hn,Z⟩
 unfold Oper.wp;rw [show (#[x]:Array Operand)=[x].toArray from rfl,DG hf1 hf2 hf3,Oper.upon_enter]
 suffices J:Calls P (ρr.f 53) ([x].map H.eval).toArray w λe w'=>e= .returned (.tuple #[])/\SR F ⟨s.n,s.env,O⟩ ρ H w' by
  refine J.mono λe w' ⟨R,hsr⟩=>?_;subst R;exact ⟨ρ,hsr.put (IJ hd) (.d (.tup Z λi c v hc=>nomatch hc)),λ_ _ _=>rfl⟩
 have r0:=hs.ev C;have hg0:=ho;have h3:=hs.heap;have B:=Ax hh;obtain ⟨us,q1,q2,q3⟩:=h3.sim f 0 _ hg0;show Calls P (ρr.f 53) #[H.eval x] w _
 generalize H.eval x=V0 at r0
 cases r0 with
 | own T hle=>
  rename_i N r a
  by_cases C:k=[]
  .subst C;refine (AnyG.slices_Sort_int_none L a r w).mono λe w' ⟨R,e2⟩=>?_;subst R e2;refine ⟨Z,hs.writeG f 0 _ _ ho B Z Z Z (Γ _) (Γ _) (λ_ _ _=>rfl) (λ_ _ e=>nomatch e) λW=>?_⟩;have h0:Ct []=[]:=by simp [Ct]
   rw [h0];exact ⟨us,q1,⟨by simpa using q2.1,λx C=>(nomatch C),λi x C=>by simp at C⟩,λx C=>(nomatch C)⟩
  .have hn:0<k.length:=jV.2 C;have hul:us.length=k.length:=by have:=q2.1;rw [χ] at this;omega
   have G:∃b o,a=some ⟨b,0,none⟩/\w.heap[b]? =some (.cells o E (0,0))/\o.size=r/\k.length<=r/\r<=maxLen/\o.toList.take k.length=us/\N=k.length:=by
    rcases q1.2 with ⟨_,h⟩ | ⟨b,cap',o,R,_,e2,e3,e4,e5,e6⟩
    .grind
    grind
   obtain ⟨b,o,rfl,p1,p2,p3,p3',p4,rfl⟩:=G;have hb:Bn (ρ f 0)=some b:=by rw [T];rfl
   have Y:b<w.heap.size:=(i6.1 p1).1
   have hus:∀i (hi:i<k.length),us[i]? =some (.int .i64 k[i]):=λi hi=>by
    have hm:(k.map zD)[i]? =some (zD k[i]):=by rw [ν,ω hi];rfl
    obtain ⟨u,hu,_,hr⟩:=q2.2.2 i _ hm 0 (zD k[i]) rfl;rw [ij,iT] at hu
    cases hr with
    | raw _=>exact hu
   have hH:Holds (Value.int .i64) w b 0 k.toArray:=by
    intro j hj
    grind [World.cell?,World.frozen?]
   have J:=AnyG.slices_Sort_int L b 0 r k w hH Y hsz;refine J.mono λe w' ⟨R,nd,os,hw⟩=>?_;subst R hw
   obtain ⟨z,K⟩:∃z,Ct k=z:=⟨_,Z⟩
   have U:(k.mergeSort λx y=>decide (x<=y))=z:=K;have M:z.length=k.length:=by rw [<-K,FV]
   rw [K] at B hh;rw [U];refine ⟨Z,?_⟩;have A:((putRow (Value.int .i64) (Go.Sort.ahead w nd) b 0 z.toArray)).heap.size=w.heap.size:=by rw [Go.Sort.size_putRow];rfl
   have X:∀I,I<w.heap.size ->I≠b ->(Go.Sort.grow (putRow (Value.int .i64) (Go.Sort.ahead w nd) b 0 z.toArray) os).heap[I]? =w.heap[I]?:=λI hl hne=>by
    rw [Go.Sort.heap_grow_old _ _ (by rw [A];exact hl)];show (w.heap.modify b _)[I]? =_;rw [jd,θ (Ne.symm hne)]
   refine hs.writeG f 0 _ _ ho B Z Z Z (by rw [Go.Sort.size_grow,A];exact Nat.le_add_right _ _) (Nat.le_add_right _ _) (λI hl hno=>X I hl (λe=>hno (by rw [e];exact hb))) (λ_ _ e=>nomatch e) λW=>?_
   have Q:(Go.Sort.grow (putRow (Value.int .i64) (Go.Sort.ahead w nd) b 0 z.toArray) os).heap[b]? =some (.cells (putCells (Value.int .i64) 0 z.toArray o) E (0,0)):=by
    rw [Go.Sort.heap_grow_old _ _ (by rw [A];exact Y)];show (w.heap.modify b _)[b]? =_;rw [jd,ϱ Z,p1];rfl
   have hcs:(putCells (Value.int .i64) 0 z.toArray o).size=r:=by simp only [putCells,Array.size_mapIdx];exact p2
   have l:(z.map zD).length=k.length:=by rw [χ,M]
   refine ⟨z.map (Value.int .i64),⟨by rw [χ,l,M,ij],.inr ⟨b,r,_,by rw [T,l],ζ _,Q,by rw [l];exact p3,p3',by omega,?_⟩⟩,⟨by rw [χ,l,M,ij],λx g=>?_,λi x g j c t=>?_⟩,λx g c t=>?_⟩
   .rw [l,ij]
    apply j0
    intro i
    by_cases hi:i<k.length
    .rw [je hi,ip,ν,ω (by omega),iH (by omega)];simp only [putCells,Array.getElem_mapIdx];rw [ϱ ⟨ζ _,by simp;omega⟩];simp only [Nat.sub_zero,iY];rw [getElem!_pos _ i (by simp;omega)]
     simp
    .rw [jO (by rw [ϖ];omega),jO (by rw [χ];omega)]
   .obtain ⟨y,_,rfl⟩:=Θ.1 g;rfl
   .rw [ν] at g
    cases hyi:z[i]? with
    | none=>rw [hyi] at g;cases g
    | some y=>
     rw [hyi] at g;injection g with g;subst g
     have hj0:j=0:=by have:=(φ.1 t).1;simp [D.cells] at this;exact this
     subst hj0;simp only [D.cells,List.getElem?_cons_zero,Option.some.injEq] at t;subst t;exact ⟨.int .i64 y,by rw [ij,iT,ν,hyi];rfl,Z,.raw Z⟩
   .obtain ⟨y,_,rfl⟩:=Θ.1 g;simp only [D.cells,η] at t;subst t;rfl
end Go.Proofs.YteifpcnphnhaoaaGreat
namespace Go.Proofs.YteifpcnphnhaoaaGreat
open Go.RowKit
set_option maxRecDepth 100000
section
variable {P:Program} {F:Fr} {s:AS} {α β:Type} [DecidableEq α] {eK:α ->D} {eV:β ->D} {K:TypeId} {kv:α ->Value} {d:Nat} {ty T E:TypeId} {pos:String} {aft:Array Edge} {g:Option (Nat×Bool)} {x y z:Operand} {bs:Option (List Nat×Nat)}
variable {a:D}
theorem Sg (m:List (α×β)) (b:α) (o v:β) {f i:Nat} (S:s.ev x=some (.map f i)) (W:fb s.hp f i=some (.map bs (BY eK eV m))) (R:s.ev y=some (.d (eK b))) (L:Bh P T K E=true) (k:Bp P K eK kv) (Q:Cx P E=some (.d a)) (U:∀w O v,AW w O a v ->AW w O (eV o) v) (V:Aa m b o=v) (X:Nat.blt d s.n=true):
  AA P F ⟨some d,.lookup T x y false,ty,pos,aft,g⟩ s d (.d (eV v)):=
 Cv _ X λl G w I=>by
  obtain ⟨mb,arr,c,N,_,M,C,B,_⟩:=I.mapAt S W;have J:G.eval y=kv b:=(I.repD R).val (k.val b);obtain ⟨H,A,u⟩:=Ec Q w
  have t:∀r O l,A6 r O l (.d (eV o)) H:=λr O l=>by
   have:=u r O l
   cases this with
   | d h=>exact .d (U _ _ _ h)
  subst V;rcases gU k C B b o with ⟨D,_,Z,_⟩ | ⟨j,e,D,g2,_,_,_,_,Y⟩
  .refine ⟨H,?_,by rw [Z];exact t _ _ _⟩
   simp [execOp,Instr.lookup,run_underlying (WW L),N,J,MapKept.run_getObj_map M,k.check,k.find w b _ _ (Xz k C B),D,A,Result.andThen]
  .refine ⟨e.val,?_,.d Y⟩
   simp [execOp,Instr.lookup,run_underlying (WW L),N,J,MapKept.run_getObj_map M,k.check,k.find w b _ _ (Xz k C B),D,Result.andThen]
theorem Nt (m:List (α×β)) (b:α) (D:β) {f i:Nat} (hx:s.ev x=some (.map f i)) (ho:fb s.hp f i=some (.map bs (BY eK eV m))) (hy:s.ev y=some (.d (eK b))) (W:Bh P T K E=true) (o:Bp P K eK kv) (hz:Cx P E=some (.d a)) (hw:∀w O v,AW w O a v ->AW w O (eV D) v) (hd:Nat.blt d s.n=true):
  AA P F ⟨some d,.lookup T x y true,ty,pos,aft,g⟩ s d (.tup [.d (eV (Aa m b D)),.d (.raw (.bool (OW m b)))]):=
 Cv _ hd λk N w U=>by
  obtain ⟨mb,arr,c,Y,_,C,t,L,_⟩:=U.mapAt hx ho;have V:N.eval y=kv b:=(U.repD hy).val (o.val b);obtain ⟨S,J,I⟩:=Ec hz w
  have H:∀G O k,A6 G O k (.d (eV D)) S:=λG O k=>by
   have:=I G O k
   cases this with
   | d h=>exact .d (hw _ _ _ h)
  have l:∀{A u:Value} {R Q:AV},A6 w (F.O k s.hp) k R A ->A6 w (F.O k s.hp) k Q u ->A6 w (F.O k s.hp) k (.tup [R,Q]) (.tuple #[A,u]):=λ{A u R Q} C t=>by
   refine .tup (vs:=[A,u]) Z λi b v r B=>?_;rcases i with _ | _ | i
   .simp at r B;subst r B;exact C
   .simp at r B;subst r B;exact t
   .simp at r
  rcases gU o t L b D with ⟨M,X,g3,_⟩ | ⟨j,e,M,X,_,g4,_,_,g7⟩
  .refine ⟨.tuple #[S,.bool false],?_,l (by rw [g3];exact H _ _ _) (by rw [X];exact .d (.raw Z))⟩
   simp [execOp,Instr.lookup,run_underlying (WW W),Y,V,MapKept.run_getObj_map C,o.check,o.find w b _ _ (Xz o t L),M,J,Result.andThen]
  .refine ⟨.tuple #[e.val,.bool true],?_,l (.d g7) (by rw [g4];exact .d (.raw Z))⟩
   simp [execOp,Instr.lookup,run_underlying (WW W),Y,V,MapKept.run_getObj_map C,o.check,o.find w b _ _ (Xz o t L),M,Result.andThen]
end
theorem H8:∀w O v,AW w O (.agg [AF 0,AF 0,AF 0,.sl (some true) [],.sl (some true) [],.sl (some true) []]) v ->AW w O (Ag Af) v:=λw O v h=>h.aggMono Z (by simp [D.one]) λi c g b a v f=>by
 match i,b,a with
 | 0,b,a=>injection b with b;injection a with a;subst b a;exact f
 | 1,b,a=>injection b with b;injection a with a;subst b a;exact f
 | 2,b,a=>injection b with b;injection a with a;subst b a;exact f
 | 3,b,a=>injection b with b;injection a with a;subst b a;exact f.anyNil
 | 4,b,a=>injection b with b;injection a with a;subst b a;exact f.anyNil
 | 5,b,a=>injection b with b;injection a with a;subst b a;exact f.anyNil
def lU (l:List Ac):List Ac:=l.mergeSort λa b=>decide (Bf a.r b.r<=0)
theorem Ls (l:List Ac):(lU l).Perm l:=List.mergeSort_perm l _
theorem cm (l:List Ac):(lU l).length=l.length:=(Ls l).length_eq
theorem mT {a b c:AT} (g:Bf a b<=0) (f:Bf b c<=0):Bf a c<=0:=by
 by_cases i:Bf a b=0
 .rw [EY.1 i];exact f
 .by_cases h:Bf b c=0
  .rw [<-EY.1 h];exact g
  .have:=PZ.trans a b c (by omega) (by omega);omega
theorem T8 (l:List Ac):(lU l).Pairwise λa b=>¬Bf b.r a.r<0:=by
 have:=List.pairwise_mergeSort (le:=λa b:Ac=>decide (Bf a.r b.r<=0)) (λa b c g f=>by simp only [iz] at*;exact mT g f) (λa b=>by simp only [Bool.or_eq_true,iz];have:=PZ.anti a.r b.r;omega) l
 exact this.imp λ{a b} h=>by
  have i:Bf a.r b.r<=0:=by simpa using h
  have:=PZ.anti a.r b.r;omega
theorem ki {g:Type} (f:g ->AT) {l m i:List g} (c:(l.map f).Nodup) (s:m.Perm l) (j:m.Pairwise λa b=>¬Bf (f b) (f a)<0) (o:i.Perm l) (t:i.Pairwise λa b=>¬Bf (f b) (f a)<0):i=m:=by
 have r:∀{k:List g},(k.map f).Nodup ->(k.Pairwise λa b=>¬Bf (f b) (f a)<0) ->k.Pairwise λa b=>Bf (f a) (f b)<0:=λ{k} c h=>by
  rw [List.Nodup,iW] at c;refine (h.and c).imp λ{a b} ⟨v,u⟩=>?_;have o:=PZ.anti (f a) (f b);have t:Bf (f a) (f b)≠0:=λe=>u (EY.1 e);omega
 exact DP (R:=λa b=>Bf (f a) (f b)<0) (λx=>by rw [PZ.refl];omega) (λx y z=>PZ.trans _ _ _) (r ((o.map f).nodup_iff.2 c) t) (r ((s.map f).nodup_iff.2 c) j) λx=>by rw [o.mem_iff,s.mem_iff]
structure jK where
 r:AT
 n:Int
 q:List Int
abbrev OY (x:jK):D:= .agg [AF x.r.k,Am x.r.acc.o,AF x.r.acc.k,Am x.r.acc.a,Am x.r.f,Am x.r.t,AF x.n,.sl none (x.q.map AF)]
theorem cp (x:jK):∃a,OY x= .agg a:=⟨_,Z⟩
def IM (p:fj) (x:Ac):jK:=⟨x.r,max x.n 0,KM (fk p) x.r⟩
def fg (p:fj):List jK:=(lU p.ro).map (IM p)
theorem I4 (p:fj):(fg p).length=p.ro.length:=by unfold fg;rw [χ,cm]
theorem Su {l:List Ac} (h:Dn l=0):(l.map Ac.r).Nodup:=by
 have c:=Ul.1 h;rw [List.Nodup,iW,iS];intro i j f a b e;have:=c j (Ψ.2 a)
 grind [JU,GZ]
theorem XW {p:fj} (f:Az p=0) {c:List jK} (h:c.Perm (p.ro.map (IM p))) (g:c.Pairwise λa b=>¬Bf b.r a.r<0):c=fg p:=by
 refine ki jK.r (l:=p.ro.map (IM p)) ?_ ((Ls p.ro).map _) ?_ h g
 .rw [gZ];exact Su (PR f).1
 .unfold fg;rw [iW];exact T8 p.ro
theorem qr (a b:jK):AK prog 175 [.d (OY a),.d (OY b)] (AF (Bf a.r b.r)):=by
 refine At func175 Z Z ntmps175 Z Z Z λF c=>(AC (AE (V (Bo 1 Z Z Z Z Z Z Z) (V (Bo 2 Z Z Z Z Z Z Z) (AB Z Z (AD (AC ?_)))))));refine AE (J (AN Z Kj Z Z Z) (J (Ay Z Z Cc Z Z Z) (J (AN Z Kj Z Z Z) (J (Ay Z Z Cc Z Z Z) (J (As (MM a.r b.r) Z Z) (AB Z Z (AD (A4 ?_))))))));exact ⟨_,[],[],A2 Z,Z,Z,Z,Z⟩
def Ch (l:List AI):List (Int×AI):=l.map λi=>(i.id,i)
theorem Vt {l:List AI} {i:AI} (h:i.id∉l.map AI.id):BS (Ch l) i.id i=Ch (l++ [i]):=by
 induction l with
 | nil=>rfl
 | cons a l b=>
  grind [BS,Ch]
section
variable {β:Type}
end
variable {a:fj} {c:List (Int×Bool)} {k:Nat} {f:List Int} {g:Type}
def Ir (p:fj):List Int:=(fk p).map AI.id
abbrev HA (p:fj):Hp:=[(10,[.blk 229 [.map 11 0,.d (.sl none ((Ir p).map AF)),.d (.sl none ((fg p).map OY))]]),(11,[BT AF Ag (Ch p.it)])]
theorem so (a:Int):(if 0>a then 0 else a)=max a 0:=by omega
theorem PL (p:fj) (t:E1 p) (C:Az p=0):AO prog 126 [.d (Bq p)] [] λr N=>r= .tup [.ptr 3 0 0,.d (AF 0)]/\N=[(3,[.blk 229 [.map 2 0,.d (.sl none ((Ir p).map AF)),.d (.sl none ((fg p).map OY))]]),(2,[BT AF Ag (Ch p.it)])]:=by
 have s:=Gn p t;rw [C] at s;have B:=D9 (PR C).2.1;have w:=IV p t;have I:=t.1;have H:=t.2.1;refine At func126 Z Z ntmps126 Z Z Z λF u=>(AC (AE (V (Bo 1 Z Z Z Z Z Z Z) ?_)));refine AB Z Z (AB Z Z (AD (AC (AC (AE (J (Ay Z Z Bl Z Z Z) (J (As (s) Z Z) (AB Z Z ?_))))))));refine AD (AC (AE (fZ Z Z (J (Cw Z Z Z) (AD (Cm Z ((by decide)) (AX (AC ?_))))))));refine AE (V (PY 2 Z Z Z Z) (J (Ay Z Z Bl Z Z Z) (J (As (w) Z Z) (J (FD rT sX Z Z Z) (V (Bo 3 Z Z Z Z Z Z Z) (AB Z Z (AD (AC ?_))))))));refine AC (AE (J (AN Z DA Z Z Z) (J (AP Z Z Z JV Z) (J (Ba Z cl Z) (fZ Z Z (AD (AZ (BO (α:=Nat) (λk=>⟨68,[(1,(.ptr 1 0 0)),(5,(.ptr 3 0 0)),(21,(.d (.sl none (p.it.map Ag)))),(22,(.d (AF (p.it.length:Int)))),(23,(.d (AF (k:Int))))],[(1,[EC 39 p]),(3,[.blk 229 [.map 2 0,.d (.sl none ((Ir p).map AF)),JW]]),(2,[BT AF Ag (Ch (p.it.take k))])]⟩) (λk=>k<=p.it.length) (λk=>p.it.length - k) (0) (ζ _) (AY u [1,3,2] Z Z F0) ?_))))))));rintro k G;refine AC (AE (J (BB Z Z Z) (AD (AC (A9 Z (λl=>?_) (λl=>?_))))))
 .have g:k<p.it.length:=BR l;refine AX (AC (AZ (AC (AE ?_))));have z:p.it[k].id∉(p.it.take k).map AI.id:=λh=>by have D:=B;rw [List.Nodup,iW,iS] at D;obtain ⟨x,E,e⟩:=Θ.1 h;obtain ⟨j,O,rfl⟩:=jX.1 E;exact D j k (by omega) g (by omega) e
  refine J (BJ (k) Z Z (Z) (A5 g) cl Z Co Z) (J (DM Z Z CP Z) (V (By 4 FG Z Z Z Z) (V (B3 Z Z Z Z Z Z Z Co) (AD (CZ [[],[0],[0,1],[0,1,2],[],[4],[],rg 7] mixed Z (CG (Av 5 Z Z (AU [27] Z (LM Z Z) ?_))))))));refine AU [28] Z (AN Z Km Z Z Z) (Au [29] Z Z (λ_=>Ae (AP Z Z Z TP Z)) (AU [7] Z (AN Z PQ Z Z Z) (Au [31] Z Z (λ_=>Ae (AP Z Z Z An Z)) (Au [7] Z Z (λ_=>Ae (Ay Z Z CP Z Z Z)) (CB 7 Z Z Z (Ad 8 Z Z (V (Uo (Ch (p.it.take k)) (p.it[k].id) (p.it[k]) Z Z Z T6 IF Z Z) (AD ⟨Z,?_⟩))))))));refine CM (AE (J (Al Z Z (AM (k+1) (by omega)) Z) (fZ Z Z (AD ?_))));exact ⟨k+1,by show k+1<=_;omega,by show p.it.length - (k+1)<p.it.length - k;omega,AY u [1,3,2] Z (by rw [ψ g,<-Vt z];rfl) F0⟩
 .refine Aw (AC (AC ?_));rw [κ (show p.it.length<=k by have h:=l;omega)];refine Zw 3 0 2 900 bF Z Z Z Z Z Z Z (AE (J (AN Z Dx Z Z Z) (J (AP Z Z Z ON Z) (J (Ba Z fU Z) (fZ Z Z (AD (AZ (BO (α:=Nat×List jK) (λq=>⟨68,[(1,(.ptr 1 0 0)),(5,(.ptr 3 0 0)),(36,(.d (.sl none (p.ro.map Bv)))),(37,(.d (AF (p.ro.length:Int)))),(38,(.d (AF (q.1:Int))))],[(900,[.rowD 233 8 (q.2.map OY)]),(1,[EC 39 p]),(3,[.blk 229 [.map 2 0,.d (.sl none ((Ir p).map AF)),.own 900 0 q.2.length]]),(2,[BT AF Ag (Ch p.it)])]⟩) (λq=>q.1<=p.ro.length/\q.2=(p.ro.take q.1).map (IM p)) (λq=>p.ro.length - q.1) ((0,[])) (⟨ζ _,Z⟩) (AY u [900,1,3,2] Z Z F0) ?_))))))));rintro ⟨m,c⟩ ⟨A,v⟩;dsimp only at A v⊢;refine AC (AE (J (BB Z Z Z) (AD (AC (A9 Z (λi=>?_) (λi=>?_))))))
  .have o:m<p.ro.length:=BR i;refine AX (AC (AZ (AC (AE ?_))));have K:c.length<=100000:=by rw [v,χ,ϖ];omega
   refine J (BJ (m) Z Z (Z) (A5 o) fU Z Mu Z) ?_;refine J (DM Z Z VU Z) (V (By 5 Qw Z Z Z Z) (V (B3 Z Z Z Z Z Z Z Mu) (AD (CZ [[],[],[1],[1,2],[1,2,3],[],[5],[],[7],[7,8],[],[],[11],[10,11,12],[5,6,7,8,9,10,11,12,13],[5,6,7,8,9,10,11,12,13,14],[1,2,3,4,5,6,7,8,9,10,11,12,13,14,15],rg 17,rg 18,rg 19] mixed Z (CG (Av 5 Z Z (Av 5 Z Z (AU [43] Z (LM Z Z) ?_))))))));refine AU [44] Z (AN Z Kl Z Z Z) (Ao [45] [3] Z Z (λ_=>Ae (AP Z Z Z XA Z)) (AU [9] Z (AN Z Ex Z Z Z) (Ao [47] [5] Z Z (λ_=>Ae (Ay Z Z Cc Z Z Z)) (AU [9] Z (AN Z Rk Z Z Z) (Ao [49] [5] Z Z (λ_=>Ae (AP Z Z Z GE Z)) (AU [50] Z (RD Z Z (so _) Z) (Ao [1] [1] Z Z (λ_=>Ae (Ay Z Z Bl Z Z Z)) (AU [9] Z (AN Z Ex Z Z Z) ?_))))))));refine Ao [53] [5] Z Z (λ_=>Ae (Ay Z Z Cc Z Z Z)) (AU [52,54] Z (As (kq p p.ro[m].r t) Z Z) (AU [48,51,55] Z (FD aD sW Z Z Z) (HC [56] [50] [(57,_)] Z Z (λ_=>HD (C5 50 bF Z Z Z Z Z Z Z Z)) (.inr ⟨57,_,Z,Z,Z,Z,Z⟩) Z Z Z Z Z (HC [46,57] [900,50,3,2] [(58,_)] Z Z (λ_=>HD (F2 (c) ([IM p p.ro[m]]) Z Z Z Z Z Z Z Z bF (by simp only [ς];omega) Z Z Z Z)) (.inr ⟨58,_,Z,Z,Z,Z,Z⟩) Z Z Z Z Z (CB 17 Z Z Z (Ad 18 Z Z (J (LM Z Z) (AD ⟨Z,?_⟩))))))));refine Ad 19 Z Z (J (AN Z Kl Z Z Z) (AD ⟨Z,?_⟩));refine Ad 20 Z Z (V (B3 Z Z Z Z Z Z Z ry) (AD ⟨Z,?_⟩));refine CM (AE (J (Al Z Z (AM (m+1) (by omega)) Z) (fZ Z Z (AD ?_))));exact ⟨(m+1,c++ [IM p p.ro[m]]),⟨by show m+1<=_;omega,by show c++ [IM p p.ro[m]]=(p.ro.take (m+1)).map (IM p);rw [EH o,v]⟩,by show p.ro.length - (m+1)<p.ro.length - m;omega,AY u [900,1,3,2] Z (Z) F0⟩
  .refine Aw (AC ?_);have f:c=p.ro.map (IM p):=by rw [v,κ (by have h:=i;omega)]
   refine AE (fZ Z Z (J (LM Z Z) (J (AN Z Kl Z Z Z) (J (AP Z Z Z XA Z) (V (NK p8 (k:=8) (by decide) isAgg233 sizeOf233 func175 Z Z cp (λa b=>Bf a.r b.r) ((PZ.comap jK.r).swo) c (fg p) (by rw [f,χ];omega) (λx _ y _=>qr x y) (λys M L=>XW C (by rw [<-f];exact M) L) Z Z Z MG Z Z Z Z Z) ?_)))));refine AD (AC (Zy (ys:=(fg p).map OY) 3 0 2 900 Z Z Z (by rw [χ,I4,f,χ];exact Γ _) (κ (by rw [χ,I4,f,χ];exact Γ _)) Z Z Z Z Z Z (AE (fZ Z Z (AB Z Z (AB Z Z (AD (A4 ?_))))))));exact ⟨_,[3,2],_,A2 Z,Z,Z,Z,Z⟩
theorem Ue (p:fj) (b:E1 p) (c:Az p≠0):AK prog 126 [.d (Bq p)] (.tup [.raw (.pointer none),AF (Az p)]):=by
 have a:=Gn p b;refine At func126 Z Z ntmps126 Z Z Z λF f=>(AC (AE (V (Bo 1 Z Z Z Z Z Z Z) (AB Z Z (AB Z Z (AD (AC (AC ?_))))))));refine AE (J (Ay Z Z Bl Z Z Z) (J (As (a) Z Z) (AB Z Z (AD (AC (AE (fZ Z Z (J (Cw Z Z Z) ?_))))))));refine AD (Bx Z ((gQ c)) (AC (AE (fZ Z Z (AB Z Z (AB Z Z (AD (A4 ?_))))))));exact ⟨_,[],[],A2 Z,Z,Z,Z,Z⟩
theorem Vu (l:List AI) (i:Int):Aa (Ch l) i Af=l.getD ((l.map AI.id).idxOf i) Af:=by
 induction l with
 | nil=>rfl
 | cons a l b=>
  grind [Aa,Ch]
theorem Jl (l:List AI) (i:Int):OW (Ch l) i=decide (i∈l.map AI.id):=by
 rw [ju,Fm,iz];unfold Ch;rw [gZ];rfl
theorem Q1 (p:fj) (i:Int):Aa (Ch p.it) i Af=B2 p i:=Vu p.it i
theorem R6 (b:E1 a) (i:Int):(B2 a i).po.length<=100000/\(B2 a i).pa.length<=100000/\(B2 a i).af.length<=100000:=by grind [B2,Af,E1]
theorem OF (p:fj) (l:List Int) (v:E1 p) (y:l.length<=100000) (c:CX p l=0):AO prog 71 [.d (Bq p),.d (.sl none (l.map AF))] [] λr x=>r= .tup [.ptr 10 0 0,.map 2 0,.d (AF 0)]/\x=HA p++ [(2,[BT AF Ah (BN l)])]:=by
 have t:Az p=0:=by
  unfold CX at c;split at c
  .exact c
  .rename_i h;simpa using h
 have o:=(PL p v t).by [(3,10),(2,11)] rfl;have w:CX p l=KG (p.it.map AI.id) l:=θ (λh=>h t);rw [w] at c;refine At func71 Z Z ntmps71 Z Z Z λF s=>(AC (AE (V (Bo 1 Z Z Z Z Z Z Z) ?_)));refine AB Z Z (AB Z Z (AB Z Z (AD (AC (AE (J (Ay Z Z Bl Z Z Z) (V (FE o Z [10,11] ⟨Z,Z,trivial⟩ Z Z Z Z Z Z Z Z Z) (fZ Z Z ?_))))))));refine J (DC Z Z Z) (J (DC Z Z Z) (AB Z Z (AB Z Z (AD (AC (AC (AE (fZ Z Z ?_))))))));refine J (Cw Z Z Z) (AD (Cm Z ((by decide)) (AX (AC (AE (V (PY 2 Z Z Z Z) (AB Z Z (AD ?_))))))));refine AC (AC (AE (fZ Z Z (J (Ba Z ch Z) (fZ Z Z (AD (AZ (BO (α:=Nat) (λk=>⟨48,[(7,(.ptr 10 0 0)),(9,(.map 2 0)),(23,(.d (.sl none (l.map AF)))),(24,(.d (AF (l.length:Int)))),(25,(.d (AF (k:Int))))],HA p++ [(2,[BT AF Ah (BN (l.take k))])]⟩) (λk=>k<=l.length) (λk=>l.length - k) (0) (ζ _) (AY s [10,11,2] Z Z F0) ?_))))))));rintro k u;refine AC (AE (J (BB Z Z Z) (AD (AC (A9 Z (λb=>?_) (λb=>?_))))))
 .have a:k<l.length:=BR b;refine AX (AC (AZ (AC (AE ?_))));have i:l[k]∈p.it.map AI.id:=(RJ c).2 _ (ξ a);have f:l[k]∉l.take k:=λh=>by have g:=(RJ c).1;rw [List.Nodup,iS] at g;obtain ⟨j,z,e⟩:=jX.1 h;exact g j k (by omega) a (by omega) e
  refine J (BJ (k) Z Z (Z) (A5 a) ch Z BU Z) (J (CI Z Z An Z) (AB Z Z (AD (AC (AC (AE (fZ Z Z (J (LM Z Z) ?_))))))));refine J (AN Z Km Z Z Z) (J (AP Z Z Z TP Z) (fZ Z Z (J (Nt (Ch p.it) l[k] Af Z Z Z T6 IF kN H8 Z) (fZ Z Z (J (DC Z Z Z) (J (DC Z Z Z) (V (By 3 FG Z Z Z Z) (V (B3 Z Z Z Z Z Z Z Co) ?_))))))));refine AB Z Z (AD (AC (AE (fZ Z Z (J (Mp Z Z) (AD (Cm Z ((by rw [Jl,gQ i];rfl)) (AX ?_))))))));refine AC (AC (AE (fZ Z Z (fZ Z Z (J (II (BN (l.take k)) (l[k]) (false) _ Z Z Z J5 IF SX Z Z) (AD (Cm Z ((by rw [Xw];exact gV f)) (AX ?_))))))));refine AE (fZ Z Z (fZ Z Z (V (Uo (BN (l.take k)) (l[k]) (true) Z Z Z J5 IF Z Z) (AD (AE (J (Al Z Z (AM (k+1) (by omega)) Z) (fZ Z Z (AD ?_))))))));exact ⟨k+1,by show k+1<=_;omega,by show l.length - (k+1)<l.length - k;omega,AY s [10,11,2] Z (by rw [ψ a,<-Zx f];rfl) F0⟩
 .refine Aw ?_;refine AC (AE (fZ Z Z (fZ Z Z (AB Z Z (AB Z Z (AB Z Z (AD (A4 ?_))))))));exact ⟨_,[10,11,2],_,A2 Z,Z,Z,Z,by rw [κ (show l.length<=k by have h:=b;omega)];rfl⟩
theorem TE (p:fj) (l:List Int) (z:E1 p) (C:l.length<=100000) (w:CX p l≠0):AK prog 71 [.d (Bq p),.d (.sl none (l.map AF))] (.tup [.raw (.pointer none),.raw (.map none),AF (CX p l)]):=by
 by_cases s:Az p=0
 .have t:=(PL p z s).by [(3,10),(2,11)] rfl;have x:CX p l=KG (p.it.map AI.id) l:=θ (λh=>h s);rw [x] at w⊢
  obtain ⟨B,r⟩:∃e,KG (p.it.map AI.id) l=e:=⟨_,Z⟩
  rw [r] at w⊢;refine At func71 Z Z ntmps71 Z Z Z λF v=>(AC (AE (V (Bo 1 Z Z Z Z Z Z Z) ?_)));refine AB Z Z (AB Z Z (AB Z Z (AD (AC (AE (J (Ay Z Z Bl Z Z Z) (V (FE t Z [10,11] ⟨Z,Z,trivial⟩ Z Z Z Z Z Z Z Z Z) (fZ Z Z ?_))))))));refine J (DC Z Z Z) (J (DC Z Z Z) (AB Z Z (AB Z Z (AD (AC (AC (AE (fZ Z Z ?_))))))));refine J (Cw Z Z Z) (AD (Cm Z ((by decide)) (AX (AC (AE (V (PY 2 Z Z Z Z) (AB Z Z (AD ?_))))))));refine AC (AC (AE (fZ Z Z (J (Ba Z ch Z) (fZ Z Z (AD (AZ (BO (α:=Nat) (λk=>⟨48,[(7,(.ptr 10 0 0)),(9,(.map 2 0)),(23,(.d (.sl none (l.map AF)))),(24,(.d (AF (l.length:Int)))),(25,(.d (AF (k:Int))))],HA p++ [(2,[BT AF Ah (BN (l.take k))])]⟩) (λk=>k<=l.length/\B=BM (((List.range l.length).drop k).map (Ep (p.it.map AI.id) l))) (λk=>l.length - k) (0) (⟨ζ _,r.symm⟩) (AY v [10,11,2] Z Z F0) ?_))))))));rintro k ⟨A,y⟩;refine AC (AE (J (BB Z Z Z) (AD (AC (A9 Z (λo=>?_) (λo=>?_))))))
  .have f:k<l.length:=BR o;refine AX (AC (AZ (AC (AE ?_))));have j:=nF f y;have i:=FC 0 f;refine J (BJ (k) Z Z (Z) (A5 f) ch Z BU Z) (J (CI Z Z An Z) (AB Z Z (AD (AC (AC (AE (fZ Z Z ?_)))))));refine J (LM Z Z) (J (AN Z Km Z Z Z) (J (AP Z Z Z TP Z) (fZ Z Z (J (Nt (Ch p.it) l[k] Af Z Z Z T6 IF kN H8 Z) (fZ Z Z (J (DC Z Z Z) (J (DC Z Z Z) (V (By 3 FG Z Z Z Z) ?_))))))));refine V (B3 Z Z Z Z Z Z Z Co) (AB Z Z (AD (AC (AE (fZ Z Z (J (Mp Z Z) (AD (Iq Z (λb=>?_) (λb=>?_)))))))))
   .have g:¬l[k]∈p.it.map AI.id:=by rw [Jl] at b;simpa using b
    refine AC (AE (AB Z Z (AB Z Z (AB Z Z (AD (A4 ?_))))));exact ⟨_,[],[],A2 Z,Z,Z,by rw [j.2 9 (by unfold Ep;rw [i,ϱ g]) (by decide)],Z⟩
   .have g:l[k]∈p.it.map AI.id:=by rw [Jl] at b;simpa using b
    refine AX (AC (AC (AE (fZ Z Z (fZ Z Z (J (II (BN (l.take k)) (l[k]) (false) _ Z Z Z J5 IF SX Z Z) (AD (Iq Z (λa=>?_) (λa=>?_)))))))))
    .have c:l[k]∈l.take k:=by rw [Xw] at a;simpa using a
     refine AC (AE (AB Z Z (AB Z Z (AB Z Z (AD (A4 ?_))))));exact ⟨_,[],[],A2 Z,Z,Z,by rw [j.2 7 (by unfold Ep;rw [i,θ (λh=>h g),ϱ c]) (by decide)],Z⟩
    .have c:¬l[k]∈l.take k:=by rw [Xw] at a;simpa using a
     refine AX ?_;refine AE (fZ Z Z (fZ Z Z (V (Uo (BN (l.take k)) (l[k]) (true) Z Z Z J5 IF Z Z) (AD (AE (J (Al Z Z (AM (k+1) (by omega)) Z) (fZ Z Z (AD ?_))))))));exact ⟨k+1,⟨by show k+1<=_;omega,j.1 (by unfold Ep;rw [i,θ (λh=>h g),θ c])⟩,by show l.length - (k+1)<l.length - k;omega,AY v [10,11,2] Z (by rw [ψ f,<-Zx c];rfl) F0⟩
  .refine Aw ?_;refine AC (AE (fZ Z Z (fZ Z Z (AB Z Z (AB Z Z (AB Z Z (AD (A4 ?_))))))));exact absurd (by rw [y,jt (by have h:=o;simp only [gw];omega)];rfl) w
 .have x:CX p l=Az p:=ϱ s;have u:=Ue p z s;rw [x];refine At func71 Z Z ntmps71 Z Z Z λF v=>(AC (AE (V (Bo 1 Z Z Z Z Z Z Z) (AB Z Z (AB Z Z ?_)))));refine AB Z Z (AD (AC (AE (J (Ay Z Z Bl Z Z Z) (J (As (u) Z Z) (fZ Z Z (J (Dc Z Z Z) (J (Dc Z Z Z) ?_))))))));refine AB Z Z (AB Z Z (AD (AC (AC (AE (fZ Z Z (J (Cw Z Z Z) (AD ?_))))))));refine Bx Z ((gQ s)) (AC (AE (fZ Z Z (AB Z Z (AB Z Z (AB Z Z (AD (A4 ?_))))))));exact ⟨_,[],[],A2 Z,Z,Z,Z,Z⟩
structure iB where
 i:Int
 m:Int
 r:AT
 deriving DecidableEq
abbrev P6:AT:=⟨0,SI,[],[]⟩
abbrev Pi (x:iB):D:= .agg [AF x.i,AF x.m,AF x.r.k,Am x.r.acc.o,AF x.r.acc.k,Am x.r.acc.a,Am x.r.f,Am x.r.t]
def iZ (i:Int) (q:List Int):Nat:=(max (Vq i q) 0).toNat
def Cu (i:Int) (q:List Int):List Int:=q.take (iZ i q)
def Yh (i:Int) (af:List Int):List iB:=(Ct af).map λx=>⟨i,x,P6⟩
def FJ (i:Int) (x:jK):List iB:=(Cu i x.q).map λy=>⟨i,y,x.r⟩
def PX (p:fj) (i:Int):List iB:=Yh i (B2 p i).af++(fg p).flatMap (FJ i)
def FR (gM:Int ->Bool) (l:List iB):List iB:=l.filter λb=>!gM b.m
def gM (M:List (Int×Bool)) (x:Int):Bool:=Aa M x false
theorem be (i:Int) (q:List Int):iZ i q<=q.length:=by grind [iZ,Vq]
theorem bf (i:Int) (q:List Int):max (Vq i q) 0=(iZ i q:Int):=by unfold iZ;omega
theorem U8 (f:Int ->Bool) (l m:List iB):FR f (l++m)=FR f l++FR f m:=iP _ _
theorem Fq (f:Int ->Bool) (l:List iB):(FR f l).length<=l.length:=gz _ _
theorem JR {f:Int ->Bool} {l:List iB} (a:k<l.length):FR f (l.take (k+1))=FR f (l.take k)++(if !f l[k].m then [l[k]] else []):=En a
theorem Gv {a:Type} {f:g ->List a} {l:List g} (b:k<l.length):(l.take (k+1)).flatMap f=(l.take k).flatMap f++f l[k]:=by
 rw [ψ b,List.flatMap_append];simp
theorem Kh {b c:Type} {f:b ->List c} {n:Nat}:∀{l:List b},(∀x∈l,(f x).length<=n) ->(l.flatMap f).length<=l.length*n
 | [],_=>by simp
 | a::l,h=>by
  have j:=h a (by simp);have i:=Kh (l:=l) (λx g=>h x (by simp [g]));rw [List.flatMap_cons,Δ,jZ,jT];omega
theorem cn (x:jK) (b:x∈fg a):x.q.length<=a.it.length:=by
 unfold fg at b;obtain ⟨y,_,rfl⟩:=Θ.1 b;show (KM (fk a) y.r).length<=_
 grind [KM,Do]
theorem Sx (i:Int) (x:jK) (b:x∈fg a):(FJ i x).length<=a.it.length:=by
 unfold FJ Cu;rw [χ,ϖ];have:=cn x b;omega
abbrev mapV (mv:Nat):AV:= .d (.raw (.map (some mv)))
abbrev kE (p:fj) (mv:Nat) (bs:Option (List Nat×Nat)) (M:List (Int×Bool)):Hp:=HA p++ [(12,[.map bs (BY AF Ah M)]),(13,[.addr 12 0 (.map (some mv))])]
theorem WO (p:fj) (g:Nat) (K:Option (List Nat×Nat)) (M:List (Int×Bool)) (i:Int) (hb:E1 p) (h1:p.it.length<=1000) (h2:p.ro.length<=1000):AO prog 127 [.ptr 10 0 0,mapV g,.d (AF i)] (kE p g K M) λr H'=>r= .d (.sl none ((FR (gM M) (PX p i)).map Pi))/\H'=kE p g K M:=by
 have hI:=Q1 p i;have hIb:=R6 hb i;have hLl:=I4 p;have W:=(U2 (B2 p i).af (by omega)).by [(20,21)] rfl;have E:∀x∈fg p,(FJ i x).length<=1000:=λx N=>gJ (Sx i x N) h1;have B:=FV (B2 p i).af
 obtain ⟨S,X⟩:∃S,Ct (B2 p i).af=S:=⟨_,Z⟩
 have C:PX p i=(S.map λx=>(⟨i,x,P6⟩:iB))++(fg p).flatMap (FJ i):=by unfold PX Yh;rw [X]
 rw [C];rw [X] at B;refine At func127 Z Z ntmps127 Z Z Z λF s=>(AC ?_);refine AE (AB Z Z (AD (AC (AE (AB Z Z (AD (AC (NG 7 900 Nx Z Z Z Z ?_))))))));refine AE (fZ Z Z (J (LM Z Z) (J (AN Z Km Z Z Z) (J (AP Z Z Z TP Z) (fZ Z Z (J (Sg (Ch p.it) i Af (B2 p i) Z Z Z T6 IF kN H8 hI Z) (J (VR Z EV Z Z) (V (FE W Z [21] ⟨Z,trivial⟩ Z Z Z Z Z Z Z Z Z) ?_))))))));refine AB Z Z (AD (AC (AE (fZ Z Z (V (Sc nv (B2 p i).af (by omega) Z Z Z Z Z Z Z) (AD (AC (AC ?_))))))));rw [X];refine LL (emb:=AF) 8 21 S Z Z Z B.symm Z Z Z (AE (fZ Z Z (J (Ba Z ch Z) (fZ Z Z (AD (AZ (BO (α:=Nat×List iB) (λq=>⟨81,[(0,.ptr 10 0 0),(1,mapV g),(2,.d (AF i)),(7,(.own 900 0 q.2.length)),(26,(.d (.sl none (S.map AF)))),(27,(.d (AF (S.length:Int)))),(28,(.d (AF (q.1:Int))))],kE p g K M++ [(900,[.rowD 144 8 (q.2.map Pi)])]⟩) (λq=>q.1<=S.length/\q.2=FR (gM M) ((S.map λx=>(⟨i,x,P6⟩:iB)).take q.1)) (λq=>S.length - q.1) ((0,[])) (⟨ζ _,Z⟩) (AY s [10,11,12,13,900] Z Z Ri) ?_)))))));rintro ⟨k,c⟩ ⟨Q,I⟩;dsimp only at Q I⊢;refine AC (AE (J (BB Z Z Z) (AD (AC (A9 Z (λA=>?_) (λA=>?_))))))
 .have t:k<S.length:=BR A;refine AX (AC (AZ (AC (AE (J (BJ (k) Z Z (Z) (A5 t) ch Z BU Z) (J (CI Z Z An Z) (AB Z Z (AD ?_))))))));refine AC (AE (fZ Z Z (Ds 32 13 0 Z Z (fZ Z Z (J (II M S[k] false (gM M S[k]) Z Z Z J5 IF SX Z Z) (J (Mp Z Z) (AD (Iq Z (λz=>?_) (λz=>?_)))))))))
  .refine AE ?_;have hal:c.length<=100000:=by rw [I];refine gJ (Fq _ _) ?_;rw [ϖ,χ];omega
   refine fZ Z Z (fZ Z Z (fZ Z Z ?_));refine J (FD aI nj Z Z Z) (V (C5 1 Nx Z Z Z Z Z Z Z Z) (V (F2 (c) ([⟨i,S[k],P6⟩]) Z Z Z Z Z Z Z Z Nx (by simp only [ς];omega) Z Z Z Z) (AB Z Z (AD (AE (J (Al Z Z (AM (k+1) (by omega)) Z) (fZ Z Z (AD ?_))))))));exact ⟨(k+1,c++ [⟨i,S[k],P6⟩]),⟨by show k+1<=_;omega,by show c++ [⟨i,S[k],P6⟩]=FR (gM M) ((S.map λx=>(⟨i,x,P6⟩:iB)).take (k+1));rw [JR (by simpa using t),gq,ϱ (by show (!gM M S[k])=true;simpa using z),I]⟩,by show S.length - (k+1)<S.length - k;omega,AY s [10,11,12,13,900] Z (Z) Ri⟩
  .refine AX (AE (J (Al Z Z (AM (k+1) (by omega)) Z) (fZ Z Z (AD ?_))));exact ⟨(k+1,c),⟨by show k+1<=_;omega,by show c=FR (gM M) ((S.map λx=>(⟨i,x,P6⟩:iB)).take (k+1));rw [JR (by simpa using t),gq,θ (by show ¬(!gM M S[k])=true;simpa using z),iC,I]⟩,by show S.length - (k+1)<S.length - k;omega,AY s [10,11,12,13,900] Z (Z) Ri⟩
 .refine Aw (AC (AC ?_));have H:c=FR (gM M) (S.map λx=>(⟨i,x,P6⟩:iB)):=by rw [I,κ (by rw [χ];have h:=A;omega)]
  have hal1:c.length<=100000:=by rw [H];refine gJ (Fq _ _) ?_;rw [χ];omega
  refine AE ?_;refine fZ Z Z (J (LM Z Z) (J (AN Z Kl Z Z Z) (J (AP Z Z Z XA Z) (J (Ba Z underlying227 Z) (fZ Z Z (AD (AZ (BO (α:=Nat×List iB) (λq=>⟨81,[(0,.ptr 10 0 0),(1,mapV g),(2,.d (AF i)),(7,(.own 900 0 q.2.length)),(46,(.d (.sl none ((fg p).map OY)))),(47,(.d (AF ((fg p).length:Int)))),(48,(.d (AF (q.1:Int))))],kE p g K M++ [(900,[.rowD 144 8 (q.2.map Pi)])]⟩) (λq=>q.1<=(fg p).length/\q.2=c++FR (gM M) (((fg p).take q.1).flatMap (FJ i))) (λq=>(fg p).length - q.1) ((0,c)) (⟨ζ _,by simp [FR]⟩) (AY s [10,11,12,13,900] Z Z Ri) ?_))))))));rintro ⟨m,b⟩ ⟨O,L⟩;dsimp only at O L⊢;refine AC (AE (J (BB Z Z Z) (AD (AC (A9 Z (λy=>?_) (λy=>?_))))))
  .have o:m<(fg p).length:=BR y;refine AX (AC (AZ (AC (AE ?_))));have hql:=cn _ (ξ o);have T:=Kh (f:=FJ i) (n:=1000) (l:=(fg p).take m) (λx N=>E x (iQ N));have hbl:b.length<=1200000:=by rw [L,Δ];have:=Fq (gM M) (((fg p).take m).flatMap (FJ i));rw [ϖ] at T;have h3:min m (fg p).length*1000<=1000*1000:=ie _ (by omega);omega
   refine J (BJ (m) Z Z (Z) (A5 o) underlying227 Z Wa Z) (J (DM Z Z na Z) (V (By 2 aD Z Z Z Z) (V (B3 Z Z Z Z Z Z Z Wa) (AD (AC (AE ?_))))));refine J (AN Z Xa Z Z Z) (J (AP Z Z Z BL Z) (fZ Z Z (J (As (X6 (fg p)[m].q i (by omega)) Z Z) (AB Z Z (AD (AC (AE (J (AN Z Xa Z Z Z) ?_))))))));refine J (AP Z Z Z BL Z) (fZ Z Z (J (RD Z Z (so _) Z) (J (kC ((fg p)[m].q) (iZ i (fg p)[m].q) Z Z Z (bf _ _) (be _ _) ch BU (λ_=>rfl) Z) (J (Ba Z ch Z) (fZ Z Z (AD (AZ (BO (α:=Nat×List iB) (λq=>⟨81,[(0,.ptr 10 0 0),(1,mapV g),(2,.d (AF i)),(7,(.own 900 0 q.2.length)),(12,(.ptr 2 0 0)),(46,(.d (.sl none ((fg p).map OY)))),(47,(.d (AF ((fg p).length:Int)))),(48,(.d (AF (m:Int)))),(60,(.d (.sl none ((Cu i (fg p)[m].q).map AF)))),(61,(.d (AF ((Cu i (fg p)[m].q).length:Int)))),(62,(.d (AF (q.1:Int))))],kE p g K M++ [(900,[.rowD 144 8 (q.2.map Pi)]),(2,[.blk 233 [.d (AF (fg p)[m].r.k),.d (Am (fg p)[m].r.acc.o),.d (AF (fg p)[m].r.acc.k),.d (Am (fg p)[m].r.acc.a),.d (Am (fg p)[m].r.f),.d (Am (fg p)[m].r.t),.d (AF (fg p)[m].n),.d (.sl none ((fg p)[m].q.map AF))]])]⟩) (λq=>q.1<=(Cu i (fg p)[m].q).length/\q.2=b++FR (gM M) ((FJ i (fg p)[m]).take q.1)) (λq=>(Cu i (fg p)[m].q).length - q.1) ((0,b)) (⟨ζ _,by simp [FR]⟩) (AY s [10,11,12,13,900,2] Z Z an) ?_))))))));rintro ⟨j,a⟩ ⟨R,G⟩;dsimp only at R G⊢;refine AC (AE (J (BB Z Z Z) (AD (AC (A9 Z (λw=>?_) (λw=>?_))))))
   .have u:j<(Cu i (fg p)[m].q).length:=BR w;refine AX (AC (AZ (AC (AE (J (BJ (j) Z Z (Z) (A5 u) ch Z BU Z) (J (CI Z Z An Z) (AB Z Z (AD ?_))))))));refine AC (AE (fZ Z Z (Ds 66 13 0 Z Z (fZ Z Z (J (II M (Cu i (fg p)[m].q)[j] false (gM M (Cu i (fg p)[m].q)[j]) Z Z Z J5 IF SX Z Z) (J (Mp Z Z) (AD (Iq Z (λv=>?_) (λv=>?_)))))))))
    .refine AE ?_;have Y:a.length<=1300000:=by rw [G,Δ];have h3:=Fq (gM M) ((FJ i (fg p)[m]).take j);have h4:=E _ (ξ o);rw [ϖ] at h3;omega
     refine fZ Z Z (fZ Z Z (fZ Z Z (J (AN Z Kj Z Z Z) (J (Ay Z Z Cc Z Z Z) ?_))));refine J (FD aI nj Z Z Z) (V (C5 3 Nx Z Z Z Z Z Z Z Z) (V (F2 (a) ([⟨i,(Cu i (fg p)[m].q)[j],(fg p)[m].r⟩]) Z Z Z Z Z Z Z Z Nx (by simp only [ς];omega) Z Z Z Z) (AB Z Z (AD (AE (J (Al Z Z (AM (j+1) (by have h5:(Cu i (fg p)[m].q).length<=1000:=by {unfold Cu;rw [ϖ];omega};omega)) Z) (fZ Z Z (AD ?_))))))));exact ⟨(j+1,a++ [⟨i,(Cu i (fg p)[m].q)[j],(fg p)[m].r⟩]),⟨by show j+1<=_;omega,by show a++ [⟨i,(Cu i (fg p)[m].q)[j],(fg p)[m].r⟩]=b++FR (gM M) ((FJ i (fg p)[m]).take (j+1));rw [JR (by unfold FJ;simpa using u),G,ji];congr 2;unfold FJ;rw [gq,ϱ (by show (!gM M (Cu i (fg p)[m].q)[j])=true;simpa using v)]⟩,by show (Cu i (fg p)[m].q).length - (j+1)<(Cu i (fg p)[m].q).length - j;omega,AY s [10,11,12,13,900,2] Z (Z) an⟩
    .refine AX (AE (J (Al Z Z (AM (j+1) (by have h5:(Cu i (fg p)[m].q).length<=1000:=by {unfold Cu;rw [ϖ];omega};omega)) Z) (fZ Z Z (AD ?_))));exact ⟨(j+1,a),⟨by show j+1<=_;omega,by show a=b++FR (gM M) ((FJ i (fg p)[m]).take (j+1));rw [JR (by unfold FJ;simpa using u),G];unfold FJ;rw [gq,θ (by show ¬(!gM M (Cu i (fg p)[m].q)[j])=true;simpa using v),iC]⟩,by show (Cu i (fg p)[m].q).length - (j+1)<(Cu i (fg p)[m].q).length - j;omega,AY s [10,11,12,13,900,2] Z (Z) an⟩
   .have D:a=b++FR (gM M) (FJ i (fg p)[m]):=by rw [G,κ (by unfold FJ;rw [χ];have h:=w;omega)]
    refine Aw (AE (J (Al Z Z (AM (m+1) (by omega)) Z) (fZ Z Z (AD ?_))));exact ⟨(m+1,a),⟨by show m+1<=_;omega,by show a=c++FR (gM M) (((fg p).take (m+1)).flatMap (FJ i));rw [Gv o,U8,<-ji,<-L];exact D⟩,by show (fg p).length - (m+1)<(fg p).length - m;omega,AY s [10,11,12,13,900] Z (Z) Ri⟩
  .refine Aw (AC ?_);have U:b=FR (gM M) ((S.map λx=>(⟨i,x,P6⟩:iB))++(fg p).flatMap (FJ i)):=by rw [L,H,κ (by have h:=y;omega),U8]
   refine LL (emb:=Pi) 7 900 b Z Z Z Z Z Z Z (AE (fZ Z Z (AB Z Z (AD (A4 ?_)))));exact ⟨_,[10,11,12,13],_,A2 Z,Z,Z,by rw [U],Z⟩
def Jt (p:fj) (f:Int ->Bool) (i:Int):List iB:=if f i then FR f (PX p i) else []
def gF (p:fj) (f:Int ->Bool):List iB:=(Ir p).flatMap (Jt p f)
theorem RM (c:E1 a) (g:a.it.length<=1000) (k:a.ro.length<=1000) (i:Int):(PX a i).length<=1100000:=by
 unfold PX Yh;rw [Δ,χ,FV];have j:=R6 c i;have h:=Kh (f:=FJ i) (n:=1000) (l:=fg a) (λx b=>gJ (Sx i x b) g)
 grind [I4]
theorem U9 (b:E1 a) (g:a.it.length<=1000) (c:a.ro.length<=1000) (f:Int ->Bool) (i:Int):(Jt a f i).length<=1100000:=by grind [Jt,Fq,RM]
theorem lY {a N:Nat} (h:a<=k*N):a<=(k+1)*N:=gJ h (ie _ (Nat.le_succ _))
theorem ct {a b:List g} {N:Nat} (h:a.length<=k*N) (c:b.length<=N):(a++b).length<=(k+1)*N:=by grind
theorem ej (p:fj) (g:Nat) (u:Option (List Nat×Nat)) (M:List (Int×Bool)) (o:E1 p) (l:p.it.length<=1000) (t:p.ro.length<=1000):AO prog 72 [.ptr 10 0 0,mapV g] (kE p g u M) λr C=>r= .d (.sl none ((gF p (gM M)).map Pi))/\C=kE p g u M:=by
 have B:∀i,(Jt p (gM M) i).length<=1100000:=U9 o l t _;have j:(Ir p).length<=1000:=by unfold Ir;rw [χ];exact gJ (Do p) l
 have x:gF p (gM M)=(Ir p).flatMap (Jt p (gM M)):=rfl;rw [x];refine At func72 Z Z ntmps72 Z Z Z λF z=>(AC (AE (AB Z Z ?_)));refine AD (AC (AE (AB Z Z (AD (AC (AC (NG 5 900 Nx Z Z Z Z (AE ?_))))))));refine fZ Z Z (J (LM Z Z) (J (AN Z lv Z Z Z) (J (AP Z Z Z BL Z) (J (Ba Z ch Z) (fZ Z Z (AD (AZ (BO (α:=Nat×List iB) (λq=>⟨28,[(0,.ptr 10 0 0),(1,mapV g),(5,(.own 900 0 q.2.length)),(11,(.d (.sl none ((Ir p).map AF)))),(12,(.d (AF ((Ir p).length:Int)))),(13,(.d (AF (q.1:Int))))],kE p g u M++ [(900,[.rowD 144 8 (q.2.map Pi)])]⟩) (λq=>q.1<=(Ir p).length/\q.2=((Ir p).take q.1).flatMap (Jt p (gM M))/\q.2.length<=q.1*1100000) (λq=>(Ir p).length - q.1) ((0,[])) (⟨ζ _,Z,Γ _⟩) (AY z [10,11,12,13,900] Z Z No) ?_))))))));rintro ⟨k,a⟩ ⟨v,s,y⟩;dsimp only at v s y⊢;refine AC (AE (J (BB Z Z Z) (AD (AC (A9 Z (λf=>?_) (λf=>?_))))))
 .have b:k<(Ir p).length:=BR f;refine AX (AC (AZ (AC (AE (J (BJ (k) Z Z (Z) (A5 b) ch Z BU Z) (J (CI Z Z An Z) (AB Z Z ?_)))))));refine AD (AC (AE (fZ Z Z (Ds 17 13 0 Z Z (fZ Z Z (J (II M (Ir p)[k] false (gM M (Ir p)[k]) Z Z Z J5 IF SX Z Z) (AD (Iq Z (λc=>?_) (λc=>?_)))))))))
  .refine AE (fZ Z Z (fZ Z Z (fZ Z Z (fZ Z Z (V (FE (WO p g u M (Ir p)[k] o l t) Z [10,11,12,13] ⟨Z,Z,Z,Z,trivial⟩ Z Z Z Z Z Z Z Z Z) ?_)))));have A:=gJ (Fq (gM M) _) (RM o l t (Ir p)[k]);refine V (Qq (a) (FR (gM M) (PX p (Ir p)[k])) Z Z Z Z Z Z (λ_=>rfl) Nx (by omega) Z Z Z Z) (AB Z Z (AD (AE (J (Al Z Z (AM (k+1) (by have h:=j;omega)) Z) (fZ Z Z (AD ?_))))));exact ⟨(k+1,a++FR (gM M) (PX p (Ir p)[k])),⟨by show k+1<=_;omega,by show a++FR (gM M) (PX p (Ir p)[k])=((Ir p).take (k+1)).flatMap (Jt p (gM M));rw [Gv b,<-s];unfold Jt;rw [ϱ (by simpa using c)],ct y (gJ (Fq (gM M) _) (RM o l t (Ir p)[k]))⟩,by show (Ir p).length - (k+1)<(Ir p).length - k;omega,AY z [10,11,12,13,900] Z (Z) No⟩
  .refine AX (AE (J (Al Z Z (AM (k+1) (by have h:=j;omega)) Z) (fZ Z Z (AD ?_))));exact ⟨(k+1,a),⟨by show k+1<=_;omega,by show a=((Ir p).take (k+1)).flatMap (Jt p (gM M));rw [Gv b,<-s];unfold Jt;rw [θ (by simpa using c),iC],lY y⟩,by show (Ir p).length - (k+1)<(Ir p).length - k;omega,AY z [10,11,12,13,900] Z (Z) No⟩
 .refine Aw (AC ?_);have w:a=(Ir p).flatMap (Jt p (gM M)):=by rw [s,κ (by have h:=f;omega)]
  refine LL (emb:=Pi) 5 900 a Z Z Z Z Z Z Z (AE (fZ Z Z (AB Z Z (AD (A4 ?_)))));exact ⟨_,[10,11,12,13],_,A2 Z,Z,Z,by rw [w],Z⟩
def Fy (p:fj) (r:AT) (l:List (Int×Bool)):Int:=(l.map λe=>if e.2=true then Bw (B2 p e.1) r else 0).sum
theorem LR {r:AT} {m:List (Int×Bool)} (h:c.Perm m):Fy a r c=Fy a r m:=bu h _
theorem YK (p:fj) (r:AT) (e:Int×Bool) (l:List (Int×Bool)):Fy p r (e::l)=(if e.2=true then Bw (B2 p e.1) r else 0)+Fy p r l:=by simp [Fy]
theorem Nh (p:fj) (r:AT) (k:Int) (v:Bool) (l:List (Int×Bool)):Fy p r ((k,v)::l)=(if v=true then Bw (B2 p k) r else 0)+Fy p r l:=YK p r (k,v) l
theorem LF (h:CX a f=0):Az a=0:=by grind [CX]
theorem eF (i:AI) (r:AT): -1000000000000000<=Bw i r/\Bw i r<=1000000000000000:=by
 unfold Bw
 split
 all_goals (simp [*,N8])
theorem VD (p:fj) (r:AT) (h:c.length<=1000): -1000000000000000000<=Fy p r c/\Fy p r c<=1000000000000000000:=by
 have:=Iw (l:=c) (f:=λe=>if e.2=true then Bw (B2 p e.1) r else 0) (B:=1000000000000000) (λe _=>by
  show _<=(if e.2=true then _ else _)/\_;have:=eF (B2 p e.1) r
  split<;>omega) 1000 h (by omega)
 unfold Fy;omega
def S3 (p:fj) (M:List (Int×Bool)) (x:jK):List Ac:=if x.n+Fy p x.r M<0 then [⟨x.r,0 - (x.n+Fy p x.r M)⟩] else []
def Ms (p:fj) (M:List (Int×Bool)):List Ac:=(fg p).flatMap (S3 p M)
theorem co (f:Az a=0) (x:jK) (b:x∈fg a):0<=x.n/\x.n<=4000000000000000:=by
 unfold fg at b;obtain ⟨y,c,rfl⟩:=Θ.1 b;have:=L4 (PR f).1 y ((Ls a.ro).mem_iff.1 c);show 0<=max y.n 0/\max y.n 0<=_;omega
abbrev tq (p:fj) (mv:Nat) (M:List (Int×Bool)):Hp:=HA p++ [(12,[BT AF Ah M]),(13,[.addr 12 0 (.map (some mv))])]
theorem Qx (p:fj) (j:Nat) (M:List (Int×Bool)) (Q:Az p=0) (E:E1 p) (D:M.length<=1000):AO prog 74 [.ptr 10 0 0,mapV j] (tq p j M) λr X=>r= .d (.sl none ((Ms p M).map Bv))/\X=tq p j M:=by
 have S:=E.1;have T:=I4 p;refine At func74 Z Z ntmps74 Z Z Z λF t=>(AC (AE (AB Z Z ?_)));refine AD (AC (AE (AB Z Z (AD (AC (AC (NG 5 900 om Z Z Z Z (AE ?_))))))));refine fZ Z Z (J (LM Z Z) (J (AN Z Kl Z Z Z) (J (AP Z Z Z XA Z) (J (Ba Z underlying227 Z) (fZ Z Z (AD (AZ (BO (α:=Nat×List Ac) (λq=>⟨53,[(0,.ptr 10 0 0),(1,mapV j),(5,(.own 900 0 q.2.length)),(14,(.d (.sl none ((fg p).map OY)))),(15,(.d (AF ((fg p).length:Int)))),(16,(.d (AF (q.1:Int))))],tq p j M++ [(900,[.rowD 73 7 (q.2.map Bv)])]⟩) (λq=>q.1<=(fg p).length/\q.2=((fg p).take q.1).flatMap (S3 p M)/\q.2.length<=q.1) (λq=>(fg p).length - q.1) ((0,[])) (⟨ζ _,Z,Γ _⟩) (AY t [10,11,12,13,900] Z Z No) ?_))))))));rintro ⟨k,a⟩ ⟨A,y,U⟩;dsimp only at A y U⊢;refine AC (AE (J (BB Z Z Z) (AD (AC (A9 Z (λs=>?_) (λs=>?_))))))
 .have g:k<(fg p).length:=BR s;refine AX (AC (AZ (AC (AE ?_))));have I:=co Q _ (ξ g);refine J (BJ (k) Z Z (Z) (A5 g) underlying227 Z Wa Z) (J (DM Z Z na Z) ?_);refine V (By 1 aD Z Z Z Z) (V (B3 Z Z Z Z Z Z Z Wa) (AD (AC (AE (J (AN Z lu Z Z Z) (J (AP Z Z Z GE Z) (AB Z Z (AD ?_))))))));refine AC (AC (AE (fZ Z Z (Ds 22 13 0 Z Z (V (Gg 2 Z Z Z J5 Z Z Z Z) (AD (AZ (BO (α:=List Nat×Int) (λq=>⟨53,[(0,.ptr 10 0 0),(1,mapV j),(5,(.own 900 0 a.length)),(7,(.ptr 1 0 0)),(8,(.d (AF q.2))),(14,(.d (.sl none ((fg p).map OY)))),(15,(.d (AF ((fg p).length:Int)))),(16,(.d (AF (k:Int)))),(23,(.ptr 2 0 0))],tq p j M++ [(900,[.rowD 73 7 (a.map Bv)]),(1,[.blk 233 [.d (AF (fg p)[k].r.k),.d (Am (fg p)[k].r.acc.o),.d (AF (fg p)[k].r.acc.k),.d (Am (fg p)[k].r.acc.a),.d (Am (fg p)[k].r.f),.d (Am (fg p)[k].r.t),.d (AF (fg p)[k].n),.d (.sl none ((fg p)[k].q.map AF))]]),(2,[.iter 12 0 M.length q.1])]⟩) (λq=>q.2+Fy p (fg p)[k].r (Bz M (List.range M.length) q.1)=(fg p)[k].n+Fy p (fg p)[k].r M) (λq=>(Bz M (List.range M.length) q.1).length) (([],(fg p)[k].n)) (by show (fg p)[k].n+Fy p (fg p)[k].r (Bz M (List.range M.length) [])=_;rw [nG (by simp)]) (AY t [10,11,12,13,900,1,2] Z Z b0) ?_))))))));rintro ⟨seen,left⟩ x;dsimp only at x⊢;refine AC (AE (Lk (M) Z Z Z Z (λv=>?_) (λz c b H u w G f=>⟨_,Z,?_⟩)))
  .have i:left=(fg p)[k].n+Fy p (fg p)[k].r M:=by have W:=x;rw [v] at W;have Y:Fy p (fg p)[k].r []=0:=rfl;omega
   refine J (DC Z Z Z) (AD ?_);refine AC (Cm Z Z (Aw (AC (AE (fZ Z Z (J (BB Z Z Z) (AD (A9 Z (λl=>?_) (λl=>?_)))))))))
   .refine AE ?_;have K:=VD p (fg p)[k].r D;refine fZ Z Z (J (AN Z Kj Z Z Z) (J (Ay Z Z Cc Z Z Z) (fZ Z Z (J (au Z (Ξ _ (by omega)) Z) ?_))));refine J (FD tu uY Z Z Z) (V (C5 3 om Z Z Z Z Z Z Z Z) (V (F2 (a) ([⟨(fg p)[k].r,0 - left⟩]) Z Z Z Z Z Z Z Z om (by simp only [ς];omega) Z Z Z Z) (AB Z Z (AD (AE (J (Al Z Z (AM (k+1) (by omega)) Z) (fZ Z Z (AD ?_))))))));exact ⟨(k+1,a++ [⟨(fg p)[k].r,0 - left⟩]),⟨by show k+1<=_;omega,by show a++ [⟨(fg p)[k].r,0 - left⟩]=((fg p).take (k+1)).flatMap (S3 p M);rw [Gv g,<-y];unfold S3;rw [<-i,ϱ (by simpa using l)],by show (a++ [_]).length<=k+1;rw [Δ];simp;omega⟩,by show (fg p).length - (k+1)<(fg p).length - k;omega,AY t [10,11,12,13,900] Z (Z) No⟩
   .refine AX (AE (J (Al Z Z (AM (k+1) (by omega)) Z) (fZ Z Z (AD ?_))));exact ⟨(k+1,a),⟨by show k+1<=_;omega,by show a=((fg p).take (k+1)).flatMap (S3 p M);rw [Gv g,<-y];unfold S3;rw [<-i,θ (by simpa using l),iC],by show a.length<=k+1;omega⟩,by show (fg p).length - (k+1)<(fg p).length - k;omega,AY t [10,11,12,13,900] Z (Z) No⟩
  .refine J (DC Z Z Z) ?_;refine AD (AC (Bx Z Z (AX (AZ (AC (AE (J (Gh (M) z c Z Z Z u w Z) (J (DC Z Z Z) ?_))))))));refine J (DC Z Z Z) (AB Z Z (AB Z Z (AD (AC (AE (fZ Z Z (AD (Iq Z (λo=>?_) (λo=>?_)))))))))
   .refine CZ [[],[],[1],[1,2],[1,2,3],[],[1,2,3,4,5],[],[7],[1,2,3,4,5,6,7,8],rg 10,rg 11] mixed Z (CG ?_);have R:=R6 E b;have O:=VD p (fg p)[k].r D;have N:=VD p (fg p)[k].r (gJ (XZ (m:=M) (B:=List.range M.length) (seen:=seen)) D);have L:=eF (B2 p b) (fg p)[k].r;refine Av 8 Z Z (Av 0 Z Z (AU [31] Z (LM Z Z) (AU [32] Z (AN Z Km Z Z Z) (Au [33] Z Z (λ_=>Ae (AP Z Z Z TP Z)) ?_))));refine Av 9 Z Z (Au [34,35] Z Z (λ_=>Ae (Sg (Ch p.it) b Af (B2 p b) Z Z Z T6 IF kN H8 (Q1 p b) Z)) (AU [7] Z (AN Z Kj Z Z Z) (Au [37] Z Z (λ_=>Ae (Ay Z Z Cc Z Z Z)) (AU [36,38] Z (As (Xk (B2 p b) (fg p)[k].r (by omega) (by omega) (by omega)) Z Z) (CB 10 Z Z Z (Ad 11 Z Z (J (Al Z Z (Ξ _ (by omega)) Z) (AD ⟨Z,?_⟩))))))));refine Ad 12 Z Z (AB Z Z (AD ⟨Z,?_⟩));refine CM ?_;exact ⟨(seen++ [c],left+Bw (B2 p b) (fg p)[k].r),(by show left+Bw (B2 p b) (fg p)[k].r+Fy p (fg p)[k].r (Bz M (List.range M.length) (seen++ [c]))=_;rw [<-x,LR f,Nh,ϱ (by simpa using o)];omega),by show (Bz M (List.range M.length) (seen++ [c])).length<(Bz M (List.range M.length) seen).length;rw [f.length_eq];exact io _,AY t [10,11,12,13,900,1,2] Z (Z) b0⟩
   .refine AX ?_;exact ⟨(seen++ [c],left),(by show left+Fy p (fg p)[k].r (Bz M (List.range M.length) (seen++ [c]))=_;rw [<-x,LR f,Nh,θ (by simpa using o)];omega),by show (Bz M (List.range M.length) (seen++ [c])).length<(Bz M (List.range M.length) seen).length;rw [f.length_eq];exact io _,AY t [10,11,12,13,900,1,2] Z (Z) b0⟩
 .refine Aw (AC ?_);have C:a=Ms p M:=by rw [y,κ (by have h:=s;omega)];rfl
  refine LL (emb:=Bv) 5 900 a Z Z Z Z Z Z Z (AE (fZ Z Z (AB Z Z (AD (A4 ?_)))));exact ⟨_,[10,11,12,13],_,A2 Z,Z,Z,by rw [C],Z⟩
def Kf (l:List Int) (x:Int):Bool:=decide (x∈l)
theorem kP (p:fj) (l:List Int) (g:E1 p) (h:l.length<=1000):AK prog 28 [.d (Bq p),.d (.sl none (l.map AF))] (.tup [.sl none ((if CX p l=0 then Ms p (BN l) else []).map Bv),AF (CX p l)]):=by
 by_cases b:CX p l=0
 have a:=(OF p l g (by omega) b).by [(2,12)] rfl;have j:=LF b;rw [ϱ b,b];have f:=λc=>Qx p c (BN l) j g (by unfold BN;rw [χ];exact h);refine At func28 Z Z ntmps28 Z Z Z λF i=>(AC (AE (V (Bo 1 Z Z Z Z Z Z Z) (AB Z Z (AB Z Z (AD (AC (AE ?_))))))));refine J (Ay Z Z Bl Z Z Z) (fZ Z Z (V (FE a Z [10,11,12] ⟨Z,Z,Z,trivial⟩ Z Z Z Z Z Z Z Z Z) (fZ Z Z (J (DC Z Z Z) (J (DC Z Z Z) (J (DC Z Z Z) (AB Z Z (AB Z Z ?_))))))));refine AB Z Z (AD (AC (AC (AE (fZ Z Z (J (Cw Z Z Z) (AD (Cm Z ((by decide)) ?_))))))));refine AX (AC (Uj 13 12 0 Z Z Z Z Z λc=>(Xs 7 13 0 (.inl Z) Z (AE (fZ Z Z (fZ Z Z (V (FE (f c) Z [10,11,12,13] ⟨Z,Z,Z,Z,trivial⟩ Z Z Z Z Z Z Z Z Z) (AB Z Z ?_))))))))
 rotate_left
 have a:=TE p l g (by omega) b;rw [θ b];refine At func28 Z Z ntmps28 Z Z Z λF i=>(AC (AE (V (Bo 1 Z Z Z Z Z Z Z) (AB Z Z (Xv 4 Z ?_)))));refine AB Z Z (AD (AC (AE (J (Ay Z Z Bl Z Z Z) (fZ Z Z (J (As (a) Z Z) (fZ Z Z (J (Dc Z Z Z) ?_))))))));refine J (Dc Z Z Z) (J (Dc Z Z Z) (AB Z Z (AB Z Z (AB Z Z (AD (AC (AC (AE ?_))))))));refine fZ Z Z (J (Cw Z Z Z) (AD (Bx Z ((gQ b)) (AC (AE (fZ Z Z (AB Z Z (Xv 4 Z ?_))))))))
 all_goals
  refine AB Z Z (AD (A4 ?_));exact ⟨_,[],[],A2 Z,Z,Z,Z,Z⟩
theorem PC.le {a:Type} {c:a ->a ->Int} (h:PC c) {x y z:a} (i:c x y<=0) (b:c y z<=0):c x z<=0:=by
 by_cases g:c x y=0
 .rw [h.eqv x y z g];exact b
 .by_cases j:c y z=0
  .have r:=h.anti y z;have f:c z y=0:=by omega
   have o:=h.eqv z y x f;have l:=h.anti z x;have k:=h.anti y x;omega
  .have:=h.trans x y z (by omega) (by omega);omega
theorem mW {a b:Int}:¬Dz b a<0↔a<=b:=by unfold Dz;split<;>(try split)<;>omega
theorem Sj {c:List Int} (h:c.Perm f) (g:c.Pairwise λa b=>¬Dz b a<0):c=Ct f:=by grind [List.Perm.eq_of_pairwise,KF,DQ,Dz]
theorem Vs (c:Az a=0) {x:AI} (b:x∈a.it):B2 a x.id=x:=by
 obtain ⟨f,_,e,g⟩:=Kd (p:=a) (Θ.2 ⟨x,b,Z⟩);exact lc (D9 (PR c).2.1) (by rw [e];exact ξ f) b g
structure PV (p:fj):Prop where
 e:Az p=0
 b:E1 p
 i:p.it.length<=1000
 r:p.ro.length<=1000
 q:∀i∈p.it,i.po.length<=1000/\i.pa.length<=1000/\i.af.length<=1000
abbrev r8 (n:Nat):D:= .raw (.int .u32 (n:Int))
structure js where
 ids:List Int
 bl:List Nat
 de:List (List Int)
 rm:List Int
abbrev uO (l:List Int):D:= .sl none (l.map AF)
abbrev uH (s:js):D:= .agg [.sl none (s.ids.map AF),.sl none (s.bl.map r8),.sl none (s.de.map uO),.sl none (s.rm.map AF)]
def uk (s:js) (x:Nat) (i:Nat):Bool:=x.testBit i && decide (vU (s.bl.getD i 0) x≠0)
def ic (s:js) (x:Nat):Bool:=!(List.range s.bl.length).any (uk s x)
def gK (s:js) (x:Nat):List Int:=((List.range s.ids.length).filter λi=>x.testBit i).map λi=>s.ids.getD i 0
def iL (n:Nat):Nat ->Nat ->Nat ->List Nat
 | 0,_,x=> [x]
 | l+1,frm,x=>((List.range (n+1 - (l+1) - frm)).map (frm+ ·)).flatMap λi=>iL n l (i+1) (x ||| 1<<<i)
section
variable {β:Type} (step:β ->Nat ->β×Bool)
end
section
variable {β:Type}
def fA (s:js):List Nat:=(List.range (s.ids.length+1)).flatMap λk=>(iL s.ids.length k 0 0).filter (ic s)
end
variable {a:fj} {M:List (Int×Bool)} {E:List (AI×Nat)} {S C:List Int} {c:iB} {f:Nat ->Nat} {g:List AT} {x:Int} {h:Int ->Bool} {i:Int} {j:List Int} {k o:Nat}
def uI (p:fj):List Int:=Ct (Ir p)
theorem Lg (b:Az a=0):(Ir a).Perm (a.it.map AI.id):=by grind [Ir,fk,Zs]
theorem bC (b:Az a=0):(uI a).Perm (a.it.map AI.id):=(DQ _).trans (Lg b)
theorem Wk (b:Az a=0) (x:Int):x∈uI a↔x∈a.it.map AI.id:=(bC b).mem_iff
theorem ow (k:Az a=0) (A:i∈a.it.map AI.id) (s:c∈PX a i):c.m∈uI a:=by
 rw [Wk k];unfold PX at s;rcases υ.1 s with h | h
 .unfold Yh at h;obtain ⟨x,u,rfl⟩:=Θ.1 h;have j:=(DQ _).mem_iff.1 u;obtain ⟨w,_,B,_⟩:=Kd A;rw [B] at j;have C:=Gu (PR k).2.2 _ (Θ.2 ⟨_,ξ w,Z⟩)
  grind [Pf,IZ]
 .obtain ⟨y,l,h⟩:=jQ.1 h;unfold FJ at h;obtain ⟨z,t,rfl⟩:=Θ.1 h;have g:z∈y.q:=iQ t;unfold fg at l;obtain ⟨r,_,rfl⟩:=Θ.1 l;have f:z∈KM (fk a) r.r:=g;unfold KM at f;obtain ⟨o,v,rfl⟩:=Θ.1 f;exact (Lg k).mem_iff.1 (Θ.2 ⟨o,(gS.1 v).1,Z⟩)
structure vW (s:js):Prop where
 n:s.ids.length<=20
 b:s.bl.length<=20
 u:∀b∈s.bl,b<4294967296
 r:s.rm.length<=1000
 d:s.de.length=s.rm.length
 v:∀r∈s.de,r.length<=32/\∀v∈r,-1000000000000000<=v/\v<=1000000000000000
 m:∀v∈s.rm,0<=v/\v<=4000000000000000
deriving instance DecidableEq for jK
theorem Y5:Ct []=[]:=jU (FV [])
inductive YE (p:fj) (S:List Int):Int ->Prop
 | base {x:Int} (h:x∈S):YE p S x
 | step {i:Int} {b:iB} (h:YE p S i) (hb:b∈PX p i):YE p S b.m
theorem YE.ids (b:Az a=0) (g:∀x∈S,x∈a.it.map AI.id) (h:YE a S x):x∈a.it.map AI.id:=by
 induction h with
 | base h=>exact g _ h
 | step _ f c=>exact (Wk b _).1 (ow b c f)
theorem U7 (g:c∈gF a h):∃i,i∈Ir a/\h i=true/\c∈PX a i/\h c.m=false:=by
 unfold gF at g;obtain ⟨i,j,g⟩:=jQ.1 g;unfold Jt at g
 split at g
 .rename_i k
  obtain ⟨o,l⟩:=gS.1 g
  grind
 .cases g
theorem MQ (j:Az a=0) (g:gF a h=[]) (k:i∈a.it.map AI.id) (l:h i=true) (o:c∈PX a i):h c.m=true:=by
 cases hm:h c.m with
 | true=>rfl
 | false=>
  have:c∈gF a h:=jQ.2 ⟨i,(Lg j).mem_iff.2 k,by unfold Jt;rw [ϱ l];exact gS.2 ⟨o,by rw [hm];rfl⟩⟩
  grind
noncomputable def gY (p:fj) (S:List Int):List Int:=Ct ((p.it.map AI.id).filter λx=> @decide (YE p S x) (Classical.propDecidable _))
theorem Nv {m:List Int} (h:j.Perm m):Ct j=Ct m:=Sj ((DQ j).trans h) ((KF j).imp λh=>mW.2 h)
theorem Xo {C:List Int} (c:Az a=0) (i:∀x∈S,x∈a.it.map AI.id) (f:C.Nodup) (h:∀x,x∈C↔YE a S x):Ct C=gY a S:=by
 unfold gY;have g:=D9 (PR c).2.1;refine Nv ((List.perm_ext_iff_of_nodup f (List.Nodup.sublist iw g)).2 λx=>?_);rw [h x,gS]
 constructor
 .intro b;exact ⟨b.ids c i,by simpa using b⟩
 simp
theorem Qa {f:Type} {q r:f ->Bool}:∀{l:List f},(∀x∈l,q x=true ->r x=true) ->(∃x,x∈l/\r x=true/\q x=false) ->(l.filter q).length<(l.filter r).length
 | [],_,⟨x,b,_⟩=>by cases b
 | a::l,h,⟨x,b,o,k⟩=>by
  have i:∀{l:List f},(∀x∈l,q x=true ->r x=true) ->(l.filter q).length<=(l.filter r).length:=by
   intro l
   induction l with
   | nil=>intro _;exact Γ _
   | cons c l g=>
    intro h;have s:=g λx b=>h x (i5 _ b);have j:=h c iG;rw [jD,jD]
    cases hq:q c with
    | false=>cases r c<;>simp<;>omega
    | true=>rw [j hq];simp;exact s
  have t:=i (l:=l) λx b=>h x (i5 _ b);rw [jD,jD];rcases Υ.1 b with rfl | b
  .rw [o,k];simp;omega
  .have g:=Qa (l:=l) (λx b=>h x (i5 _ b)) ⟨x,b,o,k⟩;have j:=h a iG
   cases hq:q a with
   | false=>cases r a<;>simp<;>omega
   | true=>rw [j hq];simp;exact g
structure Cl (p:fj) (S C:List Int):Prop where
 n:C.Nodup
 s:∀x∈S,x∈C
 r:∀x∈C,YE p S x
theorem Cl.len (h:Cl a S C) (c:Az a=0) (g:∀x∈S,x∈a.it.map AI.id):C.length<=a.it.length:=by
 have f:=D9 (PR c).2.1
 have i:=((List.perm_ext_iff_of_nodup h.n (List.Nodup.sublist (iw (p:=λx=>decide (x∈C))) f)).2 λx=>by
  rw [gS]
  exact ⟨λb=>⟨(h.r x b).ids c g,by simpa using b⟩,λb=>by simpa using b.2⟩).length_eq
 grind
theorem Cl.done (h:Cl a S C) (f:Az a=0) (g:∀x∈S,x∈a.it.map AI.id) (r:gF a (Kf C)=[]):Ct C=gY a S:=by
 refine Xo f g h.n λx=>⟨h.r x,λc=>?_⟩
 induction c with
 | base k=>exact h.s _ k
 | @step i b c l j=>
  have o:=MQ f r (c.ids f g) (gQ j) l
  simpa [Kf] using o
theorem Cl.add (h:Cl a S C) (k:c∈gF a (Kf C)):Cl a S (C++ [c.m])/\c.m∉C:=by
 obtain ⟨i,_,r,o,l⟩:=U7 k;have j:i∈C:=by simpa [Kf] using r
 have g:c.m∉C:=by simpa [Kf] using l
 refine ⟨⟨?_,λx f=>υ.2 (.inl (h.s x f)),λx f=>?_⟩,g⟩
 .rw [jn];refine ⟨h.n,by simp,λx f y s e=>?_⟩
  grind
 .rcases υ.1 f with f | f
  .exact h.r x f
  .rw [η.1 f];exact .step (h.r i j) o
theorem Cl.dec {D:List Int} {m:Int} (c:m∈a.it.map AI.id) (i:m∉C) (g:m∈D) (h:∀x∈C,x∈D):((a.it.map AI.id).filter λx=>!Kf D x).length<((a.it.map AI.id).filter λx=>!Kf C x).length:=
 Qa (λx _ b=>by
  have:x∉D:=by simpa [Kf] using b
  have:x∉C:=λf=>this (h x f)
  simpa [Kf] using this) ⟨m,c,by simpa [Kf] using i,by simpa [Kf] using g⟩
theorem Zi (b:E1 a) (g:a.it.length<=1000) (c:a.ro.length<=1000) (f:Int ->Bool):(gF a f).length<=1100000000:=by
 unfold gF;have h:=Kh (f:=Jt a f) (n:=1100000) (l:=Ir a) (λx _=>U9 b g c f x)
 grind [Ir,Do]
def DZ (M:List (Int×Bool)):List Int:=(M.filter λe=>e.2).map Prod.fst
theorem Nj (k:Int) (v:Bool) (M:List (Int×Bool)):DZ ((k,v)::M)=(if v=true then [k] else [])++DZ M:=by
 unfold DZ;cases v<;>simp
theorem Ni {l m:List (Int×Bool)} (h:l.Perm m):(DZ l).Perm (DZ m):=(h.filter _).map _
theorem YN (M:List (Int×Bool)):(DZ M).length<=M.length:=by unfold DZ;rw [χ];exact gz _ _
abbrev uu (mv:Nat) (B:List Nat) (c:Nat) (M:List (Int×Bool)):Hp:=[(12,[.map (some (B,c)) (BY AF Ah M)]),(13,[.addr 12 0 (.map (some mv))])]
theorem ay (j:Nat) (B:List Nat) (c:Nat) (M:List (Int×Bool)) (z:B.length=M.length) (E:M.length<=100000):AO prog 73 [mapV j] (uu j B c M) λr A=>r= .own 900 0 (DZ M).length/\A=uu j B c M++ [(900,[.rowD 3 1 ((Ct (DZ M)).map AF)])]:=by
 have D:=YN M;refine At func73 Z Z ntmps73 Z Z Z λF u=>?_;refine AC (AE (AB Z Z (AD (AC (AE (AB Z Z (AD (AC ?_))))))));refine AC (NG 3 900 BP Z Z Z Z (AE (fZ Z Z (Ds 6 13 0 Z Z (V (Gg 1 Z Z Z J5 Z Z Z Z) (AD (AZ (BO (α:=List Nat×List Int) (λq=>⟨21,[(3,(.own 900 0 q.2.length)),(7,(.ptr 1 0 0))],uu j B c M++ [(900,[.rowD 3 1 (q.2.map AF)]),(1,[.iter 12 0 c q.1])]⟩) (λq=>(q.2++DZ (Bz M B q.1)).Perm (DZ M)) (λq=>(Bz M B q.1).length) (([],[])) (by show ([]++DZ (Bz M B [])).Perm _;rw [nG z];exact List.Perm.refl _) (AY u [12,13,900,1] Z Z ⟨Z,Z,trivial⟩) ?_))))))));rintro ⟨seen,a⟩ i;dsimp only at i⊢;refine AC (AE (Lk (M) Z Z Z Z (λs=>?_) (λw h l C o t y f=>⟨_,Z,?_⟩)))
 .have b:a.Perm (DZ M):=by have k:=i;rw [s] at k;simpa [DZ] using k
  refine J (DC Z Z Z) (AD (AC (Cm Z Z (Aw (AC (AE ?_))))));have v:=b.length_eq;refine fZ Z Z (V (Sc nv a (by omega) Z Z Z Z Z Z Z) (AD (AC (AE (fZ Z Z (AB Z Z (AD (A4 ?_))))))));exact ⟨_,[12,13,900],_,A2 Z,Z,Z,by rw [b.length_eq],by rw [Nv b];rfl⟩
 .refine J (DC Z Z Z) ?_;refine AD (AC (Bx Z Z (AX (AZ (AC (AE (J (Gh (M) w h Z Z Z o t Z) (J (DC Z Z Z) ?_))))))));refine J (DC Z Z Z) (AB Z Z (AB Z Z (AD (AC (AE (fZ Z Z (AD (Iq Z (λg=>?_) (λg=>?_)))))))))
  .refine AE (fZ Z Z ?_);have x:a.length<=100000:=by have k:=i.length_eq;rw [Δ] at k;omega
   refine fZ Z Z (V (C5 30 BP Z Z Z Z Z Z Z Z) (V (F2 (a) ([l]) Z Z Z Z Z Z Z Z BP (by simp only [ς];omega) Z Z Z Z) (AB Z Z (AD ?_))));exact ⟨(seen++ [h],a++ [l]),(by show ((a++ [l])++DZ (Bz M B (seen++ [h]))).Perm _;refine List.Perm.trans (List.Perm.trans ?_ (List.Perm.append_left a (Ni f)).symm) i;rw [Nj,ϱ (by simpa using g),ji]),by show (Bz M B (seen++ [h])).length<(Bz M B seen).length;rw [f.length_eq];exact io _,AY u [12,13,900,1] Z (Z) ⟨Z,Z,trivial⟩⟩
  .refine AX ?_;exact ⟨(seen++ [h],a),(by show (a++DZ (Bz M B (seen++ [h]))).Perm _;refine List.Perm.trans (List.Perm.trans ?_ (List.Perm.append_left a (Ni f)).symm) i;rw [Nj,θ (by simpa using g),jC]),by show (Bz M B (seen++ [h])).length<(Bz M B seen).length;rw [f.length_eq];exact io _,AY u [12,13,900,1] Z (Z) ⟨Z,Z,trivial⟩⟩
def Uf (M:List (Int×Bool)):Prop:=∀e∈M,e.2=true
def fm (M:List (Int×Bool)):List Int:=M.map Prod.fst
theorem YO (h:Uf M):DZ M=fm M:=by
 unfold DZ fm;rw [List.filter_eq_self.2 h]
theorem X7 (h:Uf M):gM M=Kf (fm M):=by grind [gM,Kf,fm,I2,JG,Uf]
theorem fC (h:Uf M) (x:Int):Uf (BS M x true):=λe i=>by
 obtain ⟨j,c,rfl⟩:=ii.1 i;have g:=NR (m:=M) (a:=x) (b:=true)
 by_cases e:j=gE M x
 .subst e;have:=g.1;rw [ω c] at this;injection this with this;rw [this]
 .have f:=g.2 j e;rw [ω c] at f;exact h _ (ϑ f.symm)
theorem O2 (M:List (Int×Bool)) (x:Int) (b:Bool):fm (BS M x b)=if x∈fm M then fm M else fm M++ [x]:=Ln
theorem Cl.put (h:Cl a S (fm M)) (k:YE a S x):Cl a S (fm (BS M x true)):=by
 rw [O2]
 split
 .exact h
 .rename_i i
  refine ⟨?_,λy f=>υ.2 (.inl (h.s y f)),λy f=>?_⟩
  .rw [jn];exact ⟨h.n,by simp,λc j b g e=>by rw [η] at g;subst g;subst e;exact i j⟩
  .rcases υ.1 f with f | f
   .exact h.r y f
   grind
theorem bJ (l:List Int):Uf (BN l):=λe a=>by
 unfold BN at a;obtain ⟨x,_,rfl⟩:=Θ.1 a;rfl
theorem Y8 (l:List Int):fm (BN l)=l:=by unfold fm BN;rw [gZ];exact List.map_id' l
theorem mY (p:fj) (l:List Int) (j:E1 p) (hl:l.length<=1000) (U:p.it.length<=1000) (T:p.ro.length<=1000) (R:CX p l=0) (W:l.Nodup) (L:∀x∈l,x∈p.it.map AI.id):AO prog 27 [.d (Bq p),.d (.sl none (l.map AF))] [] λr Y=>r= .tup [.own 900 0 (gY p l).length,.d (AF 0)]/\Y=[(900,[.rowD 3 1 ((gY p l).map AF)])]:=by
 have G:=(OF p l j (by omega) R).by [(2,12)] rfl;have O:=LF R;have A:=λg M=>ej p g (some (List.range M.length,M.length)) M j U T;refine At func27 Z Z ntmps27 Z Z Z λF E=>(AC (AE (V (Bo 1 Z Z Z Z Z Z Z) ?_)));refine AB Z Z (AB Z Z (AD (AC (AE (J (Ay Z Z Bl Z Z Z) (fZ Z Z (V (FE G Z [10,11,12] ⟨Z,Z,Z,trivial⟩ Z Z Z Z Z Z Z Z Z) (fZ Z Z ?_))))))));refine J (DC Z Z Z) (J (DC Z Z Z) (J (DC Z Z Z) (AB Z Z (AB Z Z (AB Z Z (AD (AC (AC ?_))))))));refine AE (fZ Z Z (J (Cw Z Z Z) (AD (Cm Z ((by decide)) (AX (AC (AC (Uj 13 12 0 Z Z Z Z Z λg=>?_))))))));refine Xs 7 13 0 (.inl Z) Z (AE (fZ Z Z (fZ Z Z (V (FE (A g (BN l)) Z [10,11,12,13] ⟨Z,Z,Z,Z,trivial⟩ Z Z Z Z Z Z Z Z Z) (AB Z Z (AD (AZ (BO (α:=List (Int×Bool)) (λM=>⟨43,[(6,(.ptr 10 0 0)),(7,(mapV g)),(9,(.d (.sl none ((gF p (gM M)).map Pi))))],kE p g (some (List.range M.length,M.length)) M⟩) (λM=>Uf M/\Cl p l (fm M)) (λM=>((p.it.map AI.id).filter λx=>!Kf (fm M) x).length) (BN l) (⟨bJ l,by rw [Y8];exact ⟨W,λ_ h=>h,λ_ h=> .base h⟩⟩) (AY E [10,11,12,13] Z Z Qs) ?_))))))));rintro M ⟨D,B⟩;refine AC (AC (AE (fZ Z Z ?_)));have X:(gF p (gM M)).length<=1100000000:=Zi j U T _;refine J (Ba Z underlying141 Z) (J (HF Z Z Z) (AD (A9 Z (λu=>?_) (λu=>?_))))
 .refine AX (AC (AZ (AC ?_)));have w:0<(gF p (gM M)).length:=by have h:=u;omega
  have f:∀b∈gF p (gM M),YE p l b.m/\b.m∉fm M:=λb j=>by rw [X7 D] at j;exact ⟨(B.add j).1.r _ (by simp),(B.add j).2⟩
  refine AE (fZ Z Z (J (Ba Z underlying141 Z) (fZ Z Z (AD (AZ (BO (α:=Nat×List (Int×Bool)) (λq=>⟨43,[(6,(.ptr 10 0 0)),(7,(mapV g)),(31,(.d (.sl none ((gF p (gM M)).map Pi)))),(32,(.d (AF ((gF p (gM M)).length:Int)))),(33,(.d (AF (q.1:Int))))],kE p g (some (List.range q.2.length,q.2.length)) q.2⟩) (λq=>q.1<=(gF p (gM M)).length/\Uf q.2/\Cl p l (fm q.2)/\(∀x∈fm M,x∈fm q.2)/\(0<q.1 ->(gF p (gM M))[0].m∈fm q.2)) (λq=>(gF p (gM M)).length - q.1) ((0,M)) (⟨ζ _,D,B,λ_ h=>h,λh=>absurd h (jk 0)⟩) (AY E [10,11,12,13] Z Z F0) ?_))))));rintro ⟨k,v⟩ ⟨H,o,s,a,c⟩;dsimp only at H o s a c⊢;refine AC (AE (J (BB Z Z Z) (AD (AC (A9 Z (λt=>?_) (λt=>?_))))))
  .have y:k<(gF p (gM M)).length:=BR t;refine AX (AC (AZ ?_));refine AC (AE (J (BJ (k) Z Z (Z) (A5 y) underlying141 Z nX Z) (J (DM Z Z sI Z) (V (By 2 aI Z Z Z Z) (V (B3 Z Z Z Z Z Z Z nX) (AD (AE (fZ Z Z ?_))))))));refine Ds 37 13 0 Z Z (J (AN Z lx Z Z Z) (J (AP Z Z Z An Z) (V (Uo (v) ((gF p (gM M))[k].m) (true) Z Z Z J5 IF Z Z) (AD (AE (J (Al Z Z (AM (k+1) (by omega)) Z) (fZ Z Z (AD ?_))))))));exact ⟨(k+1,BS v (gF p (gM M))[k].m true),⟨by show k+1<=_;omega,fC o _,s.put (f _ (ξ y)).1,λx Q=>by show x∈fm (BS v _ true);rw [O2];split;exact a x Q;exact υ.2 (.inl (a x Q)),λ_=>by show _∈fm (BS v _ true);rw [O2];rcases Nat.eq_zero_or_pos k with C | C;subst C;split;assumption;simp;split;exact c C;exact υ.2 (.inl (c C))⟩,by show (gF p (gM M)).length - (k+1)<(gF p (gM M)).length - k;omega,AY E [10,11,12,13] Z (Z) F0⟩
  .have z:((p.it.map AI.id).filter λx=>!Kf (fm v) x).length<((p.it.map AI.id).filter λx=>!Kf (fm M) x).length:=Cl.dec ((f _ (ξ w)).1.ids O L) (f _ (ξ w)).2 (c (by have h:=t;omega)) a;refine Aw (AE (fZ Z Z (fZ Z Z (V (FE (A g v) Z [10,11,12,13] ⟨Z,Z,Z,Z,trivial⟩ Z Z Z Z Z Z Z Z Z) (AB Z Z (AD ?_))))));exact ⟨v,⟨o,s⟩,z,AY E [10,11,12,13] Z (Z) Qs⟩
 .refine Aw (AC ?_);have K:gF p (Kf (fm M))=[]:=by rw [<-X7 D];exact jU (by have h:=u;omega)
  have N:M.length<=100000:=by have S:=B.len O L;unfold fm at S;rw [χ] at S;omega
  have i:Ct (DZ M)=gY p l:=by rw [YO D];exact B.done O L K
  have I:(DZ M).length=(gY p l).length:=by rw [<-i,FV]
  refine AE (fZ Z Z (V (FE (ay g (List.range M.length) M.length M (by simp) N) Z [12,13,900] ⟨Z,Z,Z,trivial⟩ Z Z Z Z Z Z Z Z Z) (AB Z Z (AB Z Z (AD (A4 ?_))))));exact ⟨_,[900],_,A2 Z,Z,Z,by rw [I],by rw [i]⟩
inductive kG (p:fj) (S:List Int):Int ->Prop
 | base {i:Int} {b:iB} (hb:b∈PX p i) (h:b.m∉S):kG p S i
 | step {i:Int} {b:iB} (hb:b∈PX p i) (h:kG p S b.m):kG p S i
theorem sL (f:c∈PX a i):c.i=i:=by grind [PX,Yh,FJ]
noncomputable def tB (p:fj) (S:List Int):List Int:=Ct (S.filter λx=> @decide (¬kG p S x) (Classical.propDecidable _))
structure Ci (p:fj) (S C:List Int):Prop where
 n:C.Nodup
 s:∀x∈C,x∈S
 r:∀x∈S,x∉C ->kG p S x
theorem Ci.done (h:Ci a S C) (l:Az a=0) (t:S.Nodup) (o:∀x∈S,x∈a.it.map AI.id) (r:gF a (Kf C)=[]):Ct C=tB a S:=by
 have g:∀x,kG a S x ->x∉C:=λx c=>by
  induction c with
  | @base i b j u=>
   intro f;have k:=MQ l r (o _ (h.s _ f)) (gQ f) j;exact u (h.s _ (by simpa [Kf] using k))
  | @step i b j _ s=>
   intro f;have k:=MQ l r (o _ (h.s _ f)) (gQ f) j;exact s (by simpa [Kf] using k)
 unfold tB;refine Nv ((List.perm_ext_iff_of_nodup h.n (List.Nodup.sublist iw t)).2 λx=>?_);rw [gS]
 constructor
 .intro c;exact ⟨h.s x c,by simpa using λv=>g x v c⟩
 .intro c;have y:¬kG a S x:=by simpa using c.2
  exact Classical.byContradiction λw=>y (h.r x c.1 w)
theorem Ci.drop (h:Ci a S C) (l:c∈gF a (Kf C)):kG a S c.i/\c.i∈C:=by
 obtain ⟨i,_,r,f,o⟩:=U7 l;have k:i∈C:=by simpa [Kf] using r
 have j:c.m∉C:=by simpa [Kf] using o
 rw [sL f];refine ⟨?_,k⟩
 by_cases g:c.m∈S
 .exact .step f (h.r _ g j)
 .exact .base f g
theorem Ci.rest (h:Ci a S C) (f:kG a S x):Ci a S (C.filter λy=>decide (y≠x)):=by
 refine ⟨List.Nodup.sublist iw h.n,λy b=>h.s y (gS.1 b).1,λy b g=>?_⟩
 by_cases c:y∈C
 .grind
 .exact h.r y b c
theorem cb (M:List (Int×Bool)) (x:Int):gE M x=(fm M).idxOf x:=by
 induction M with
 | nil=>rfl
 | cons e r a=>
  grind [gE,fm]
theorem dA (a:(fm M).Nodup) (x:Int):fm (pU M x)=(fm M).filter λy=>decide (y≠x):=by
 unfold pU;rw [cb];show ((M.eraseIdx _).map Prod.fst)=_;rw [XU];show (fm M).eraseIdx _=_;rw [<-List.erase_eq_eraseIdx_of_idxOf Z,List.Nodup.erase_eq_filter a]
 grind
theorem Ci.del (h:Ci a S (fm M)) (b:kG a S x):Ci a S (fm (pU M x)):=by
 rw [dA h.n];exact h.rest b
theorem Zf (h:CX a j=0):j.Nodup:=by
 have k:=LF h;unfold CX at h;rw [θ (by omega)] at h;unfold KG at h;rw [List.Nodup,iS];intro i b r c g e;have f:=Gu h _ (Θ.2 ⟨b,Ψ.2 c,Z⟩);unfold Ep at f;rw [FC 0 c] at f;have o:j[b]∈j.take b:=by rw [<-e];exact jX.2 ⟨i,by omega,Z⟩
 grind
theorem eW {p:fj} {l:List Int}:(gY p l).length<=p.it.length:=by grind [gY,FV]
abbrev Ga (l:List Int):D:= .sl none (l.map AF)
abbrev XV (l:List (List Int)):D:= .sl none (l.map Ga)
def qL (k:Nat):Nat ->Nat:=λj=>if j<k then j else 0
theorem dQ (k:Nat):BE (qL k) k k=qL (k+1):=by grind [LO,qL,HH]
theorem dP:(λ_:Nat=>0)=qL 0:=by funext j;unfold qL;rw [θ (by omega)]
def Pd (f:Nat ->Nat) (k j:Nat):List Nat:=(List.range j).filter λi=>decide (f i=k)
theorem cy (h:f k=o):Pd f o (k+1)=Pd f o k++ [k]:=by unfold Pd;rw [hU,iP];simp [h]
theorem ZP (h:¬f k=o):Pd f o (k+1)=Pd f o k:=by unfold Pd;rw [hU,iP];simp [h]
theorem cx (f:Nat ->Nat) (k j:Nat):(Pd f k j).length<=j:=gJ (gz _ _) (by rw [gw];exact Γ _)
theorem Cn.trans {i:Nat} (h:Cn g E i k) (a:Cn g E k o):Cn g E i o:=Rh.trans h a
abbrev YL (rs:List AT) (E:List (AI×Nat)) (i:Nat):List AT:=(dR rs (DJ E i)).map Prod.fst
theorem qf {i:Nat} {r:AT} (b:i<E.length) (a:k<E.length) (f:r∈YL g E i) (c:r∈YL g E k):Cn g E i k:=Rh.one (E7.2 ⟨b,a,.inr (.inr ⟨r,f,c⟩)⟩)
theorem qg {rs:List AT} {i j:Nat} (b:i<E.length) (a:j<E.length) (h:(DJ E i).id∈(DJ E j).af):Cn rs E i j:=Rh.one (E7.2 ⟨b,a,.inr (.inl h)⟩)
structure rG (rs:List AT) (E:List (AI×Nat)) (f:Nat ->Nat):Prop where
 uf:UF E.length (Cn rs E) f
 us:∃U,Pp rs E (λi r=>i<E.length/\r∈YL rs E i) U f
 af:∀i,i<E.length ->∀j,j<E.length ->(DJ E j).id∈(DJ E i).af ->f j=f i
theorem rG.full (h:rG g E f):∀i j,i<E.length ->j<E.length ->Cn g E i j ->f i=f j:=λi j w u s=>by
 obtain ⟨U,k⟩:=h.us;refine (Rh.clos (p:=λx=>f i=f x) (λv o y l=>?_) s Z);obtain ⟨c,b,a⟩:=E7.1 l;rw [o];rcases a with a | a | ⟨r,a,t⟩
 .exact (h.af v c y b a).symm
 .exact h.af y b v c a
 .rw [<-(k.has v r ⟨c,a⟩).2,(k.has y r ⟨b,t⟩).2]
theorem eM (p:fj) (l:List Int) (f:E1 p) (c:l.length<=100000) (a:p.it.length<=1000) (g:CX p l≠0):AK prog 23 [.d (Bq p),.d (Ga l)] (.tup [.sl (some true) [],AF (CX p l)]):=by
 have b:=JQ p l f c a;refine At func23 Z Z ntmps23 Z Z Z λF h=>?_;refine AC (AE (V (Bo 1 Z Z Z Z Z Z Z) (AB Z Z (AB Z Z (AD (AC (AC (AE ?_))))))));refine J (Ay Z Z Bl Z Z Z) (fZ Z Z (J (As (b) Z Z) (AB Z Z (AD (AC (AE (fZ Z Z (J (Cw Z Z Z) ?_))))))));refine AD (Bx Z (gQ g) (AC (AE (fZ Z Z (AB Z Z (AB Z Z (AD (A4 ?_))))))));exact ⟨_,[],[],A2 Z,Z,Z,Z,Z⟩
theorem O8 {a:List AI} (h:(a.map AI.id).Nodup) {q:AI ->Bool} (b:E.map Prod.fst=a.filter q):kD E:=by grind [iw,SJ,iS,kD]
noncomputable def gL (rs:List AT) (E:List (AI×Nat)):List (List Int):=(jJ E.length (Cn rs E)).map (BC E)
set_option maxHeartbeats 4000000 in
theorem qe (p:fj) (l:List Int) (hf:Fw p) (hl:l.length<=100000) (hC:CX p l=0) (hE:Az p=0) (hn:l.Nodup):
  AO prog 23 [.d (Bq p),.d (Ga l)] [] λr H'=>∃E:List (AI×Nat),E.map Prod.fst=(fk p).filter (λi=>decide (i.id∈l))/\r= .d (.tup [XV (gL (ft p) E),AF 0])/\H'=[]:=by
 have hi30:=hf.i;have hck:=JQ p l hf.b hl (by omega);rw [hC] at hck;have hids:((fk p).map AI.id).Nodup:=GL hE;have hol:(fk p).length<=30:=by rw [show fk p=BK p.it from ϱ hE,aA];exact hi30
 have hxm:∀i∈fk p,i∈p.it:=λi hi=>by rw [show fk p=BK p.it from ϱ hE] at hi;exact (Zs p.it).mem_iff.1 hi
 refine At func23 Z Z ntmps23 Z Z Z λF v=>(AC (AE (V (Bo 1 Z Z Z Z Z Z Z) (AB Z Z (AB Z Z (AD ?_))))));refine AC (AC (AE (J (Ay Z Z Bl Z Z Z) (fZ Z Z (J (As (hck) Z Z) (AB Z Z (AD (AC ?_))))))));refine AE (fZ Z Z (J (Cw Z Z Z) (AD (Cm Z (gV (by decide)) (AX (AC (CZ [[],[],[1],[0,1,2],[0,1,2,3]] mixed Z (ug (γ:=Nat×MF) 3 (λq=>⟨154,[(2,.ptr 1 0 0),(35,.d (Bq p)),(37,.d (PW q.1))],[(41,[.multi q.2])]⟩) (λq=>HE q.2 q.1 l) Z Z Z ?_ ?_ (λa hI=>?_)))))))))
 .refine J (Ay Z Z Bl Z Z Z) (AD ⟨Z,?_⟩);refine fZ Z Z (AD ⟨Z,?_⟩);refine C6 (VA (Gd l hn (by omega)) Z [41] ⟨Z,trivial⟩ Z Z Z Z (λr H' ⟨b,N,G,D,_⟩=>by subst G D;exact ⟨Z,Z,Z⟩) Z) Z ?_;rintro _ ⟨r,H',⟨b,N,G,D,hW⟩,rfl⟩;subst G D;refine AD ⟨Z,?_⟩;exact ⟨(b,N),hW,AY v [41] Z Z Qs⟩
 .refine fZ Z Z (AD ⟨Z,?_,?_⟩);refine J (Ay Z Z Bl Z Z Z) (AD ⟨Z,?_⟩);refine C6 (VA (Gd l hn (by omega)) Z [41] ⟨Z,trivial⟩ Z Z Z Z (λr H' ⟨b,N,G,D,_⟩=>by subst G D;exact ⟨Z,Z,Z⟩) Z) Z ?_;rintro _ ⟨r,H',⟨b,N,G,D,hW⟩,rfl⟩;subst G D
  rotate_left
  refine C6 (VA (Gd l hn (by omega)) Z [41] ⟨Z,trivial⟩ Z Z Z Z (λr H' ⟨b,N,G,D,_⟩=>by subst G D;exact ⟨Z,Z,Z⟩) Z) Z ?_;rintro _ ⟨r,H',⟨b,N,G,D,hW⟩,rfl⟩;subst G D;refine AD ⟨Z,?_⟩;refine J (Ay Z Z Bl Z Z Z) ?_
  all_goals
   refine AD ⟨Z,?_⟩;exact ⟨(b,N),hW,AY v [41] Z Z Qs⟩
 .obtain ⟨b,N⟩:=a;have hW:HE N b l:=hI;refine Ad 4 Z Z ?_;refine C6 (VA (MI p hE hf WF [pD b 0] N (λid=>decide (id∈l)) (EG hW)) Z [41,40] ⟨Z,Z,trivial⟩ Z Z Z Z (λr H' ⟨E,M,G,D,_⟩=>by subst G D;exact ⟨Z,Z,Z⟩) Z) Z ?_;rintro _ ⟨r,H',⟨E,M,G,D,hR,hEq⟩,rfl⟩;subst G D;refine AD ⟨Z,?_⟩;refine Ad 5 Z Z (AB Z Z (AD ⟨Z,?_⟩));refine CM (AC ?_)
  obtain ⟨n,w⟩:∃n,E.length=n:=⟨_,Z⟩
  have hn30:n<=30:=by have h1:(E.map Prod.fst).length<=(fk p).length:=(by rw [hEq];exact gz _ _);rw [χ,w] at h1;omega
  have hIt:∀k,k<n ->DJ E k∈fk p:=λk hk=>by have h1:DJ E k∈E.map Prod.fst:=(by rw [SJ (by omega)];exact jW (ξ _));rw [hEq] at h1;exact (gS.1 h1).1
  have hId:kD E:=O8 hids hEq;have R:(E.map Cr).length=n:=by rw [χ,w]
  refine AE (fZ Z Z (J (JZ Z R fT Z) (V (FH 2 BP Z Z Z (by omega) oY Z Z Z Z) ?_)));rw [ox,dP];refine V (By 3 rR Z Z Z Z) (V (B3 Z Z Z Z Z Z Z DD) (AD ?_));refine AC (AC (AE (J (AP Z Z Z BL Z) (J (Qp Z ch Z) (fZ Z Z (AD (AZ (BO (α:=Nat) (λk=>⟨154,[(7,(.d (.sl none (E.map Cr)))),(8,(.ptr 3 0 0)),(43,(.d (AR n))),(44,(.d (AR k)))],[(2,[.rowD 3 1 (rowN n (qL k))]),(3,[.blk 28 [.own 2 0 n]]),(40,[.multi M])]⟩) (λk=>k<=n) (λk=>n - k) (0) (ζ _) (AY v [2,3,40] Z Z E0) ?_))))))));rintro k hk;refine AC (AE (J (BB Z Z Z) (AD (AC (A9 Z (λh45=>?_) (λh45=>?_))))))
  .refine AX (AC (AZ (AC ?_)));have g:k<n:=BR h45;refine AE ?_;refine fZ Z Z (AB Z Z (AD (AE (J (AP Z Z Z BL Z) (fZ Z Z (fZ Z Z (J (DB (k) Z Z (Z) (g) Z ch BU Z) (V (Xx Z Z Z Z Z (by rw [Dm];exact g) Dl Z BU) ?_))))))));rw [dQ];refine AD (AE (J (Al Z Z (AM (k+1) (by omega)) Z) (fZ Z Z (AD ?_))));exact ⟨k+1,g,by omega,AY v [2,3,40] Z (Z) E0⟩
  .refine Aw (AC ?_);have W:k=n:=by have:=h45;omega
   rw [QC (f:=qL k) (h:=λj=>j) λj K=>ϱ (by omega)];refine AE (J (qw Z Z) ?_);refine AB Z Z (AD (AC (AE (V (PY 50 Z Z Z Z) (V (PY 51 Z Z Z Z) (AB Z Z (AB Z Z (AD ?_))))))));refine AC (AC (AE (fZ Z Z (J (JZ Z R fT Z) (fZ Z Z (AD (AZ (BO (α:=Nat×List (AT×Nat)×(Nat ->Nat)) (λq=>⟨154,[(7,(.d (.sl none (E.map Cr)))),(8,(.ptr 3 0 0)),(10,(.fn 67 [.ptr 3 0 0])),(11,(.map 50 0)),(12,(.map 51 0)),(55,(.d (.sl none (E.map Cr)))),(56,(.d (AR n))),(57,(.d (AR q.1)))],[(2,[.rowD 3 1 (rowN n q.2.2)]),(3,[.blk 28 [.own 2 0 n]]),(50,[BT Bc AR q.2.1]),(51,[BT AF AR (NO E q.1)]),(40,[.multi M])]⟩) (λq=>q.1<=n/\UF n (Cn (ft p) E) q.2.2/\Pp (ft p) E (λi r=>i<q.1/\r∈YL (ft p) E i) q.2.1 q.2.2) (λq=>n - q.1) ((0,[],λj=>j)) (⟨ζ _,UF.id n λi=>Rh.refl i,(Pp.zero _ _ _).mono λi r h=>by have:=h.1;omega⟩) (AY v [2,3,50,51,40] Z Z S1) ?_))))))));rintro ⟨k,U,f⟩ ⟨hk,A,y⟩;dsimp only at hk A y⊢;refine AC (AE (J (BB Z Z Z) (AD (AC (A9 Z (λh58=>?_) (λh58=>?_))))))
   .refine AX (AC (AZ (AC ?_)));have g:k<n:=BR h58;have o:k<E.length:=by omega
    have hek:=ξ o;refine AE (fZ Z Z (J (BJ (k) Z Z (Z) (A5 o) fT Z GH Z) (J (DM Z Z KH Z) (V (By 4 MX Z Z Z Z) (AB Z Z (V (B3 Z Z Z Z Z Z Z GH) ?_))))));refine AD (AC (AE (fZ Z Z (J (AN Z JM Z Z Z) (J (AN Z PQ Z Z Z) (J (AP Z Z Z An Z) (fZ Z Z (V (Uo (NO E k) ((E[k]).1.id) (k) Z Z Z nt IF Z Z) ?_))))))));rw [show BS (NO E k) (E[k]).1.id k=NO E (k+1) by rw [<-SJ o];exact kx hId o];refine AD (AC ?_)
    obtain ⟨L,hLe⟩:∃L,dR (ft p) (E[k]).1=L:=⟨_,Z⟩
    have hRk:=hR _ hek;rw [hLe] at hRk;have hus:YL (ft p) E k=L.map Prod.fst:=by rw [<-hLe,<-SJ o]
    refine MS 40 (E[k]).2 Z hRk (λ_ _=>rfl) λB c hB hBn=>?_
    obtain ⟨M1,hM1⟩:∃M1,BZ M (E[k]).2 (.map (some (B,c)) (Jn L))=M1:=⟨_,Z⟩
    rw [hM1];have h1k:M1 (E[k]).2=some (.map (some (B,c)) (Jn L)):=by rw [<-hM1,Fu]
    refine AE (J (AN Z Ky Z Z Z) (J (AP Z Z Z TQ Z) (V (LV 5 (f:=40) Z Z h1k Z CL Z Z Z Z) (AD (AZ (BO (α:=List Nat×List (AT×Int)×List (AT×Nat)×(Nat ->Nat)) (λq=>⟨154,[(7,(.d (.sl none (E.map Cr)))),(8,(.ptr 3 0 0)),(10,(.fn 67 [.ptr 3 0 0])),(11,(.map 50 0)),(12,(.map 51 0)),(13,(.d (AR k))),(55,(.d (.sl none (E.map Cr)))),(56,(.d (AR n))),(57,(.d (AR k))),(69,(.ptr 5 0 0))],[(5,[.iter 40 (E[k]).2 c q.1]),(2,[.rowD 3 1 (rowN n q.2.2.2)]),(3,[.blk 28 [.own 2 0 n]]),(50,[BT Bc AR q.2.2.1]),(51,[BT AF AR (NO E (k+1))]),(40,[.multi M1])]⟩) (λq=>(q.2.1++Bz L B q.1).Perm L/\UF n (Cn (ft p) E) q.2.2.2/\Pp (ft p) E (λi r=>(i<k/\r∈YL (ft p) E i)\/(i=k/\r∈q.2.1.map Prod.fst)) q.2.2.1 q.2.2.2) (λq=>(Bz L B q.1).length) (([],[],U,f)) (⟨by show ([]++Bz L B []).Perm L;rw [nG (by simpa [BY] using hB)];exact List.Perm.refl _,A,y.mono λi r h=>h.elim id λh=>by simp at h⟩) (AY v [5,2,3,50,51,40] Z Z T1) ?_))))));rintro ⟨seen,O,U,f⟩ ⟨hP,A,y⟩;dsimp only at hP A y⊢;refine AC (AE (RZ (L) Z Z Z (h1k) Z (λhl70=>?_) (λj70 b70 u v70 hm70 hb70 hB70 H=>⟨_,Z,?_⟩)))
    .rw [hl70] at hP;have hPm:∀r,r∈O.map Prod.fst↔r∈YL (ft p) E k:=λr=>by rw [hus];exact ((show O.Perm L by simpa using hP).map Prod.fst).mem_iff
     refine JE 40 (E[k]).2 Z h1k Z ?_;rw [show BZ M1 (E[k]).2 (.map none (Jn L))=M by rw [<-hM1,Fl];exact Lo hRk];refine J (DC Z Z Z) (AD (AC (Cm Z Z (Aw (AE (J (Al Z Z (AM (k+1) (by omega)) Z) (fZ Z Z (AD ?_))))))));exact ⟨(k+1,U,f),⟨g,A,y.mono λi r ⟨h1,h2⟩=>(Nat.decEq i k).byCases (λe=>by subst e;exact .inr ⟨Z,(hPm r).2 h2⟩) λe=> .inl ⟨by omega,h2⟩⟩,by show n - (k+1)<n - k;omega,AY v [2,3,50,51,40] Z (Z) S1⟩
    .refine J (DC Z Z Z) (AD (AC (Bx Z Z (AX (AZ (AC ?_))))));have hku:u∈YL (ft p) E k:=by rw [hus];exact jW (f:=Prod.fst) (cr hm70)
     have Q:∀i s,((i<k/\s∈YL (ft p) E i)\/(i=k/\s∈(O++ [(u,v70)]).map Prod.fst)) ->((i<k/\s∈YL (ft p) E i)\/(i=k/\s∈O.map Prod.fst))\/(i=k/\s=u):=λi s h=>h.elim (λh=> .inl (.inl h)) λ⟨e,h⟩=>by rw [Ω,υ] at h;exact h.elim (λh=> .inl (.inr ⟨e,h⟩)) λh=> .inr ⟨e,by simpa using h⟩
     refine AE (J (LW (L) j70 b70 Z Z Z (h1k) hm70 hb70 Z) (J (DC Z Z Z) (V (By 6 Jy Z Z Z Z) ?_)));refine V (B3 Z Z Z Z Z Z Z YS) (AD (AC (AE (fZ Z Z (J (Ay Z Z Cc Z Z Z) (J (Px (U) (u) (0) Z Z Z nu CV uw Z) (fZ Z Z (J (DC Z Z Z) ?_))))))));refine J (DC Z Z Z) (AB Z Z (AB Z Z (AD (AC (AE (fZ Z Z (AD (Iq Z (λh80=>?_) (λh80=>?_)))))))))
     .have hkU:u∈U.map Prod.fst:=Fm.1 h80;obtain ⟨I,hu2⟩:=y.ok _ (lS hkU);rw [w] at I;have hCk:=qf (by omega) o hu2 hku;refine AE (fZ Z Z (fZ Z Z (fZ Z Z (V (Uy ((X2 n f (Aa U u 0) k I g (by omega)).by [(930,3),(931,2)] Z) Z [3,2] ⟨Z,Z,trivial⟩ Z Z Z Z Z Z Z Z Z) (AD ?_)))));exact ⟨(seen++ [b70],O++ [(u,v70)],U,_),⟨Gm hP H,A.join (λ_ _ _=>Cn.trans) (λ_ _=>Cn.symm) I g hCk,y.join hkU Q⟩,by show (Bz L B (seen++ [b70])).length<(Bz L B seen).length;rw [H.length_eq];exact io _,AY v [5,2,3,50,51,40] Z (Z) T1⟩
     .refine AE (fZ Z Z (J (Ay Z Z Cc Z Z Z) (fZ Z Z (V (Uo (U) (u) (k) Z Z Z nu CV Z Z) (AD ?_)))));exact ⟨(seen++ [b70],O++ [(u,v70)],BS U u k,f),⟨Gm hP H,A,y.new (λz=>by rw [Fm.2 z] at h80;cases h80) o hku Q⟩,by show (Bz L B (seen++ [b70])).length<(Bz L B seen).length;rw [H.length_eq];exact io _,AY v [5,2,3,50,51,40] Z (Z) T1⟩
   .refine Aw (AC (AC ?_));have W:k=n:=by have:=h58;omega
    rw [W]
    have hS':Pp (ft p) E (λi r=>i<E.length/\r∈YL (ft p) E i) U f:=y.mono λi r ⟨h1,h2⟩=>⟨by omega,h2⟩
    refine AE (fZ Z Z (J (JZ Z R fT Z) (fZ Z Z (AD (AZ (BO (α:=Nat×(Nat ->Nat)) (λq=>⟨154,[(7,(.d (.sl none (E.map Cr)))),(8,(.ptr 3 0 0)),(10,(.fn 67 [.ptr 3 0 0])),(12,(.map 51 0)),(89,(.d (.sl none (E.map Cr)))),(90,(.d (AR n))),(91,(.d (AR q.1)))],[(2,[.rowD 3 1 (rowN n q.2)]),(3,[.blk 28 [.own 2 0 n]]),(51,[BT AF AR (NO E n)])]⟩) (λq=>q.1<=n/\UF n (Cn (ft p) E) q.2/\Pp (ft p) E (λi r=>i<E.length/\r∈YL (ft p) E i) U q.2/\∀i,i<q.1 ->∀j,j<n ->(DJ E j).id∈(DJ E i).af ->q.2 j=q.2 i) (λq=>n - q.1) ((0,f)) (⟨ζ _,A,hS',λi hi=>by omega⟩) (AY v [2,3,51] Z Z Ri) ?_))))));rintro ⟨k,f⟩ ⟨hk,A,y,hA⟩;dsimp only at hk A y hA⊢;refine AC (AE (J (BB Z Z Z) (AD (AC (A9 Z (λh92=>?_) (λh92=>?_))))))
    .refine AX (AC (AZ (AC ?_)));have g:k<n:=BR h92;have o:k<E.length:=by omega
     have hek:=ξ o;have hIk:=hIt k g;rw [SJ o] at hIk;have haf:=(hf.x _ (hxm _ hIk)).2.2;refine AE (fZ Z Z (J (BJ (k) Z Z (Z) (A5 o) fT Z GH Z) (J (DM Z Z KH Z) (V (By 4 MX Z Z Z Z) (AB Z Z (V (B3 Z Z Z Z Z Z Z GH) (AD (AC ?_))))))));refine AE (J (AN Z JM Z Z Z) (J (AN Z EV Z Z Z) (J (AP Z Z Z BL Z) (J (Ba Z ch Z) (fZ Z Z (AD (AZ (BO (α:=Nat×(Nat ->Nat)) (λq=>⟨154,[(7,(.d (.sl none (E.map Cr)))),(8,(.ptr 3 0 0)),(10,(.fn 67 [.ptr 3 0 0])),(12,(.map 51 0)),(18,(.d (AR k))),(89,(.d (.sl none (E.map Cr)))),(90,(.d (AR n))),(91,(.d (AR k))),(98,(.d (Ga (E[k]).1.af))),(99,(.d (AR (E[k]).1.af.length))),(100,(.d (AR q.1)))],[(2,[.rowD 3 1 (rowN n q.2)]),(3,[.blk 28 [.own 2 0 n]]),(51,[BT AF AR (NO E n)])]⟩) (λq=>q.1<=(E[k]).1.af.length/\UF n (Cn (ft p) E) q.2/\Pp (ft p) E (λi r=>i<E.length/\r∈YL (ft p) E i) U q.2/\(∀i,i<k ->∀j,j<n ->(DJ E j).id∈(DJ E i).af ->q.2 j=q.2 i)/\∀j,j<n ->(DJ E j).id∈(E[k]).1.af.take q.1 ->q.2 j=q.2 k) (λq=>(E[k]).1.af.length - q.1) ((0,f)) (⟨ζ _,A,y,hA,λj K z=>by simp at z⟩) (AY v [2,3,51] Z Z an) ?_))))))));rintro ⟨C,f⟩ ⟨hj8,A,y,hA,hD⟩;dsimp only at hj8 A y hA hD⊢;refine AC (AE (J (BB Z Z Z) (AD (AC (A9 Z (λh101=>?_) (λh101=>?_))))))
     .refine AX (AC (AZ (AC ?_)));have t:C<(E[k]).1.af.length:=BR h101;refine AE (J (BJ (C) Z Z (Z) (A5 t) ch Z BU Z) (J (CI Z Z An Z) ?_));refine AB Z Z (AD (AC (AE (fZ Z Z (fZ Z Z (J (Px (NO E n) ((E[k]).1.af[C]) (0) Z Z Z nt IF uw Z) (fZ Z Z (J (DC Z Z Z) ?_))))))));refine J (DC Z Z Z) (AB Z Z (AB Z Z (AD (AC (AE (fZ Z Z (AD (Iq Z (λh110=>?_) (λh110=>?_)))))))))
      .have hkP:=Fm.1 h110;have hpg:=Wr hId (x:=(E[k]).1.af[C]) (by rw [w];exact hkP);rw [w] at hpg;obtain ⟨I,hu2⟩:=hpg;have hCk:=qg (rs:=ft p) (i:=Aa (NO E n) (E[k]).1.af[C] 0) (j:=k) (by omega) o (by rw [hu2,SJ o];exact ξ t);refine AE ?_;refine fZ Z Z (fZ Z Z (fZ Z Z (V (Uy ((X2 n f (Aa (NO E n) (E[k]).1.af[C] 0) k I g (by omega)).by [(930,3),(931,2)] Z) Z [3,2] ⟨Z,Z,trivial⟩ Z Z Z Z Z Z Z Z Z) (AD (AE (J (Al Z Z (AM (C+1) (by omega)) Z) (fZ Z Z (AD ?_))))))));exact ⟨(C+1,_),⟨t,A.join (λ_ _ _=>Cn.trans) (λ_ _=>Cn.symm) I g hCk,y.keep λ_ _ h=>H7 h,λi hi j K z=>H7 (hA i hi j K z),λj K z=>by rw [ψ t,υ] at z;exact z.elim (λh=>H7 (hD j K h)) λh=>by have h3:=(bm hId (show j<E.length by omega)).2;rw [η.1 h,w] at h3;rw [<-h3];exact QZ⟩,by show (E[k]).1.af.length - (C+1)<(E[k]).1.af.length - C;omega,AY v [2,3,51] Z (Z) an⟩
      .refine AX (AE (J (Al Z Z (AM (C+1) (by omega)) Z) (fZ Z Z (AD ?_))));exact ⟨(C+1,f),⟨t,A,y,hA,λj K z=>by rw [ψ t,υ] at z;exact z.elim (hD j K) λh=>absurd (Fm.2 (by have h3:=(bm hId (show j<E.length by omega)).1;rw [η.1 h,w] at h3;exact h3)) (by rw [h110];decide)⟩,by show (E[k]).1.af.length - (C+1)<(E[k]).1.af.length - C;omega,AY v [2,3,51] Z (Z) an⟩
     .refine Aw (AE (J (Al Z Z (AM (k+1) (by omega)) Z) (fZ Z Z (AD ?_))));exact ⟨(k+1,f),⟨g,A,y,λi hi j K z=>(Nat.decEq i k).byCases (λe=>by subst e;exact hD j K (by rw [SJ o] at z;have hje:C=(E[i]).1.af.length:=(by have:=h101;omega);rw [hje,gc];exact z)) λe=>hA i (by omega) j K z⟩,by show n - (k+1)<n - k;omega,AY v [2,3,51] Z (Z) Ri⟩
    .refine Aw (AC ?_);have W:k=n:=by have:=h92;omega
     have hall:rG (ft p) E f:=⟨by rw [w];exact A,⟨U,y⟩,λi hi j K z=>hA i (by omega) j (by omega) z⟩
     have hcls:(K9 n n f).map (BC E)=gL (ft p) E:=by unfold gL;rw [<-l0 hall.uf hall.full,w]
     refine AE (AB Z Z (AD (AC ?_)));refine AC (AE (fZ Z Z (J (JZ Z R fT Z) (fZ Z Z (AD (AZ (NG 24 10 Nw Z Z Z Z (BO (α:=Nat×List (List Int)) (λq=>⟨154,[(7,(.d (.sl none (E.map Cr)))),(8,(.ptr 3 0 0)),(24,(.own 10 0 q.2.length)),(117,(.d (.sl none (E.map Cr)))),(118,(.d (AR n))),(119,(.d (AR q.1)))],[(10,[.rowD 28 1 (q.2.map Ga)]),(2,[.rowD 3 1 (rowN n f)]),(3,[.blk 28 [.own 2 0 n]])]⟩) (λq=>q.1<=n/\q.2=(K9 n q.1 f).map (BC E)) (λq=>n - q.1) ((0,[])) (⟨ζ _,Z⟩) (AY v [10,2,3] Z Z No) ?_))))))));rintro ⟨k,T⟩ ⟨hk,hT⟩;dsimp only at hk hT⊢;refine AC (AE (J (BB Z Z Z) (AD (AC (A9 Z (λh120=>?_) (λh120=>?_))))))
     .refine AX (AC (AZ (AC ?_)));have g:k<n:=BR h120;have hTl:T.length<=30:=by have:=cv n k f;rw [hT,χ];omega
      refine AE (fZ Z Z (AB Z Z (AD (AC (AC ?_)))));refine AE (J (AP Z Z Z BL Z) (fZ Z Z (J (DB (k) Z Z (Z) (g) Z ch BU Z) (J (EA Z Z (Na g) Z An Z) (fZ Z Z (J (Cw Z Z Z) (AD (A9 Z (λh127=>?_) (λh127=>?_)))))))))
      .refine Aw (AE (J (Al Z Z (AM (k+1) (by omega)) Z) (fZ Z Z (AD ?_))));exact ⟨(k+1,T),⟨g,by show _=(K9 n (k+1) f).map _;rw [ZN (by omega),hT]⟩,by show n - (k+1)<n - k;omega,AY v [10,2,3] Z (Z) No⟩
      .refine AX (AC (AE (AB Z Z (AD (AC ?_)))));refine AC (AE (fZ Z Z (J (JZ Z R fT Z) (fZ Z Z (AD (AZ (NG 26 11 BP Z Z Z Z (BO (α:=Nat×List Int) (λq=>⟨154,[(7,(.d (.sl none (E.map Cr)))),(8,(.ptr 3 0 0)),(24,(.own 10 0 T.length)),(25,(.d (AR k))),(26,(.own 11 0 q.2.length)),(117,(.d (.sl none (E.map Cr)))),(118,(.d (AR n))),(119,(.d (AR k))),(128,(.d (.sl none (E.map Cr)))),(129,(.d (AR n))),(130,(.d (AR q.1)))],[(11,[.rowD 3 1 (q.2.map AF)]),(10,[.rowD 28 1 (T.map Ga)]),(2,[.rowD 3 1 (rowN n f)]),(3,[.blk 28 [.own 2 0 n]])]⟩) (λq=>q.1<=n/\q.2=BC E (Pd f k q.1)) (λq=>n - q.1) ((0,[])) (⟨ζ _,Z⟩) (AY v [11,10,2,3] Z Z an) ?_))))))));rintro ⟨j,S⟩ ⟨K,X⟩;dsimp only at K X⊢;refine AC (AE (J (BB Z Z Z) (AD (AC (A9 Z (λY=>?_) (λY=>?_))))))
       .refine AX (AC (AZ (AC ?_)));have t:j<n:=BR Y;have hjE:j<E.length:=by omega
        have hSl:S.length<=30:=by have:=cx f k j;rw [X];unfold BC;rw [χ];omega
        refine AE (fZ Z Z (J (BJ (j) Z Z (Z) (A5 hjE) fT Z GH Z) (J (DM Z Z KH Z) (V (By 4 MX Z Z Z Z) (AB Z Z (V (B3 Z Z Z Z Z Z Z GH) (AD (AC ?_))))))));refine AE (J (AP Z Z Z BL Z) (fZ Z Z (J (DB (j) Z Z (Z) (t) Z ch BU Z) (J (EA Z Z (Na t) Z An Z) (fZ Z Z (J (GF Z Z Z) (AD (A9 Z (λh140=>?_) (λh140=>?_)))))))))
        .refine AE (fZ Z Z (J (AN Z JM Z Z Z) (J (AN Z PQ Z Z Z) ?_)));refine J (AP Z Z Z An Z) (V (C5 30 BP Z Z Z Z Z Z Z Z) (V (F2 (S) ([(E[j]).1.id]) Z Z Z Z Z Z Z Z BP (by simp only [ς];omega) Z Z Z Z) (AB Z Z (AD (AE (J (Al Z Z (AM (j+1) (by omega)) Z) (fZ Z Z (AD ?_))))))));exact ⟨(j+1,S++ [(E[j]).1.id]),⟨t,by show _=BC E (Pd f k (j+1));rw [cy (by omega),X];unfold BC;rw [Ω,List.map_singleton,SJ hjE]⟩,by show n - (j+1)<n - j;omega,AY v [11,10,2,3] Z (Z) an⟩
        .refine AX (AE (J (Al Z Z (AM (j+1) (by omega)) Z) (fZ Z Z (AD ?_))));exact ⟨(j+1,S),⟨t,by show _=BC E (Pd f k (j+1));rw [ZP (by omega),X]⟩,by show n - (j+1)<n - j;omega,AY v [11,10,2,3] Z (Z) an⟩
       .refine Aw ?_;have hje:j=n:=by have:=Y;omega
        refine LL (emb:=AF) 26 11 S Z Z Z Z Z Z Z ?_;rw [show S=BC E (ZO n f k) by rw [X,hje];rfl];refine AE (fZ Z Z ?_);refine fZ Z Z (V (C5 31 Nw Z Z Z Z Z Z Z Z) (V (F2 (T) ([BC E (ZO n f k)]) Z Z Z Z Z Z Z Z Nw (by simp only [ς];omega) Z Z Z Z) (AB Z Z (AD (AE (J (Al Z Z (AM (k+1) (by omega)) Z) (fZ Z Z (AD ?_))))))));exact ⟨(k+1,T++ [BC E (ZO n f k)]),⟨g,by show _=(K9 n (k+1) f).map _;rw [cw (by omega),Ω,hT];rfl⟩,by show n - (k+1)<n - k;omega,AY v [10,2,3] Z (Z) No⟩
     .refine Aw (AC ?_);have W:k=n:=by have:=h120;omega
      refine LL (emb:=Ga) 24 10 T Z Z Z Z Z Z Z ?_;rw [show T=gL (ft p) E by rw [hT,W,hcls]];refine AE (fZ Z Z (AB Z Z (AB Z Z (AD (A4 ?_)))));exact ⟨_,[],[],A2 Z,Z,Z,E,hEq,Z,Z⟩
end Go.Proofs.YteifpcnphnhaoaaGreat
