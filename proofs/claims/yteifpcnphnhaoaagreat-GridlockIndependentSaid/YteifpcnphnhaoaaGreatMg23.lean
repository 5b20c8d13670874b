import Derived.Test.YteifpcnphnhaoaaGreatMg22
import Derived.Shelf.SortG.Plain
import Derived.Shelf.SortG.SortNone
open Go.Proofs.Tryz
namespace Go.Proofs.YteifpcnphnhaoaaGreat
open Go.RowKit Go.Shelf
open Go.Sort (putRow Holds putCells)
def C7 (l:List Int):List Int:=l.mergeSort λx y=>decide (x<=y)
theorem Ct (l:List Int):(C7 l).Perm l:=List.mergeSort_perm l _
theorem Eg (l:List Int):(C7 l).length=l.length:=(Ct l).length_eq
theorem JU (l:List Int):(C7 l).Pairwise (· <= ·):=by grind [List.pairwise_mergeSort,C7]
abbrev zD (z:Int):D:= .raw (.int .i64 z)
variable {P:Program} {ρr:Ren}
theorem Rv (L:SlLaysN.n53 P ρr) {E:TypeId} {g53:FuncId} (k:List Int) (hsz:k.length<4611686018427387904) {F:Fr} {s:AS} {d:Nat} {x:Operand} {ty:TypeId} {pos:String} {aft:Array Edge} {gd:Option (Nat×Bool)} {at_:Array TypeId} {f n:Nat} {S:List D} {O:Hp}
  (hg:ρr.f 53=g53) (C:s.ev x=some (.own f 0 n)) (ho:dr s.hp f 0=some (.rowD E 1 S)) (V:S=k.map zD) (hn:n=k.length) (hh:BL s.hp f 0 (.rowD E 1 ((C7 k).map zD))=some O) (hd:Nat.blt d s.n=true):
  AH P F ⟨some d,.call {callee:= .value (.func g53),args:= #[x],argTypes:=at_},ty,pos,aft,gd⟩ s ⟨s.n,(d,.d (.tup []))::s.env,O⟩ (λ_ _=>true):=by
 subst hg V hn;intro ρ H w hs
 obtain ⟨fn6,hf1,hf2,hf3⟩:∃fn,P.funcs[ρr.f 53]? =some fn/\(fn.name== "runtime.NumGoroutine")=false/\fn.body.isSome=true:=by
  obtain ⟨nm,hn,hf⟩:=L.f53;exact ⟨_,hf,hn,Z⟩
 unfold Oper.wp;rw [show (#[x]:Array Operand)=[x].toArray from rfl,Cj hf1 hf2 hf3,Oper.upon_enter]
 suffices J:Calls P (ρr.f 53) ([x].map H.eval).toArray w λe w'=>e= .returned (.tuple #[])/\SR F ⟨s.n,s.env,O⟩ ρ H w' by
  refine J.mono λe w' ⟨R,hsr⟩=>?_;subst R;exact ⟨ρ,hsr.put (IB hd) (.d (.tup Z λi c v hc=>by cases hc)),λ_ _ _=>rfl⟩
 have r0:=hs.ev C;have hg0:=ho;have h3:=hs.heap;have B:=Ai hh;obtain ⟨us,q1,q2,q3⟩:=h3.sim f 0 _ hg0;show Calls P (ρr.f 53) #[H.eval x] w _
 generalize H.eval x=V0 at r0
 cases r0 with
 | own T hle=>
  rename_i N r a
  by_cases C:k=[]
  .subst C;refine (AnyG.slices_Sort_int_none L a r w).mono λe w' ⟨R,e2⟩=>?_;subst R e2;refine ⟨Z,hs.writeG f 0 _ _ ho B Z Z Z (ϖ _) (ϖ _) (λ_ _ _=>rfl) (λ_ _ e=>by cases e) λW=>?_⟩;have h0:C7 []=[]:=by simp [C7]
   rw [h0];exact ⟨us,q1,⟨by simpa using q2.1,λx C=>(by cases C),λi x C=>by simp at C⟩,λx C=>(by cases C)⟩
  .have hn:0<k.length:=ic.2 C;have hul:us.length=k.length:=by have:=q2.1;rw [ψ] at this;omega
   have G:∃b o,a=some ⟨b,0,none⟩/\w.heap[b]? =some (.cells o E (0,0))/\o.size=r/\k.length<=r/\r<=maxLen/\o.toList.take k.length=us/\N=k.length:=by
    rcases q1.2 with ⟨_,h⟩ | ⟨b,cap',o,R,_,e2,e3,e4,e5,e6⟩
    .grind
    grind
   obtain ⟨b,o,rfl,p1,p2,p3,p3',p4,rfl⟩:=G;have hb:B6 (ρ f 0)=some b:=by rw [T];rfl
   have Y:b<w.heap.size:=(gr.1 p1).1
   have hus:∀i (hi:i<k.length),us[i]? =some (.int .i64 k[i]):=λi hi=>by
    have hm:(k.map zD)[i]? =some (zD k[i]):=by rw [η,ω hi];rfl
    obtain ⟨u,hu,_,hr⟩:=q2.2.2 i _ hm 0 (zD k[i]) rfl;rw [hY,gg] at hu
    cases hr with
    | raw _=>exact hu
   have hH:Holds (Value.int .i64) w b 0 k.toArray:=by
    intro j hj
    grind [World.cell?,World.frozen?]
   have J:=AnyG.slices_Sort_int L b 0 r k w hH Y hsz;refine J.mono λe w' ⟨R,nd,os,hw⟩=>?_;subst R hw
   obtain ⟨z,K⟩:∃z,C7 k=z:=⟨_,Z⟩
   have U:(k.mergeSort λx y=>decide (x<=y))=z:=K;have M:z.length=k.length:=by rw [<-K,Eg]
   rw [K] at B hh;rw [U];refine ⟨Z,?_⟩;have A:((putRow (Value.int .i64) (Go.Sort.ahead w nd) b 0 z.toArray)).heap.size=w.heap.size:=by rw [Go.Sort.size_putRow];rfl
   have X:∀I,I<w.heap.size ->I≠b ->(Go.Sort.grow (putRow (Value.int .i64) (Go.Sort.ahead w nd) b 0 z.toArray) os).heap[I]? =w.heap[I]?:=λI hl hne=>by
    rw [Go.Sort.heap_grow_old _ _ (by rw [A];exact hl)];show (w.heap.modify b _)[I]? =_;rw [iq,θ (Ne.symm hne)]
   refine hs.writeG f 0 _ _ ho B Z Z Z (by rw [Go.Sort.size_grow,A];exact Nat.le_add_right _ _) (Nat.le_add_right _ _) (λI hl hno=>X I hl (λe=>hno (by rw [e];exact hb))) (λ_ _ e=>by cases e) λW=>?_
   have Q:(Go.Sort.grow (putRow (Value.int .i64) (Go.Sort.ahead w nd) b 0 z.toArray) os).heap[b]? =some (.cells (putCells (Value.int .i64) 0 z.toArray o) E (0,0)):=by
    rw [Go.Sort.heap_grow_old _ _ (by rw [A];exact Y)];show (w.heap.modify b _)[b]? =_;rw [iq,ϱ Z,p1];rfl
   have hcs:(putCells (Value.int .i64) 0 z.toArray o).size=r:=by simp only [putCells,Array.size_mapIdx];exact p2
   have l:(z.map zD).length=k.length:=by rw [ψ,M]
   refine ⟨z.map (Value.int .i64),⟨by rw [ψ,l,M,hY],.inr ⟨b,r,_,by rw [T,l],υ _,Q,by rw [l];exact p3,p3',by omega,?_⟩⟩,⟨by rw [ψ,l,M,hY],λx g=>?_,λi x g j c t=>?_⟩,λx g c t=>?_⟩
   .rw [l,hY]
    apply i8
    intro i
    by_cases hi:i<k.length
    .rw [ii hi,iE,η,ω (by omega),gS (by omega)];simp only [putCells,Array.getElem_mapIdx];rw [ϱ ⟨υ _,by simp;omega⟩];simp only [Nat.sub_zero,gs];rw [getElem!_pos _ i (by simp;omega)]
     simp
    .rw [iM (by rw [Ξ];omega),iM (by rw [ψ];omega)]
   .obtain ⟨y,_,rfl⟩:=κ.1 g;rfl
   .rw [η] at g
    cases hyi:z[i]? with
    | none=>rw [hyi] at g;cases g
    | some y=>
     rw [hyi] at g;injection g with g;subst g
     have hj0:j=0:=by have:=(φ.1 t).1;simp [D.cells] at this;exact this
     subst hj0;simp only [D.cells,List.getElem?_cons_zero,Option.some.injEq] at t;subst t;exact ⟨.int .i64 y,by rw [hY,gg,η,hyi];rfl,Z,.raw Z⟩
   .obtain ⟨y,_,rfl⟩:=κ.1 g;simp only [D.cells,ζ] at t;subst t;rfl
end Go.Proofs.YteifpcnphnhaoaaGreat
namespace Go.Proofs.YteifpcnphnhaoaaGreat
open Go.RowKit
set_option maxRecDepth 100000
section
variable {P:Program} {F:Fr} {s:AS} {α β:Type} [DecidableEq α] {eK:α ->D} {eV:β ->D} {K:TypeId} {kv:α ->Value} {d:Nat} {ty T E:TypeId} {pos:String} {aft:Array Edge} {g:Option (Nat×Bool)} {x y z:Operand} {bs:Option (List Nat×Nat)}
variable {a:D}
theorem Rz (m:List (α×β)) (b:α) (o v:β) {f i:Nat} (S:s.ev x=some (.map f i)) (W:dr s.hp f i=some (.map bs (BK eK eV m))) (R:s.ev y=some (.d (eK b))) (L:B3 P T K E=true) (k:B7 P K eK kv) (Q:Ca P E=some (.d a)) (U:∀w O v,AN w O a v ->AN w O (eV o) v) (V:A1 m b o=v) (X:Nat.blt d s.n=true):
  AA P F ⟨some d,.lookup T x y false,ty,pos,aft,g⟩ s d (.d (eV v)):=
 Cd _ X λl G w I=>by
  obtain ⟨mb,arr,c,N,_,M,C,B,_⟩:=I.mapAt S W;have J:G.eval y=kv b:=(I.repD R).val (k.val b);obtain ⟨H,A,u⟩:=EC Q w
  have t:∀r O l,AR r O l (.d (eV o)) H:=λr O l=>by
   have:=u r O l
   cases this with
   | d h=>exact .d (U _ _ _ h)
  subst V;rcases fY k C B b o with ⟨D,_,Z,_⟩ | ⟨j,e,D,g2,_,_,_,_,Y⟩
  .refine ⟨H,?_,by rw [Z];exact t _ _ _⟩
   simp [execOp,Instr.lookup,run_underlying (Vj L),N,J,MapKept.run_getObj_map M,k.check,k.find w b _ _ (XS k C B),D,A,Result.andThen]
  .refine ⟨e.val,?_,.d Y⟩
   simp [execOp,Instr.lookup,run_underlying (Vj L),N,J,MapKept.run_getObj_map M,k.check,k.find w b _ _ (XS k C B),D,Result.andThen]
theorem Mg (m:List (α×β)) (b:α) (D:β) {f i:Nat} (hx:s.ev x=some (.map f i)) (ho:dr s.hp f i=some (.map bs (BK eK eV m))) (hy:s.ev y=some (.d (eK b))) (W:B3 P T K E=true) (o:B7 P K eK kv) (hz:Ca P E=some (.d a)) (hw:∀w O v,AN w O a v ->AN w O (eV D) v) (hd:Nat.blt d s.n=true):
  AA P F ⟨some d,.lookup T x y true,ty,pos,aft,g⟩ s d (.tup [.d (eV (A1 m b D)),.d (.raw (.bool (NR m b)))]):=
 Cd _ hd λk N w U=>by
  obtain ⟨mb,arr,c,Y,_,C,t,L,_⟩:=U.mapAt hx ho;have V:N.eval y=kv b:=(U.repD hy).val (o.val b);obtain ⟨S,J,I⟩:=EC hz w
  have H:∀G O k,AR G O k (.d (eV D)) S:=λG O k=>by
   have:=I G O k
   cases this with
   | d h=>exact .d (hw _ _ _ h)
  have l:∀{A u:Value} {R Q:AV},AR w (F.O k s.hp) k R A ->AR w (F.O k s.hp) k Q u ->AR w (F.O k s.hp) k (.tup [R,Q]) (.tuple #[A,u]):=λ{A u R Q} C t=>by
   refine .tup (vs:=[A,u]) Z λi b v r B=>?_;rcases i with _ | _ | i
   .simp at r B;subst r B;exact C
   .simp at r B;subst r B;exact t
   .simp at r
  rcases fY o t L b D with ⟨M,X,g3,_⟩ | ⟨j,e,M,X,_,g4,_,_,g7⟩
  .refine ⟨.tuple #[S,.bool false],?_,l (by rw [g3];exact H _ _ _) (by rw [X];exact .d (.raw Z))⟩
   simp [execOp,Instr.lookup,run_underlying (Vj W),Y,V,MapKept.run_getObj_map C,o.check,o.find w b _ _ (XS o t L),M,J,Result.andThen]
  .refine ⟨.tuple #[e.val,.bool true],?_,l (.d g7) (by rw [g4];exact .d (.raw Z))⟩
   simp [execOp,Instr.lookup,run_underlying (Vj W),Y,V,MapKept.run_getObj_map C,o.check,o.find w b _ _ (XS o t L),M,Result.andThen]
end
theorem Gj:∀w O v,AN w O (.agg [AF 0,AF 0,AF 0,.sl (some true) [],.sl (some true) [],.sl (some true) []]) v ->AN w O (Af eT) v:=λw O v h=>h.aggMono Z (by simp [D.one]) λi c g b a v f=>by
 match i,b,a with
 | 0,b,a=>injection b with b;injection a with a;subst b a;exact f
 | 1,b,a=>injection b with b;injection a with a;subst b a;exact f
 | 2,b,a=>injection b with b;injection a with a;subst b a;exact f
 | 3,b,a=>injection b with b;injection a with a;subst b a;exact f.anyNil
 | 4,b,a=>injection b with b;injection a with a;subst b a;exact f.anyNil
 | 5,b,a=>injection b with b;injection a with a;subst b a;exact f.anyNil
def k8 (l:List eY):List eY:=l.mergeSort λa b=>decide (Bc a.r b.r<=0)
theorem Kv (l:List eY):(k8 l).Perm l:=List.mergeSort_perm l _
theorem cF (l:List eY):(k8 l).length=l.length:=(Kv l).length_eq
theorem l4 {a b c:AM} (g:Bc a b<=0) (f:Bc b c<=0):Bc a c<=0:=by
 by_cases i:Bc a b=0
 .rw [DK.1 i];exact f
 .by_cases h:Bc b c=0
  .rw [<-DK.1 h];exact g
  .have:=MV.trans a b c (by omega) (by omega);omega
theorem Si (l:List eY):(k8 l).Pairwise λa b=>¬Bc b.r a.r<0:=by
 have:=List.pairwise_mergeSort (le:=λa b:eY=>decide (Bc a.r b.r<=0)) (λa b c g f=>by simp only [gR] at*;exact l4 g f) (λa b=>by simp only [Bool.or_eq_true,gR];have:=MV.anti a.r b.r;omega) l
 exact this.imp λ{a b} h=>by
  have i:Bc a.r b.r<=0:=by simpa using h
  have:=MV.anti a.r b.r;omega
theorem jp {g:Type} (f:g ->AM) {l m i:List g} (c:(l.map f).Nodup) (s:m.Perm l) (j:m.Pairwise λa b=>¬Bc (f b) (f a)<0) (o:i.Perm l) (t:i.Pairwise λa b=>¬Bc (f b) (f a)<0):i=m:=by
 have r:∀{k:List g},(k.map f).Nodup ->(k.Pairwise λa b=>¬Bc (f b) (f a)<0) ->k.Pairwise λa b=>Bc (f a) (f b)<0:=λ{k} c h=>by
  rw [List.Nodup,fz] at c;refine (h.and c).imp λ{a b} ⟨v,u⟩=>?_;have o:=MV.anti (f a) (f b);have t:Bc (f a) (f b)≠0:=λe=>u (DK.1 e);omega
 exact mP (R:=λa b=>Bc (f a) (f b)<0) (λx=>by rw [MV.refl];omega) (λx y z=>MV.trans _ _ _) (r ((o.map f).nodup_iff.2 c) t) (r ((s.map f).nodup_iff.2 c) j) λx=>by rw [o.mem_iff,s.mem_iff]
structure iV where
 r:AM
 n:Int
 q:List Int
abbrev NU (x:iV):D:= .agg [AF x.r.k,Aj x.r.acc.o,AF x.r.acc.k,Aj x.r.acc.a,Aj x.r.f,Aj x.r.t,AF x.n,.sl none (x.q.map AF)]
theorem cI (x:iV):∃a,NU x= .agg a:=⟨_,Z⟩
def H5 (p:ee) (x:eY):iV:=⟨x.r,max x.n 0,ez (ea p) x.r⟩
def eZ (p:ee):List iV:=(k8 p.ro).map (H5 p)
theorem Hi (p:ee):(eZ p).length=p.ro.length:=by unfold eZ;rw [ψ,cF]
theorem LZ {l:List eY} (h:Cv l=0):(l.map eY.r).Nodup:=by
 have c:=RT.1 h;rw [List.Nodup,fz,gc];intro i j f a b e;have:=c j (Θ.2 a)
 grind [Ms,NS]
theorem Wh {p:ee} (f:A6 p=0) {c:List iV} (h:c.Perm (p.ro.map (H5 p))) (g:c.Pairwise λa b=>¬Bc b.r a.r<0):c=eZ p:=by
 refine jp iV.r (l:=p.ro.map (H5 p)) ?_ ((Kv p.ro).map _) ?_ h g
 .rw [fS];exact LZ (HX f).1
 .unfold eZ;rw [fz];exact Si p.ro
theorem qR (a b:iV):AK prog 175 [.d (NU a),.d (NU b)] (AF (Bc a.r b.r)):=by
 refine As func175 Z Z ntmps175 Z Z Z λF c=>(AC (AE (V (Bz 1 Z Z Z Z Z Z Z) (V (Bz 2 Z Z Z Z Z Z Z) (AB Z Z (AD (AC ?_)))))));refine AE (J (AU Z Jt Z Z Z) (J (BE Z Z CQ Z Z Z) (J (AU Z Jt Z Z Z) (J (BE Z Z CQ Z Z Z) (J (BT (LL a.r b.r) Z Z) (AB Z Z (AD (A4 ?_))))))));exact ⟨_,[],[],A3 Z,Z,Z,Z,Z⟩
def CV (l:List eR):List (Int×eR):=l.map λi=>(i.id,i)
theorem VS {l:List eR} {i:eR} (h:i.id∉l.map eR.id):BA (CV l) i.id i=CV (l++ [i]):=by
 induction l with
 | nil=>rfl
 | cons a l b=>
  grind [BA,CV]
section
variable {β:Type}
end
variable {a:ee} {c:List (Int×Bool)} {k:Nat} {f:List Int} {g:Type}
def IA (p:ee):List Int:=(ea p).map eR.id
abbrev HA (p:ee):Hp:=[(10,[.blk 229 [.map 11 0,.d (.sl none ((IA p).map AF)),.d (.sl none ((eZ p).map NU))]]),(11,[BB AF Af (CV p.it)])]
theorem sS (a:Int):(if 0>a then 0 else a)=max a 0:=by omega
theorem OS (p:ee) (t:EY p) (C:A6 p=0):AJ prog 126 [.d (Bf p)] [] λr N=>r= .tup [.ptr 3 0 0,.d (AF 0)]/\N=[(3,[.blk 229 [.map 2 0,.d (.sl none ((IA p).map AF)),.d (.sl none ((eZ p).map NU))]]),(2,[BB AF Af (CV p.it)])]:=by
 have s:=FD p t;rw [C] at s;have B:=XT (HX C).2.1;have w:=F1 p t;have I:=t.1;have H:=t.2.1;refine As func126 Z Z ntmps126 Z Z Z λF u=>(AC (AE (V (Bz 1 Z Z Z Z Z Z Z) ?_)));refine AB Z Z (AB Z Z (AD (AC (AC (AE (J (BE Z Z BM Z Z Z) (J (BT (s) Z Z) (AB Z Z ?_))))))));refine AD (AC (AE (dd Z Z (J (D7 Z Z Z) (AD (D3 Z ((by decide)) (AZ (AC ?_))))))));refine AE (V (O4 2 Z Z Z Z) (J (BE Z Z BM Z Z Z) (J (BT (w) Z Z) (J (Fe qw rz Z Z Z) (V (Bz 3 Z Z Z Z Z Z Z) (AB Z Z (AD (AC ?_))))))));refine AC (AE (J (AU Z Cy Z Z Z) (J (A2 Z Z Z Is Z) (J (CB Z F0 Z) (dd Z Z (AD (A0 (BX (α:=Nat) (λk=>⟨68,[(1,(.ptr 1 0 0)),(5,(.ptr 3 0 0)),(21,(.d (.sl none (p.it.map Af)))),(22,(.d (AF (p.it.length:Int)))),(23,(.d (AF (k:Int))))],[(1,[Mv 39 p]),(3,[.blk 229 [.map 2 0,.d (.sl none ((IA p).map AF)),I6]]),(2,[BB AF Af (CV (p.it.take k))])]⟩) (λk=>k<=p.it.length) (λk=>p.it.length - k) (0) (υ _) (AY u [1,3,2] Z Z ⟨Z,Z,Z,Z,Z,trivial⟩) ?_))))))));rintro k G;refine AC (AE (J (BN Z Z Z) (AD (AC (Ac Z (λl=>?_) (λl=>?_))))))
 .have g:k<p.it.length:=Ba l;refine AZ (AC (A0 (AC (AE ?_))));have z:p.it[k].id∉(p.it.take k).map eR.id:=λh=>by have D:=B;rw [List.Nodup,fz,gc] at D;obtain ⟨x,E,e⟩:=κ.1 h;obtain ⟨j,O,rfl⟩:=iY.1 E;exact D j k (by omega) g (by omega) e
  refine J (Bh (k) Z Z (Z) (Ab g) F0 Z CY Z) (J (GW Z Z Bs Z) (V (Bn 4 E4 Z Z Z Z) (V (B1 Z Z Z Z Z Z Z CY) (AD (DB [[],[0],[0,1],[0,1,2],[],[4],[],rg 7] mixed Z (DP (Av 5 Z Z (AQ [27] Z (KS Z Z) ?_))))))));refine AQ [28] Z (AU Z Jv Z Z Z) (Az [29] Z Z (λ_=>A5 (A2 Z Z Z SZ Z)) (AQ [7] Z (AU Z OY Z Z Z) (Az [31] Z Z (λ_=>A5 (A2 Z Z Z Aw Z)) (Az [7] Z Z (λ_=>A5 (BE Z Z Bs Z Z Z)) (Cg 7 Z Z Z (Ag 8 Z Z (V (UO (CV (p.it.take k)) (p.it[k].id) (p.it[k]) Z Z Z Sf HS Z Z) (AD ⟨Z,?_⟩))))))));refine Cr (AE (J (Ar Z Z (AO (k+1) (by omega)) Z) (dd Z Z (AD ?_))));exact ⟨k+1,by show k+1<=_;omega,by show p.it.length - (k+1)<p.it.length - k;omega,AY u [1,3,2] Z (by rw [χ g,<-VS z];rfl) ⟨Z,Z,Z,Z,Z,trivial⟩⟩
 .refine BC (AC (AC ?_));rw [ς (show p.it.length<=k by have h:=l;omega)];refine Cp 3 0 2 900 aP Z Z Z Z Z Z Z (AE (J (AU Z Dp Z Z Z) (J (A2 Z Z Z Ob Z) (J (CB Z S1 Z) (dd Z Z (AD (A0 (BX (α:=Nat×List iV) (λq=>⟨68,[(1,(.ptr 1 0 0)),(5,(.ptr 3 0 0)),(36,(.d (.sl none (p.ro.map Bt)))),(37,(.d (AF (p.ro.length:Int)))),(38,(.d (AF (q.1:Int))))],[(900,[.rowD 233 8 (q.2.map NU)]),(1,[Mv 39 p]),(3,[.blk 229 [.map 2 0,.d (.sl none ((IA p).map AF)),.own 900 0 q.2.length]]),(2,[BB AF Af (CV p.it)])]⟩) (λq=>q.1<=p.ro.length/\q.2=(p.ro.take q.1).map (H5 p)) (λq=>p.ro.length - q.1) ((0,[])) (⟨υ _,Z⟩) (AY u [900,1,3,2] Z Z ⟨Z,Z,Z,Z,Z,trivial⟩) ?_))))))));rintro ⟨m,c⟩ ⟨A,v⟩;dsimp only at A v⊢;refine AC (AE (J (BN Z Z Z) (AD (AC (Ac Z (λi=>?_) (λi=>?_))))))
  .have o:m<p.ro.length:=Ba i;refine AZ (AC (A0 (AC (AE ?_))));have K:c.length<=100000:=by rw [v,ψ,Ξ];omega
   refine J (Bh (m) Z Z (Z) (Ab o) S1 Z Ln Z) ?_;refine J (GW Z Z Ui Z) (V (Bn 5 QI Z Z Z Z) (V (B1 Z Z Z Z Z Z Z Ln) (AD (DB [[],[],[1],[1,2],[1,2,3],[],[5],[],[7],[7,8],[],[],[11],[10,11,12],[5,6,7,8,9,10,11,12,13],[5,6,7,8,9,10,11,12,13,14],[1,2,3,4,5,6,7,8,9,10,11,12,13,14,15],rg 17,rg 18,rg 19] mixed Z (DP (Av 5 Z Z (Av 5 Z Z (AQ [43] Z (KS Z Z) ?_))))))));refine AQ [44] Z (AU Z Ju Z Z Z) (CK [45] [3] Z Z (λ_=>A5 (A2 Z Z Z WX Z)) (AQ [9] Z (AU Z EU Z Z Z) (CK [47] [5] Z Z (λ_=>A5 (BE Z Z CQ Z Z Z)) (AQ [9] Z (AU Z Qp Z Z Z) (CK [49] [5] Z Z (λ_=>A5 (A2 Z Z Z Km Z)) (AQ [50] Z (QQ Z Z (sS _) Z) (CK [1] [1] Z Z (λ_=>A5 (BE Z Z BM Z Z Z)) (AQ [9] Z (AU Z EU Z Z Z) ?_))))))));refine CK [53] [5] Z Z (λ_=>A5 (BE Z Z CQ Z Z Z)) (AQ [52,54] Z (BT (jx p p.ro[m].r t) Z Z) (AQ [48,51,55] Z (Fe ZY ry Z Z Z) (Fp [56] [50] [(57,_)] Z Z (λ_=>Fs (D6 50 aP Z Z Z Z Z Z Z Z)) (.inr ⟨57,_,Z,Z,Z,Z,Z⟩) Z Z Z Z Z (Fp [46,57] [900,50,3,2] [(58,_)] Z Z (λ_=>Fs (H1 (c) ([H5 p p.ro[m]]) Z Z Z Z Z Z Z Z aP (by simp only [Φ];omega) Z Z Z Z)) (.inr ⟨58,_,Z,Z,Z,Z,Z⟩) Z Z Z Z Z (Cg 17 Z Z Z (Ag 18 Z Z (J (KS Z Z) (AD ⟨Z,?_⟩))))))));refine Ag 19 Z Z (J (AU Z Ju Z Z Z) (AD ⟨Z,?_⟩));refine Ag 20 Z Z (V (B1 Z Z Z Z Z Z Z rL) (AD ⟨Z,?_⟩));refine Cr (AE (J (Ar Z Z (AO (m+1) (by omega)) Z) (dd Z Z (AD ?_))));exact ⟨(m+1,c++ [H5 p p.ro[m]]),⟨by show m+1<=_;omega,by show c++ [H5 p p.ro[m]]=(p.ro.take (m+1)).map (H5 p);rw [Db o,v]⟩,by show p.ro.length - (m+1)<p.ro.length - m;omega,AY u [900,1,3,2] Z (Z) ⟨Z,Z,Z,Z,Z,trivial⟩⟩
  .refine BC (AC ?_);have f:c=p.ro.map (H5 p):=by rw [v,ς (by have h:=i;omega)]
   refine AE (dd Z Z (J (KS Z Z) (J (AU Z Ju Z Z Z) (J (A2 Z Z Z WX Z) (V (Lz oi (k:=8) (by decide) isAgg233 sizeOf233 func175 Z Z cI (λa b=>Bc a.r b.r) ((MV.comap iV.r).swo) c (eZ p) (by rw [f,ψ];omega) (λx _ y _=>qR x y) (λys M L=>Wh C (by rw [<-f];exact M) L) Z Z Z LF Z Z Z Z Z) ?_)))));refine AD (AC (jN (ys:=(eZ p).map NU) 3 0 2 900 Z Z Z (by rw [ψ,Hi,f,ψ];exact ϖ _) (ς (by rw [ψ,Hi,f,ψ];exact ϖ _)) Z Z Z Z Z Z (AE (dd Z Z (AB Z Z (AB Z Z (AD (A4 ?_))))))));exact ⟨_,[3,2],_,A3 Z,Z,Z,Z,Z⟩
theorem UC (p:ee) (b:EY p) (c:A6 p≠0):AK prog 126 [.d (Bf p)] (.tup [.raw (.pointer none),AF (A6 p)]):=by
 have a:=FD p b;refine As func126 Z Z ntmps126 Z Z Z λF f=>(AC (AE (V (Bz 1 Z Z Z Z Z Z Z) (AB Z Z (AB Z Z (AD (AC (AC ?_))))))));refine AE (J (BE Z Z BM Z Z Z) (J (BT (a) Z Z) (AB Z Z (AD (AC (AE (dd Z Z (J (D7 Z Z Z) ?_))))))));refine AD (DO Z ((Υ c)) (AC (AE (dd Z Z (AB Z Z (AB Z Z (AD (A4 ?_))))))));exact ⟨_,[],[],A3 Z,Z,Z,Z,Z⟩
theorem VT (l:List eR) (i:Int):A1 (CV l) i eT=l.getD ((l.map eR.id).idxOf i) eT:=by
 induction l with
 | nil=>rfl
 | cons a l b=>
  grind [A1,CV]
theorem Iy (l:List eR) (i:Int):NR (CV l) i=decide (i∈l.map eR.id):=by
 rw [Bool.eq_iff_iff,FH,gR];unfold CV;rw [fS];rfl
theorem Pf (p:ee) (i:Int):A1 (CV p.it) i eT=eo p i:=VT p.it i
theorem Qf (b:EY a) (i:Int):(eo a i).po.length<=100000/\(eo a i).pa.length<=100000/\(eo a i).af.length<=100000:=by grind [eo,eT,EY]
theorem Mt (p:ee) (l:List Int) (v:EY p) (y:l.length<=100000) (c:DM p l=0):AJ prog 71 [.d (Bf p),.d (.sl none (l.map AF))] [] λr x=>r= .tup [.ptr 10 0 0,.map 2 0,.d (AF 0)]/\x=HA p++ [(2,[BB AF Aa (At l)])]:=by
 have t:A6 p=0:=by
  unfold DM at c;split at c
  .exact c
  .rename_i h;simpa using h
 have o:=(OS p v t).by [(3,10),(2,11)] rfl;have w:DM p l=QU (p.it.map eR.id) l:=θ (λh=>h t);rw [w] at c;refine As func71 Z Z ntmps71 Z Z Z λF s=>(AC (AE (V (Bz 1 Z Z Z Z Z Z Z) ?_)));refine AB Z Z (AB Z Z (AB Z Z (AD (AC (AE (J (BE Z Z BM Z Z Z) (V (EX o Z [10,11] ⟨Z,Z,trivial⟩ Z Z Z Z Z Z Z Z Z) (dd Z Z ?_))))))));refine J (Cf Z Z Z) (J (Cf Z Z Z) (AB Z Z (AB Z Z (AD (AC (AC (AE (dd Z Z ?_))))))));refine J (D7 Z Z Z) (AD (D3 Z ((by decide)) (AZ (AC (AE (V (O4 2 Z Z Z Z) (AB Z Z (AD ?_))))))));refine AC (AC (AE (dd Z Z (J (CB Z E0 Z) (dd Z Z (AD (A0 (BX (α:=Nat) (λk=>⟨48,[(7,(.ptr 10 0 0)),(9,(.map 2 0)),(23,(.d (.sl none (l.map AF)))),(24,(.d (AF (l.length:Int)))),(25,(.d (AF (k:Int))))],HA p++ [(2,[BB AF Aa (At (l.take k))])]⟩) (λk=>k<=l.length) (λk=>l.length - k) (0) (υ _) (AY s [10,11,2] Z Z ⟨Z,Z,Z,Z,Z,trivial⟩) ?_))))))));rintro k u;refine AC (AE (J (BN Z Z Z) (AD (AC (Ac Z (λb=>?_) (λb=>?_))))))
 .have a:k<l.length:=Ba b;refine AZ (AC (A0 (AC (AE ?_))));have i:l[k]∈p.it.map eR.id:=(QT c).2 _ (ξ a);have f:l[k]∉l.take k:=λh=>by have g:=(QT c).1;rw [List.Nodup,gc] at g;obtain ⟨j,z,e⟩:=iY.1 h;exact g j k (by omega) a (by omega) e
  refine J (Bh (k) Z Z (Z) (Ab a) E0 Z BU Z) (J (D2 Z Z Aw Z) (AB Z Z (AD (AC (AC (AE (dd Z Z (J (KS Z Z) ?_))))))));refine J (AU Z Jv Z Z Z) (J (A2 Z Z Z SZ Z) (dd Z Z (J (Mg (CV p.it) l[k] eT Z Z Z Sf HS jU Gj Z) (dd Z Z (J (Cf Z Z Z) (J (Cf Z Z Z) (V (Bn 3 E4 Z Z Z Z) (V (B1 Z Z Z Z Z Z Z CY) ?_))))))));refine AB Z Z (AD (AC (AE (dd Z Z (J (OZ Z Z) (AD (D3 Z ((by rw [Iy,Υ i];rfl)) (AZ ?_))))))));refine AC (AC (AE (dd Z Z (dd Z Z (J (HY (At (l.take k)) (l[k]) (false) _ Z Z Z Ie HS Rd Z Z) (AD (D3 Z ((by rw [XZ];exact fb f)) (AZ ?_))))))));refine AE (dd Z Z (dd Z Z (V (UO (At (l.take k)) (l[k]) (true) Z Z Z Ie HS Z Z) (AD (AE (J (Ar Z Z (AO (k+1) (by omega)) Z) (dd Z Z (AD ?_))))))));exact ⟨k+1,by show k+1<=_;omega,by show l.length - (k+1)<l.length - k;omega,AY s [10,11,2] Z (by rw [χ a,<-ZT f];rfl) ⟨Z,Z,Z,Z,Z,trivial⟩⟩
 .refine BC ?_;refine AC (AE (dd Z Z (dd Z Z (AB Z Z (AB Z Z (AB Z Z (AD (A4 ?_))))))));exact ⟨_,[10,11,2],_,A3 Z,Z,Z,Z,by rw [ς (show l.length<=k by have h:=b;omega)];rfl⟩
theorem SP (p:ee) (l:List Int) (z:EY p) (C:l.length<=100000) (w:DM p l≠0):AK prog 71 [.d (Bf p),.d (.sl none (l.map AF))] (.tup [.raw (.pointer none),.raw (.map none),AF (DM p l)]):=by
 by_cases s:A6 p=0
 .have t:=(OS p z s).by [(3,10),(2,11)] rfl;have x:DM p l=QU (p.it.map eR.id) l:=θ (λh=>h s);rw [x] at w⊢
  obtain ⟨B,r⟩:∃e,QU (p.it.map eR.id) l=e:=⟨_,Z⟩
  rw [r] at w⊢;refine As func71 Z Z ntmps71 Z Z Z λF v=>(AC (AE (V (Bz 1 Z Z Z Z Z Z Z) ?_)));refine AB Z Z (AB Z Z (AB Z Z (AD (AC (AE (J (BE Z Z BM Z Z Z) (V (EX t Z [10,11] ⟨Z,Z,trivial⟩ Z Z Z Z Z Z Z Z Z) (dd Z Z ?_))))))));refine J (Cf Z Z Z) (J (Cf Z Z Z) (AB Z Z (AB Z Z (AD (AC (AC (AE (dd Z Z ?_))))))));refine J (D7 Z Z Z) (AD (D3 Z ((by decide)) (AZ (AC (AE (V (O4 2 Z Z Z Z) (AB Z Z (AD ?_))))))));refine AC (AC (AE (dd Z Z (J (CB Z E0 Z) (dd Z Z (AD (A0 (BX (α:=Nat) (λk=>⟨48,[(7,(.ptr 10 0 0)),(9,(.map 2 0)),(23,(.d (.sl none (l.map AF)))),(24,(.d (AF (l.length:Int)))),(25,(.d (AF (k:Int))))],HA p++ [(2,[BB AF Aa (At (l.take k))])]⟩) (λk=>k<=l.length/\B=Bd (((List.range l.length).drop k).map (HO (p.it.map eR.id) l))) (λk=>l.length - k) (0) (⟨υ _,r.symm⟩) (AY v [10,11,2] Z Z ⟨Z,Z,Z,Z,Z,trivial⟩) ?_))))))));rintro k ⟨A,y⟩;refine AC (AE (J (BN Z Z Z) (AD (AC (Ac Z (λo=>?_) (λo=>?_))))))
  .have f:k<l.length:=Ba o;refine AZ (AC (A0 (AC (AE ?_))));have j:=EI f y;have i:=EQ 0 f;refine J (Bh (k) Z Z (Z) (Ab f) E0 Z BU Z) (J (D2 Z Z Aw Z) (AB Z Z (AD (AC (AC (AE (dd Z Z ?_)))))));refine J (KS Z Z) (J (AU Z Jv Z Z Z) (J (A2 Z Z Z SZ Z) (dd Z Z (J (Mg (CV p.it) l[k] eT Z Z Z Sf HS jU Gj Z) (dd Z Z (J (Cf Z Z Z) (J (Cf Z Z Z) (V (Bn 3 E4 Z Z Z Z) ?_))))))));refine V (B1 Z Z Z Z Z Z Z CY) (AB Z Z (AD (AC (AE (dd Z Z (J (OZ Z Z) (AD (JJ Z (λb=>?_) (λb=>?_)))))))))
   .have g:¬l[k]∈p.it.map eR.id:=by rw [Iy] at b;simpa using b
    refine AC (AE (AB Z Z (AB Z Z (AB Z Z (AD (A4 ?_))))));exact ⟨_,[],[],A3 Z,Z,Z,by rw [j.2 9 (by unfold HO;rw [i,ϱ g]) (by decide)],Z⟩
   .have g:l[k]∈p.it.map eR.id:=by rw [Iy] at b;simpa using b
    refine AZ (AC (AC (AE (dd Z Z (dd Z Z (J (HY (At (l.take k)) (l[k]) (false) _ Z Z Z Ie HS Rd Z Z) (AD (JJ Z (λa=>?_) (λa=>?_)))))))))
    .have c:l[k]∈l.take k:=by rw [XZ] at a;simpa using a
     refine AC (AE (AB Z Z (AB Z Z (AB Z Z (AD (A4 ?_))))));exact ⟨_,[],[],A3 Z,Z,Z,by rw [j.2 7 (by unfold HO;rw [i,θ (λh=>h g),ϱ c]) (by decide)],Z⟩
    .have c:¬l[k]∈l.take k:=by rw [XZ] at a;simpa using a
     refine AZ ?_;refine AE (dd Z Z (dd Z Z (V (UO (At (l.take k)) (l[k]) (true) Z Z Z Ie HS Z Z) (AD (AE (J (Ar Z Z (AO (k+1) (by omega)) Z) (dd Z Z (AD ?_))))))));exact ⟨k+1,⟨by show k+1<=_;omega,j.1 (by unfold HO;rw [i,θ (λh=>h g),θ c])⟩,by show l.length - (k+1)<l.length - k;omega,AY v [10,11,2] Z (by rw [χ f,<-ZT c];rfl) ⟨Z,Z,Z,Z,Z,trivial⟩⟩
  .refine BC ?_;refine AC (AE (dd Z Z (dd Z Z (AB Z Z (AB Z Z (AB Z Z (AD (A4 ?_))))))));exact absurd (by rw [y,List.drop_of_length_le (by have h:=o;simp only [gI];omega)];rfl) w
 .have x:DM p l=A6 p:=ϱ s;have u:=UC p z s;rw [x];refine As func71 Z Z ntmps71 Z Z Z λF v=>(AC (AE (V (Bz 1 Z Z Z Z Z Z Z) (AB Z Z (AB Z Z ?_)))));refine AB Z Z (AD (AC (AE (J (BE Z Z BM Z Z Z) (J (BT (u) Z Z) (dd Z Z (J (C6 Z Z Z) (J (C6 Z Z Z) ?_))))))));refine AB Z Z (AB Z Z (AD (AC (AC (AE (dd Z Z (J (D7 Z Z Z) (AD ?_))))))));refine DO Z ((Υ s)) (AC (AE (dd Z Z (AB Z Z (AB Z Z (AB Z Z (AD (A4 ?_))))))));exact ⟨_,[],[],A3 Z,Z,Z,Z,Z⟩
structure gL where
 i:Int
 m:Int
 r:AM
 deriving DecidableEq
abbrev O9:AM:=⟨0,UH,[],[]⟩
abbrev Om (x:gL):D:= .agg [AF x.i,AF x.m,AF x.r.k,Aj x.r.acc.o,AF x.r.acc.k,Aj x.r.acc.a,Aj x.r.f,Aj x.r.t]
def gm (i:Int) (q:List Int):Nat:=(max (kh i q) 0).toNat
def C8 (i:Int) (q:List Int):List Int:=q.take (gm i q)
def YD (i:Int) (af:List Int):List gL:=(C7 af).map λx=>⟨i,x,O9⟩
def E8 (i:Int) (x:iV):List gL:=(C8 i x.q).map λy=>⟨i,y,x.r⟩
def O3 (p:ee) (i:Int):List gL:=YD i (eo p i).af++(eZ p).flatMap (E8 i)
def Ed (fQ:Int ->Bool) (l:List gL):List gL:=l.filter λb=>!fQ b.m
def fQ (M:List (Int×Bool)) (x:Int):Bool:=A1 M x false
theorem av (i:Int) (q:List Int):gm i q<=q.length:=by grind [gm,kh]
theorem aw (i:Int) (q:List Int):max (kh i q) 0=(gm i q:Int):=by unfold gm;omega
theorem Tv (f:Int ->Bool) (l m:List gL):Ed f (l++m)=Ed f l++Ed f m:=iJ _ _
theorem FM (f:Int ->Bool) (l:List gL):(Ed f l).length<=l.length:=gM _ _
theorem I2 {f:Int ->Bool} {l:List gL} (a:k<l.length):Ed f (l.take (k+1))=Ed f (l.take k)++(if !f l[k].m then [l[k]] else []):=EO a
theorem GN {a:Type} {f:g ->List a} {l:List g} (b:k<l.length):(l.take (k+1)).flatMap f=(l.take k).flatMap f++f l[k]:=by
 rw [χ b,List.flatMap_append];simp
theorem Jr {b c:Type} {f:b ->List c} {n:Nat}:∀{l:List b},(∀x∈l,(f x).length<=n) ->(l.flatMap f).length<=l.length*n
 | [],_=>by simp
 | a::l,h=>by
  have j:=h a (by simp);have i:=Jr (l:=l) (λx g=>h x (by simp [g]));rw [List.flatMap_cons,Δ,i3,i4];omega
theorem cG (x:iV) (b:x∈eZ a):x.q.length<=a.it.length:=by
 unfold eZ at b;obtain ⟨y,_,rfl⟩:=κ.1 b;show (ez (ea a) y.r).length<=_
 grind [ez,DX]
theorem SN (i:Int) (x:iV) (b:x∈eZ a):(E8 i x).length<=a.it.length:=by
 unfold E8 C8;rw [ψ,Ξ];have:=cG x b;omega
abbrev mapV (mv:Nat):AV:= .d (.raw (.map (some mv)))
abbrev jQ (p:ee) (mv:Nat) (bs:Option (List Nat×Nat)) (M:List (Int×Bool)):Hp:=HA p++ [(12,[.map bs (BK AF Aa M)]),(13,[.addr 12 0 (.map (some mv))])]
theorem Vc (p:ee) (g:Nat) (K:Option (List Nat×Nat)) (M:List (Int×Bool)) (i:Int) (hb:EY p) (h1:p.it.length<=1000) (h2:p.ro.length<=1000):AJ prog 127 [.ptr 10 0 0,mapV g,.d (AF i)] (jQ p g K M) λr H'=>r= .d (.sl none ((Ed (fQ M) (O3 p i)).map Om))/\H'=jQ p g K M:=by
 have hI:=Pf p i;have hIb:=Qf hb i;have hLl:=Hi p;have W:=(To (eo p i).af (by omega)).by [(20,21)] rfl;have E:∀x∈eZ p,(E8 i x).length<=1000:=λx N=>fO (SN i x N) h1;have B:=Eg (eo p i).af
 obtain ⟨S,X⟩:∃S,C7 (eo p i).af=S:=⟨_,Z⟩
 have C:O3 p i=(S.map λx=>(⟨i,x,O9⟩:gL))++(eZ p).flatMap (E8 i):=by unfold O3 YD;rw [X]
 rw [C];rw [X] at B;refine As func127 Z Z ntmps127 Z Z Z λF s=>(AC ?_);refine AE (AB Z Z (AD (AC (AE (AB Z Z (AD (AC (Ou 7 900 Mj Z Z Z Z ?_))))))));refine AE (dd Z Z (J (KS Z Z) (J (AU Z Jv Z Z Z) (J (A2 Z Z Z SZ Z) (dd Z Z (J (Rz (CV p.it) i eT (eo p i) Z Z Z Sf HS jU Gj hI Z) (J (Uf Z Do Z Z) (V (EX W Z [21] ⟨Z,trivial⟩ Z Z Z Z Z Z Z Z Z) ?_))))))));refine AB Z Z (AD (AC (AE (dd Z Z (V (Rv nK (eo p i).af (by omega) Z Z Z Z Z Z Z) (AD (AC (AC ?_))))))));rw [X];refine Ls (emb:=AF) 8 21 S Z Z Z B.symm Z Z Z (AE (dd Z Z (J (CB Z E0 Z) (dd Z Z (AD (A0 (BX (α:=Nat×List gL) (λq=>⟨81,[(0,.ptr 10 0 0),(1,mapV g),(2,.d (AF i)),(7,(.own 900 0 q.2.length)),(26,(.d (.sl none (S.map AF)))),(27,(.d (AF (S.length:Int)))),(28,(.d (AF (q.1:Int))))],jQ p g K M++ [(900,[.rowD 144 8 (q.2.map Om)])]⟩) (λq=>q.1<=S.length/\q.2=Ed (fQ M) ((S.map λx=>(⟨i,x,O9⟩:gL)).take q.1)) (λq=>S.length - q.1) ((0,[])) (⟨υ _,Z⟩) (AY s [10,11,12,13,900] Z Z ⟨Z,Z,Z,Z,Z,Z,Z,trivial⟩) ?_)))))));rintro ⟨k,c⟩ ⟨Q,I⟩;dsimp only at Q I⊢;refine AC (AE (J (BN Z Z Z) (AD (AC (Ac Z (λA=>?_) (λA=>?_))))))
 .have t:k<S.length:=Ba A;refine AZ (AC (A0 (AC (AE (J (Bh (k) Z Z (Z) (Ab t) E0 Z BU Z) (J (D2 Z Z Aw Z) (AB Z Z (AD ?_))))))));refine AC (AE (dd Z Z (DY 32 13 0 Z Z (dd Z Z (J (HY M S[k] false (fQ M S[k]) Z Z Z Ie HS Rd Z Z) (J (OZ Z Z) (AD (JJ Z (λz=>?_) (λz=>?_)))))))))
  .refine AE ?_;have hal:c.length<=100000:=by rw [I];refine fO (FM _ _) ?_;rw [Ξ,ψ];omega
   refine dd Z Z (dd Z Z (dd Z Z ?_));refine J (Fe Z1 nB Z Z Z) (V (D6 1 Mj Z Z Z Z Z Z Z Z) (V (H1 (c) ([⟨i,S[k],O9⟩]) Z Z Z Z Z Z Z Z Mj (by simp only [Φ];omega) Z Z Z Z) (AB Z Z (AD (AE (J (Ar Z Z (AO (k+1) (by omega)) Z) (dd Z Z (AD ?_))))))));exact ⟨(k+1,c++ [⟨i,S[k],O9⟩]),⟨by show k+1<=_;omega,by show c++ [⟨i,S[k],O9⟩]=Ed (fQ M) ((S.map λx=>(⟨i,x,O9⟩:gL)).take (k+1));rw [I2 (by simpa using t),ft,ϱ (by show (!fQ M S[k])=true;simpa using z),I]⟩,by show S.length - (k+1)<S.length - k;omega,AY s [10,11,12,13,900] Z (Z) ⟨Z,Z,Z,Z,Z,Z,Z,trivial⟩⟩
  .refine AZ (AE (J (Ar Z Z (AO (k+1) (by omega)) Z) (dd Z Z (AD ?_))));exact ⟨(k+1,c),⟨by show k+1<=_;omega,by show c=Ed (fQ M) ((S.map λx=>(⟨i,x,O9⟩:gL)).take (k+1));rw [I2 (by simpa using t),ft,θ (by show ¬(!fQ M S[k])=true;simpa using z),gN,I]⟩,by show S.length - (k+1)<S.length - k;omega,AY s [10,11,12,13,900] Z (Z) ⟨Z,Z,Z,Z,Z,Z,Z,trivial⟩⟩
 .refine BC (AC (AC ?_));have H:c=Ed (fQ M) (S.map λx=>(⟨i,x,O9⟩:gL)):=by rw [I,ς (by rw [ψ];have h:=A;omega)]
  have hal1:c.length<=100000:=by rw [H];refine fO (FM _ _) ?_;rw [ψ];omega
  refine AE ?_;refine dd Z Z (J (KS Z Z) (J (AU Z Ju Z Z Z) (J (A2 Z Z Z WX Z) (J (CB Z underlying227 Z) (dd Z Z (AD (A0 (BX (α:=Nat×List gL) (λq=>⟨81,[(0,.ptr 10 0 0),(1,mapV g),(2,.d (AF i)),(7,(.own 900 0 q.2.length)),(46,(.d (.sl none ((eZ p).map NU)))),(47,(.d (AF ((eZ p).length:Int)))),(48,(.d (AF (q.1:Int))))],jQ p g K M++ [(900,[.rowD 144 8 (q.2.map Om)])]⟩) (λq=>q.1<=(eZ p).length/\q.2=c++Ed (fQ M) (((eZ p).take q.1).flatMap (E8 i))) (λq=>(eZ p).length - q.1) ((0,c)) (⟨υ _,by simp [Ed]⟩) (AY s [10,11,12,13,900] Z Z ⟨Z,Z,Z,Z,Z,Z,Z,trivial⟩) ?_))))))));rintro ⟨m,b⟩ ⟨O,L⟩;dsimp only at O L⊢;refine AC (AE (J (BN Z Z Z) (AD (AC (Ac Z (λy=>?_) (λy=>?_))))))
  .have o:m<(eZ p).length:=Ba y;refine AZ (AC (A0 (AC (AE ?_))));have hql:=cG _ (ξ o);have T:=Jr (f:=E8 i) (n:=1000) (l:=(eZ p).take m) (λx N=>E x (gk N));have hbl:b.length<=1200000:=by rw [L,Δ];have:=FM (fQ M) (((eZ p).take m).flatMap (E8 i));rw [Ξ] at T;have h3:min m (eZ p).length*1000<=1000*1000:=gz _ (by omega);omega
   refine J (Bh (m) Z Z (Z) (Ab o) underlying227 Z Vy Z) (J (GW Z Z ms Z) (V (Bn 2 ZY Z Z Z Z) (V (B1 Z Z Z Z Z Z Z Vy) (AD (AC (AE ?_))))));refine J (AU Z Wu Z Z Z) (J (A2 Z Z Z BG Z) (dd Z Z (J (BT (Wr (eZ p)[m].q i (by omega)) Z Z) (AB Z Z (AD (AC (AE (J (AU Z Wu Z Z Z) ?_))))))));refine J (A2 Z Z Z BG Z) (dd Z Z (J (QQ Z Z (sS _) Z) (J (LW ((eZ p)[m].q) (gm i (eZ p)[m].q) Z Z Z (aw _ _) (av _ _) E0 BU (λ_=>rfl) Z) (J (CB Z E0 Z) (dd Z Z (AD (A0 (BX (α:=Nat×List gL) (λq=>⟨81,[(0,.ptr 10 0 0),(1,mapV g),(2,.d (AF i)),(7,(.own 900 0 q.2.length)),(12,(.ptr 2 0 0)),(46,(.d (.sl none ((eZ p).map NU)))),(47,(.d (AF ((eZ p).length:Int)))),(48,(.d (AF (m:Int)))),(60,(.d (.sl none ((C8 i (eZ p)[m].q).map AF)))),(61,(.d (AF ((C8 i (eZ p)[m].q).length:Int)))),(62,(.d (AF (q.1:Int))))],jQ p g K M++ [(900,[.rowD 144 8 (q.2.map Om)]),(2,[.blk 233 [.d (AF (eZ p)[m].r.k),.d (Aj (eZ p)[m].r.acc.o),.d (AF (eZ p)[m].r.acc.k),.d (Aj (eZ p)[m].r.acc.a),.d (Aj (eZ p)[m].r.f),.d (Aj (eZ p)[m].r.t),.d (AF (eZ p)[m].n),.d (.sl none ((eZ p)[m].q.map AF))]])]⟩) (λq=>q.1<=(C8 i (eZ p)[m].q).length/\q.2=b++Ed (fQ M) ((E8 i (eZ p)[m]).take q.1)) (λq=>(C8 i (eZ p)[m].q).length - q.1) ((0,b)) (⟨υ _,by simp [Ed]⟩) (AY s [10,11,12,13,900,2] Z Z ⟨Z,Z,Z,Z,Z,Z,Z,Z,Z,Z,Z,trivial⟩) ?_))))))));rintro ⟨j,a⟩ ⟨R,G⟩;dsimp only at R G⊢;refine AC (AE (J (BN Z Z Z) (AD (AC (Ac Z (λw=>?_) (λw=>?_))))))
   .have u:j<(C8 i (eZ p)[m].q).length:=Ba w;refine AZ (AC (A0 (AC (AE (J (Bh (j) Z Z (Z) (Ab u) E0 Z BU Z) (J (D2 Z Z Aw Z) (AB Z Z (AD ?_))))))));refine AC (AE (dd Z Z (DY 66 13 0 Z Z (dd Z Z (J (HY M (C8 i (eZ p)[m].q)[j] false (fQ M (C8 i (eZ p)[m].q)[j]) Z Z Z Ie HS Rd Z Z) (J (OZ Z Z) (AD (JJ Z (λv=>?_) (λv=>?_)))))))))
    .refine AE ?_;have Y:a.length<=1300000:=by rw [G,Δ];have h3:=FM (fQ M) ((E8 i (eZ p)[m]).take j);have h4:=E _ (ξ o);rw [Ξ] at h3;omega
     refine dd Z Z (dd Z Z (dd Z Z (J (AU Z Jt Z Z Z) (J (BE Z Z CQ Z Z Z) ?_))));refine J (Fe Z1 nB Z Z Z) (V (D6 3 Mj Z Z Z Z Z Z Z Z) (V (H1 (a) ([⟨i,(C8 i (eZ p)[m].q)[j],(eZ p)[m].r⟩]) Z Z Z Z Z Z Z Z Mj (by simp only [Φ];omega) Z Z Z Z) (AB Z Z (AD (AE (J (Ar Z Z (AO (j+1) (by have h5:(C8 i (eZ p)[m].q).length<=1000:=by {unfold C8;rw [Ξ];omega};omega)) Z) (dd Z Z (AD ?_))))))));exact ⟨(j+1,a++ [⟨i,(C8 i (eZ p)[m].q)[j],(eZ p)[m].r⟩]),⟨by show j+1<=_;omega,by show a++ [⟨i,(C8 i (eZ p)[m].q)[j],(eZ p)[m].r⟩]=b++Ed (fQ M) ((E8 i (eZ p)[m]).take (j+1));rw [I2 (by unfold E8;simpa using u),G,io];congr 2;unfold E8;rw [ft,ϱ (by show (!fQ M (C8 i (eZ p)[m].q)[j])=true;simpa using v)]⟩,by show (C8 i (eZ p)[m].q).length - (j+1)<(C8 i (eZ p)[m].q).length - j;omega,AY s [10,11,12,13,900,2] Z (Z) ⟨Z,Z,Z,Z,Z,Z,Z,Z,Z,Z,Z,trivial⟩⟩
    .refine AZ (AE (J (Ar Z Z (AO (j+1) (by have h5:(C8 i (eZ p)[m].q).length<=1000:=by {unfold C8;rw [Ξ];omega};omega)) Z) (dd Z Z (AD ?_))));exact ⟨(j+1,a),⟨by show j+1<=_;omega,by show a=b++Ed (fQ M) ((E8 i (eZ p)[m]).take (j+1));rw [I2 (by unfold E8;simpa using u),G];unfold E8;rw [ft,θ (by show ¬(!fQ M (C8 i (eZ p)[m].q)[j])=true;simpa using v),gN]⟩,by show (C8 i (eZ p)[m].q).length - (j+1)<(C8 i (eZ p)[m].q).length - j;omega,AY s [10,11,12,13,900,2] Z (Z) ⟨Z,Z,Z,Z,Z,Z,Z,Z,Z,Z,Z,trivial⟩⟩
   .have D:a=b++Ed (fQ M) (E8 i (eZ p)[m]):=by rw [G,ς (by unfold E8;rw [ψ];have h:=w;omega)]
    refine BC (AE (J (Ar Z Z (AO (m+1) (by omega)) Z) (dd Z Z (AD ?_))));exact ⟨(m+1,a),⟨by show m+1<=_;omega,by show a=c++Ed (fQ M) (((eZ p).take (m+1)).flatMap (E8 i));rw [GN o,Tv,<-io,<-L];exact D⟩,by show (eZ p).length - (m+1)<(eZ p).length - m;omega,AY s [10,11,12,13,900] Z (Z) ⟨Z,Z,Z,Z,Z,Z,Z,trivial⟩⟩
  .refine BC (AC ?_);have U:b=Ed (fQ M) ((S.map λx=>(⟨i,x,O9⟩:gL))++(eZ p).flatMap (E8 i)):=by rw [L,H,ς (by have h:=y;omega),Tv]
   refine Ls (emb:=Om) 7 900 b Z Z Z Z Z Z Z (AE (dd Z Z (AB Z Z (AD (A4 ?_)))));exact ⟨_,[10,11,12,13],_,A3 Z,Z,Z,by rw [U],Z⟩
def JI (p:ee) (f:Int ->Bool) (i:Int):List gL:=if f i then Ed f (O3 p i) else []
def fK (p:ee) (f:Int ->Bool):List gL:=(IA p).flatMap (JI p f)
theorem QX (c:EY a) (g:a.it.length<=1000) (k:a.ro.length<=1000) (i:Int):(O3 a i).length<=1100000:=by
 unfold O3 YD;rw [Δ,ψ,Eg];have j:=Qf c i;have h:=Jr (f:=E8 i) (n:=1000) (l:=eZ a) (λx b=>fO (SN i x b) g)
 grind [Hi]
theorem Tw (b:EY a) (g:a.it.length<=1000) (c:a.ro.length<=1000) (f:Int ->Bool) (i:Int):(JI a f i).length<=1100000:=by grind [JI,FM,QX]
theorem kc {a N:Nat} (h:a<=k*N):a<=(k+1)*N:=fO h (gz _ (Nat.le_succ _))
theorem cL {a b:List g} {N:Nat} (h:a.length<=k*N) (c:b.length<=N):(a++b).length<=(k+1)*N:=by grind
theorem dg (p:ee) (g:Nat) (u:Option (List Nat×Nat)) (M:List (Int×Bool)) (o:EY p) (l:p.it.length<=1000) (t:p.ro.length<=1000):AJ prog 72 [.ptr 10 0 0,mapV g] (jQ p g u M) λr C=>r= .d (.sl none ((fK p (fQ M)).map Om))/\C=jQ p g u M:=by
 have B:∀i,(JI p (fQ M) i).length<=1100000:=Tw o l t _;have j:(IA p).length<=1000:=by unfold IA;rw [ψ];exact fO (DX p) l
 have x:fK p (fQ M)=(IA p).flatMap (JI p (fQ M)):=rfl;rw [x];refine As func72 Z Z ntmps72 Z Z Z λF z=>(AC (AE (AB Z Z ?_)));refine AD (AC (AE (AB Z Z (AD (AC (AC (Ou 5 900 Mj Z Z Z Z (AE ?_))))))));refine dd Z Z (J (KS Z Z) (J (AU Z lC Z Z Z) (J (A2 Z Z Z BG Z) (J (CB Z E0 Z) (dd Z Z (AD (A0 (BX (α:=Nat×List gL) (λq=>⟨28,[(0,.ptr 10 0 0),(1,mapV g),(5,(.own 900 0 q.2.length)),(11,(.d (.sl none ((IA p).map AF)))),(12,(.d (AF ((IA p).length:Int)))),(13,(.d (AF (q.1:Int))))],jQ p g u M++ [(900,[.rowD 144 8 (q.2.map Om)])]⟩) (λq=>q.1<=(IA p).length/\q.2=((IA p).take q.1).flatMap (JI p (fQ M))/\q.2.length<=q.1*1100000) (λq=>(IA p).length - q.1) ((0,[])) (⟨υ _,Z,ϖ _⟩) (AY z [10,11,12,13,900] Z Z ⟨Z,Z,Z,Z,Z,Z,trivial⟩) ?_))))))));rintro ⟨k,a⟩ ⟨v,s,y⟩;dsimp only at v s y⊢;refine AC (AE (J (BN Z Z Z) (AD (AC (Ac Z (λf=>?_) (λf=>?_))))))
 .have b:k<(IA p).length:=Ba f;refine AZ (AC (A0 (AC (AE (J (Bh (k) Z Z (Z) (Ab b) E0 Z BU Z) (J (D2 Z Z Aw Z) (AB Z Z ?_)))))));refine AD (AC (AE (dd Z Z (DY 17 13 0 Z Z (dd Z Z (J (HY M (IA p)[k] false (fQ M (IA p)[k]) Z Z Z Ie HS Rd Z Z) (AD (JJ Z (λc=>?_) (λc=>?_)))))))))
  .refine AE (dd Z Z (dd Z Z (dd Z Z (dd Z Z (V (EX (Vc p g u M (IA p)[k] o l t) Z [10,11,12,13] ⟨Z,Z,Z,Z,trivial⟩ Z Z Z Z Z Z Z Z Z) ?_)))));have A:=fO (FM (fQ M) _) (QX o l t (IA p)[k]);refine V (Ex (a) (Ed (fQ M) (O3 p (IA p)[k])) Z Z Z Z Z Z (λ_=>rfl) Mj (by omega) Z Z Z Z) (AB Z Z (AD (AE (J (Ar Z Z (AO (k+1) (by have h:=j;omega)) Z) (dd Z Z (AD ?_))))));exact ⟨(k+1,a++Ed (fQ M) (O3 p (IA p)[k])),⟨by show k+1<=_;omega,by show a++Ed (fQ M) (O3 p (IA p)[k])=((IA p).take (k+1)).flatMap (JI p (fQ M));rw [GN b,<-s];unfold JI;rw [ϱ (by simpa using c)],cL y (fO (FM (fQ M) _) (QX o l t (IA p)[k]))⟩,by show (IA p).length - (k+1)<(IA p).length - k;omega,AY z [10,11,12,13,900] Z (Z) ⟨Z,Z,Z,Z,Z,Z,trivial⟩⟩
  .refine AZ (AE (J (Ar Z Z (AO (k+1) (by have h:=j;omega)) Z) (dd Z Z (AD ?_))));exact ⟨(k+1,a),⟨by show k+1<=_;omega,by show a=((IA p).take (k+1)).flatMap (JI p (fQ M));rw [GN b,<-s];unfold JI;rw [θ (by simpa using c),gN],kc y⟩,by show (IA p).length - (k+1)<(IA p).length - k;omega,AY z [10,11,12,13,900] Z (Z) ⟨Z,Z,Z,Z,Z,Z,trivial⟩⟩
 .refine BC (AC ?_);have w:a=(IA p).flatMap (JI p (fQ M)):=by rw [s,ς (by have h:=f;omega)]
  refine Ls (emb:=Om) 5 900 a Z Z Z Z Z Z Z (AE (dd Z Z (AB Z Z (AD (A4 ?_)))));exact ⟨_,[10,11,12,13],_,A3 Z,Z,Z,by rw [w],Z⟩
def cl (p:ee) (r:AM) (l:List (Int×Bool)):Int:=(l.map λe=>if e.2=true then Be (eo p e.1) r else 0).sum
theorem KZ {r:AM} {m:List (Int×Bool)} (h:c.Perm m):cl a r c=cl a r m:=bJ h _
theorem X7 (p:ee) (r:AM) (e:Int×Bool) (l:List (Int×Bool)):cl p r (e::l)=(if e.2=true then Be (eo p e.1) r else 0)+cl p r l:=by simp [cl]
theorem M6 (p:ee) (r:AM) (k:Int) (v:Bool) (l:List (Int×Bool)):cl p r ((k,v)::l)=(if v=true then Be (eo p k) r else 0)+cl p r l:=X7 p r (k,v) l
theorem Tr (h:DM a f=0):A6 a=0:=by grind [DM]
theorem dQ (i:eR) (r:AM): -1000000000000000<=Be i r/\Be i r<=1000000000000000:=by
 unfold Be
 split
 all_goals (simp [*,MU])
theorem U3 (p:ee) (r:AM) (h:c.length<=1000): -1000000000000000000<=cl p r c/\cl p r c<=1000000000000000000:=by
 have:=PD (l:=c) (f:=λe=>if e.2=true then Be (eo p e.1) r else 0) (B:=1000000000000000) (λe _=>by
  show _<=(if e.2=true then _ else _)/\_;have:=dQ (eo p e.1) r
  split<;>omega) 1000 h (by omega)
 unfold cl;omega
def Rl (p:ee) (M:List (Int×Bool)) (x:iV):List eY:=if x.n+cl p x.r M<0 then [⟨x.r,0 - (x.n+cl p x.r M)⟩] else []
def Ll (p:ee) (M:List (Int×Bool)):List eY:=(eZ p).flatMap (Rl p M)
theorem cH (f:A6 a=0) (x:iV) (b:x∈eZ a):0<=x.n/\x.n<=4000000000000000:=by
 unfold eZ at b;obtain ⟨y,c,rfl⟩:=κ.1 b;have:=IK (HX f).1 y ((Kv a.ro).mem_iff.1 c);show 0<=max y.n 0/\max y.n 0<=_;omega
abbrev tM (p:ee) (mv:Nat) (M:List (Int×Bool)):Hp:=HA p++ [(12,[BB AF Aa M]),(13,[.addr 12 0 (.map (some mv))])]
theorem QK (p:ee) (j:Nat) (M:List (Int×Bool)) (Q:A6 p=0) (E:EY p) (D:M.length<=1000):AJ prog 74 [.ptr 10 0 0,mapV j] (tM p j M) λr X=>r= .d (.sl none ((Ll p M).map Bt))/\X=tM p j M:=by
 have S:=E.1;have T:=Hi p;refine As func74 Z Z ntmps74 Z Z Z λF t=>(AC (AE (AB Z Z ?_)));refine AD (AC (AE (AB Z Z (AD (AC (AC (Ou 5 900 ny Z Z Z Z (AE ?_))))))));refine dd Z Z (J (KS Z Z) (J (AU Z Ju Z Z Z) (J (A2 Z Z Z WX Z) (J (CB Z underlying227 Z) (dd Z Z (AD (A0 (BX (α:=Nat×List eY) (λq=>⟨53,[(0,.ptr 10 0 0),(1,mapV j),(5,(.own 900 0 q.2.length)),(14,(.d (.sl none ((eZ p).map NU)))),(15,(.d (AF ((eZ p).length:Int)))),(16,(.d (AF (q.1:Int))))],tM p j M++ [(900,[.rowD 73 7 (q.2.map Bt)])]⟩) (λq=>q.1<=(eZ p).length/\q.2=((eZ p).take q.1).flatMap (Rl p M)/\q.2.length<=q.1) (λq=>(eZ p).length - q.1) ((0,[])) (⟨υ _,Z,ϖ _⟩) (AY t [10,11,12,13,900] Z Z ⟨Z,Z,Z,Z,Z,Z,trivial⟩) ?_))))))));rintro ⟨k,a⟩ ⟨A,y,U⟩;dsimp only at A y U⊢;refine AC (AE (J (BN Z Z Z) (AD (AC (Ac Z (λs=>?_) (λs=>?_))))))
 .have g:k<(eZ p).length:=Ba s;refine AZ (AC (A0 (AC (AE ?_))));have I:=cH Q _ (ξ g);refine J (Bh (k) Z Z (Z) (Ab g) underlying227 Z Vy Z) (J (GW Z Z ms Z) ?_);refine V (Bn 1 ZY Z Z Z Z) (V (B1 Z Z Z Z Z Z Z Vy) (AD (AC (AE (J (AU Z lB Z Z Z) (J (A2 Z Z Z Km Z) (AB Z Z (AD ?_))))))));refine AC (AC (AE (dd Z Z (DY 22 13 0 Z Z (V (Fy 2 Z Z Z Ie Z Z Z Z) (AD (A0 (BX (α:=List Nat×Int) (λq=>⟨53,[(0,.ptr 10 0 0),(1,mapV j),(5,(.own 900 0 a.length)),(7,(.ptr 1 0 0)),(8,(.d (AF q.2))),(14,(.d (.sl none ((eZ p).map NU)))),(15,(.d (AF ((eZ p).length:Int)))),(16,(.d (AF (k:Int)))),(23,(.ptr 2 0 0))],tM p j M++ [(900,[.rowD 73 7 (a.map Bt)]),(1,[.blk 233 [.d (AF (eZ p)[k].r.k),.d (Aj (eZ p)[k].r.acc.o),.d (AF (eZ p)[k].r.acc.k),.d (Aj (eZ p)[k].r.acc.a),.d (Aj (eZ p)[k].r.f),.d (Aj (eZ p)[k].r.t),.d (AF (eZ p)[k].n),.d (.sl none ((eZ p)[k].q.map AF))]]),(2,[.iter 12 0 M.length q.1])]⟩) (λq=>q.2+cl p (eZ p)[k].r (Bi M (List.range M.length) q.1)=(eZ p)[k].n+cl p (eZ p)[k].r M) (λq=>(Bi M (List.range M.length) q.1).length) (([],(eZ p)[k].n)) (by show (eZ p)[k].n+cl p (eZ p)[k].r (Bi M (List.range M.length) [])=_;rw [mH (by simp)]) (AY t [10,11,12,13,900,1,2] Z Z ⟨Z,Z,Z,Z,Z,Z,Z,Z,Z,trivial⟩) ?_))))))));rintro ⟨seen,left⟩ x;dsimp only at x⊢;refine AC (AE (Kn (M) Z Z Z Z (λv=>?_) (λz c b H u w G f=>⟨_,Z,?_⟩)))
  .have i:left=(eZ p)[k].n+cl p (eZ p)[k].r M:=by have W:=x;rw [v] at W;have Y:cl p (eZ p)[k].r []=0:=rfl;omega
   refine J (Cf Z Z Z) (AD ?_);refine AC (D3 Z Z (BC (AC (AE (dd Z Z (J (BN Z Z Z) (AD (Ac Z (λl=>?_) (λl=>?_)))))))))
   .refine AE ?_;have K:=U3 p (eZ p)[k].r D;refine dd Z Z (J (AU Z Jt Z Z Z) (J (BE Z Z CQ Z Z Z) (dd Z Z (J (aB Z (Ω _ (by omega)) Z) ?_))));refine J (Fe tO tm Z Z Z) (V (D6 3 ny Z Z Z Z Z Z Z Z) (V (H1 (a) ([⟨(eZ p)[k].r,0 - left⟩]) Z Z Z Z Z Z Z Z ny (by simp only [Φ];omega) Z Z Z Z) (AB Z Z (AD (AE (J (Ar Z Z (AO (k+1) (by omega)) Z) (dd Z Z (AD ?_))))))));exact ⟨(k+1,a++ [⟨(eZ p)[k].r,0 - left⟩]),⟨by show k+1<=_;omega,by show a++ [⟨(eZ p)[k].r,0 - left⟩]=((eZ p).take (k+1)).flatMap (Rl p M);rw [GN g,<-y];unfold Rl;rw [<-i,ϱ (by simpa using l)],by show (a++ [_]).length<=k+1;rw [Δ];simp;omega⟩,by show (eZ p).length - (k+1)<(eZ p).length - k;omega,AY t [10,11,12,13,900] Z (Z) ⟨Z,Z,Z,Z,Z,Z,trivial⟩⟩
   .refine AZ (AE (J (Ar Z Z (AO (k+1) (by omega)) Z) (dd Z Z (AD ?_))));exact ⟨(k+1,a),⟨by show k+1<=_;omega,by show a=((eZ p).take (k+1)).flatMap (Rl p M);rw [GN g,<-y];unfold Rl;rw [<-i,θ (by simpa using l),gN],by show a.length<=k+1;omega⟩,by show (eZ p).length - (k+1)<(eZ p).length - k;omega,AY t [10,11,12,13,900] Z (Z) ⟨Z,Z,Z,Z,Z,Z,trivial⟩⟩
  .refine J (Cf Z Z Z) ?_;refine AD (AC (DO Z Z (AZ (A0 (AC (AE (J (Fz (M) z c Z Z Z u w Z) (J (Cf Z Z Z) ?_))))))));refine J (Cf Z Z Z) (AB Z Z (AB Z Z (AD (AC (AE (dd Z Z (AD (JJ Z (λo=>?_) (λo=>?_)))))))))
   .refine DB [[],[],[1],[1,2],[1,2,3],[],[1,2,3,4,5],[],[7],[1,2,3,4,5,6,7,8],rg 10,rg 11] mixed Z (DP ?_);have R:=Qf E b;have O:=U3 p (eZ p)[k].r D;have N:=U3 p (eZ p)[k].r (fO (Wk (m:=M) (B:=List.range M.length) (seen:=seen)) D);have L:=dQ (eo p b) (eZ p)[k].r;refine Av 8 Z Z (Av 0 Z Z (AQ [31] Z (KS Z Z) (AQ [32] Z (AU Z Jv Z Z Z) (Az [33] Z Z (λ_=>A5 (A2 Z Z Z SZ Z)) ?_))));refine Av 9 Z Z (Az [34,35] Z Z (λ_=>A5 (Rz (CV p.it) b eT (eo p b) Z Z Z Sf HS jU Gj (Pf p b) Z)) (AQ [7] Z (AU Z Jt Z Z Z) (Az [37] Z Z (λ_=>A5 (BE Z Z CQ Z Z Z)) (AQ [36,38] Z (BT (XD (eo p b) (eZ p)[k].r (by omega) (by omega) (by omega)) Z Z) (Cg 10 Z Z Z (Ag 11 Z Z (J (Ar Z Z (Ω _ (by omega)) Z) (AD ⟨Z,?_⟩))))))));refine Ag 12 Z Z (AB Z Z (AD ⟨Z,?_⟩));refine Cr ?_;exact ⟨(seen++ [c],left+Be (eo p b) (eZ p)[k].r),(by show left+Be (eo p b) (eZ p)[k].r+cl p (eZ p)[k].r (Bi M (List.range M.length) (seen++ [c]))=_;rw [<-x,KZ f,M6,ϱ (by simpa using o)];omega),by show (Bi M (List.range M.length) (seen++ [c])).length<(Bi M (List.range M.length) seen).length;rw [f.length_eq];exact iC _,AY t [10,11,12,13,900,1,2] Z (Z) ⟨Z,Z,Z,Z,Z,Z,Z,Z,Z,trivial⟩⟩
   .refine AZ ?_;exact ⟨(seen++ [c],left),(by show left+cl p (eZ p)[k].r (Bi M (List.range M.length) (seen++ [c]))=_;rw [<-x,KZ f,M6,θ (by simpa using o)];omega),by show (Bi M (List.range M.length) (seen++ [c])).length<(Bi M (List.range M.length) seen).length;rw [f.length_eq];exact iC _,AY t [10,11,12,13,900,1,2] Z (Z) ⟨Z,Z,Z,Z,Z,Z,Z,Z,Z,trivial⟩⟩
 .refine BC (AC ?_);have C:a=Ll p M:=by rw [y,ς (by have h:=s;omega)];rfl
  refine Ls (emb:=Bt) 5 900 a Z Z Z Z Z Z Z (AE (dd Z Z (AB Z Z (AD (A4 ?_)))));exact ⟨_,[10,11,12,13],_,A3 Z,Z,Z,by rw [C],Z⟩
def Jn (l:List Int) (x:Int):Bool:=decide (x∈l)
theorem jW (p:ee) (l:List Int) (g:EY p) (h:l.length<=1000):AK prog 28 [.d (Bf p),.d (.sl none (l.map AF))] (.tup [.sl none ((if DM p l=0 then Ll p (At l) else []).map Bt),AF (DM p l)]):=by
 by_cases b:DM p l=0
 have a:=(Mt p l g (by omega) b).by [(2,12)] rfl;have j:=Tr b;rw [ϱ b,b];have f:=λc=>QK p c (At l) j g (by unfold At;rw [ψ];exact h);refine As func28 Z Z ntmps28 Z Z Z λF i=>(AC (AE (V (Bz 1 Z Z Z Z Z Z Z) (AB Z Z (AB Z Z (AD (AC (AE ?_))))))));refine J (BE Z Z BM Z Z Z) (dd Z Z (V (EX a Z [10,11,12] ⟨Z,Z,Z,trivial⟩ Z Z Z Z Z Z Z Z Z) (dd Z Z (J (Cf Z Z Z) (J (Cf Z Z Z) (J (Cf Z Z Z) (AB Z Z (AB Z Z ?_))))))));refine AB Z Z (AD (AC (AC (AE (dd Z Z (J (D7 Z Z Z) (AD (D3 Z ((by decide)) ?_))))))));refine AZ (AC (UL 13 12 0 Z Z Z Z Z λc=>(XO 7 13 0 (.inl Z) Z (AE (dd Z Z (dd Z Z (V (EX (f c) Z [10,11,12,13] ⟨Z,Z,Z,Z,trivial⟩ Z Z Z Z Z Z Z Z Z) (AB Z Z ?_))))))))
 rotate_left
 have a:=SP p l g (by omega) b;rw [θ b];refine As func28 Z Z ntmps28 Z Z Z λF i=>(AC (AE (V (Bz 1 Z Z Z Z Z Z Z) (AB Z Z (XY 4 Z ?_)))));refine AB Z Z (AD (AC (AE (J (BE Z Z BM Z Z Z) (dd Z Z (J (BT (a) Z Z) (dd Z Z (J (C6 Z Z Z) ?_))))))));refine J (C6 Z Z Z) (J (C6 Z Z Z) (AB Z Z (AB Z Z (AB Z Z (AD (AC (AC (AE ?_))))))));refine dd Z Z (J (D7 Z Z Z) (AD (DO Z ((Υ b)) (AC (AE (dd Z Z (AB Z Z (XY 4 Z ?_))))))))
 all_goals
  refine AB Z Z (AD (A4 ?_));exact ⟨_,[],[],A3 Z,Z,Z,Z,Z⟩
theorem PC.le {a:Type} {c:a ->a ->Int} (h:PC c) {x y z:a} (i:c x y<=0) (b:c y z<=0):c x z<=0:=by
 by_cases g:c x y=0
 .rw [h.eqv x y z g];exact b
 .by_cases j:c y z=0
  .have r:=h.anti y z;have f:c z y=0:=by omega
   have o:=h.eqv z y x f;have l:=h.anti z x;have k:=h.anti y x;omega
  .have:=h.trans x y z (by omega) (by omega);omega
theorem l6 {a b:Int}:¬FV b a<0↔a<=b:=by unfold FV;split<;>(try split)<;>omega
theorem SD {c:List Int} (h:c.Perm f) (g:c.Pairwise λa b=>¬FV b a<0):c=C7 f:=by grind [List.Perm.eq_of_pairwise,JU,Ct,FV]
structure PV (p:ee):Prop where
 e:A6 p=0
 b:EY p
 i:p.it.length<=1000
 r:p.ro.length<=1000
 q:∀i∈p.it,i.po.length<=1000/\i.pa.length<=1000/\i.af.length<=1000
abbrev rE (n:Nat):D:= .raw (.int .u32 (n:Int))
structure iu where
 ids:List Int
 bl:List Nat
 de:List (List Int)
 rm:List Int
abbrev tc (l:List Int):D:= .sl none (l.map AF)
abbrev rS (s:iu):D:= .agg [.sl none (s.ids.map AF),.sl none (s.bl.map rE),.sl none (s.de.map tc),.sl none (s.rm.map AF)]
def uO (s:iu) (x:Nat) (i:Nat):Bool:=x.testBit i && decide (un (s.bl.getD i 0) x≠0)
def gy (s:iu) (x:Nat):Bool:=!(List.range s.bl.length).any (uO s x)
def fN (s:iu) (x:Nat):List Int:=((List.range s.ids.length).filter λi=>x.testBit i).map λi=>s.ids.getD i 0
def gY (n:Nat):Nat ->Nat ->Nat ->List Nat
 | 0,_,x=> [x]
 | l+1,frm,x=>((List.range (n+1 - (l+1) - frm)).map (frm+ ·)).flatMap λi=>gY n l (i+1) (x ||| 1<<<i)
section
variable {β:Type} (step:β ->Nat ->β×Bool)
end
section
variable {β:Type}
def dw (s:iu):List Nat:=(List.range (s.ids.length+1)).flatMap λk=>(gY s.ids.length k 0 0).filter (gy s)
end
variable {a:ee} {M:List (Int×Bool)} {c:List AM} {E:List (eR×Nat)} {S C:List Int} {f:gL} {g:Nat ->Nat} {h:AM} {x:Int} {i:eR} {j:Int ->Bool} {k:Int} {o s:Nat}
def tU (p:ee):List Int:=C7 (IA p)
theorem Ki (b:A6 a=0):(IA a).Perm (a.it.map eR.id):=by grind [IA,ea,I9]
theorem aM (b:A6 a=0):(tU a).Perm (a.it.map eR.id):=(Ct _).trans (Ki b)
theorem WJ (b:A6 a=0) (x:Int):x∈tU a↔x∈a.it.map eR.id:=(aM b).mem_iff
theorem oH (l:A6 a=0) (B:k∈a.it.map eR.id) (t:f∈O3 a k):f.m∈tU a:=by
 rw [WJ l];unfold O3 at t;rcases ν.1 t with h | h
 .unfold YD at h;obtain ⟨x,v,rfl⟩:=κ.1 h;have j:=(Ct _).mem_iff.1 v;obtain ⟨A,_,C,_⟩:=GL B;rw [C] at j;have D:=Jp (HX l).2.2 _ (κ.2 ⟨_,ξ A,Z⟩)
  grind [Qy,Id]
 .obtain ⟨y,s,h⟩:=im.1 h;unfold E8 at h;obtain ⟨z,u,rfl⟩:=κ.1 h;have g:z∈y.q:=gk u;unfold eZ at s;obtain ⟨r,_,rfl⟩:=κ.1 s;have c:z∈ez (ea a) r.r:=g;unfold ez at c;obtain ⟨o,w,rfl⟩:=κ.1 c;exact (Ki l).mem_iff.1 (κ.2 ⟨o,(Γ.1 w).1,Z⟩)
abbrev uG (s:iu) (q:Nat×Nat):Hp:=[(2,[.blk 390 [.d (.ptr (rS s))]]),(3,[.blk 3 [.d (AF (q.1:Int))]]),(4,[.blk 3 [.d (AF (q.2:Int))]])]
structure uo (s:iu):Prop where
 n:s.ids.length<=20
 b:s.bl.length<=20
 u:∀b∈s.bl,b<4294967296
 r:s.rm.length<=1000
 d:s.de.length=s.rm.length
 v:∀r∈s.de,r.length<=32/\∀v∈r,-1000000000000000<=v/\v<=1000000000000000
 m:∀v∈s.rm,0<=v/\v<=4000000000000000
deriving instance DecidableEq for iV
theorem Xr:C7 []=[]:=ij (Eg [])
inductive X2 (p:ee) (S:List Int):Int ->Prop
 | base {x:Int} (h:x∈S):X2 p S x
 | step {i:Int} {b:gL} (h:X2 p S i) (hb:b∈O3 p i):X2 p S b.m
theorem X2.ids (b:A6 a=0) (g:∀x∈S,x∈a.it.map eR.id) (h:X2 a S x):x∈a.it.map eR.id:=by
 induction h with
 | base h=>exact g _ h
 | step _ f c=>exact (WJ b _).1 (oH b c f)
theorem Tu (h:f∈fK a j):∃i,i∈IA a/\j i=true/\f∈O3 a i/\j f.m=false:=by
 unfold fK at h;obtain ⟨i,c,h⟩:=im.1 h;unfold JI at h
 split at h
 .rename_i g
  obtain ⟨l,k⟩:=Γ.1 h
  grind
 .cases h
theorem LO (c:A6 a=0) (h:fK a j=[]) (g:k∈a.it.map eR.id) (l:j k=true) (o:f∈O3 a k):j f.m=true:=by
 cases hm:j f.m with
 | true=>rfl
 | false=>
  have:f∈fK a j:=im.2 ⟨k,(Ki c).mem_iff.2 g,by unfold JI;rw [ϱ l];exact Γ.2 ⟨o,by rw [hm];rfl⟩⟩
  grind
noncomputable def fZ (p:ee) (S:List Int):List Int:=C7 ((p.it.map eR.id).filter λx=> @decide (X2 p S x) (Classical.propDecidable _))
theorem Mi {l m:List Int} (h:l.Perm m):C7 l=C7 m:=SD ((Ct l).trans h) ((JU l).imp λh=>l6.2 h)
theorem XG {C:List Int} (c:A6 a=0) (i:∀x∈S,x∈a.it.map eR.id) (f:C.Nodup) (h:∀x,x∈C↔X2 a S x):C7 C=fZ a S:=by
 unfold fZ;have g:=XT (HX c).2.1;refine Mi ((jT f (List.Nodup.sublist gE g)).2 λx=>?_);rw [h x,Γ]
 constructor
 .intro b;exact ⟨b.ids c i,by simpa using b⟩
 simp
theorem Pp {f:Type} {q r:f ->Bool}:∀{l:List f},(∀x∈l,q x=true ->r x=true) ->(∃x,x∈l/\r x=true/\q x=false) ->(l.filter q).length<(l.filter r).length
 | [],_,⟨x,b,_⟩=>by cases b
 | a::l,h,⟨x,b,o,k⟩=>by
  have i:∀{l:List f},(∀x∈l,q x=true ->r x=true) ->(l.filter q).length<=(l.filter r).length:=by
   intro l
   induction l with
   | nil=>intro _;exact ϖ _
   | cons c l g=>
    intro h;have s:=g λx b=>h x (gG _ b);have j:=h c fu;rw [hG,hG]
    cases hq:q c with
    | false=>cases r c<;>simp<;>omega
    | true=>rw [j hq];simp;exact s
  have t:=i (l:=l) λx b=>h x (gG _ b);rw [hG,hG];rcases fP.1 b with rfl | b
  .rw [o,k];simp;omega
  .have g:=Pp (l:=l) (λx b=>h x (gG _ b)) ⟨x,b,o,k⟩;have j:=h a fu
   cases hq:q a with
   | false=>cases r a<;>simp<;>omega
   | true=>rw [j hq];simp;exact g
structure Cl (p:ee) (S C:List Int):Prop where
 n:C.Nodup
 s:∀x∈S,x∈C
 r:∀x∈C,X2 p S x
theorem Cl.len (h:Cl a S C) (c:A6 a=0) (g:∀x∈S,x∈a.it.map eR.id):C.length<=a.it.length:=by
 have f:=XT (HX c).2.1
 have i:=((jT h.n (List.Nodup.sublist (gE (p:=λx=>decide (x∈C))) f)).2 λx=>by
  rw [Γ]
  exact ⟨λb=>⟨(h.r x b).ids c g,by simpa using b⟩,λb=>by simpa using b.2⟩).length_eq
 grind
theorem Cl.done (h:Cl a S C) (f:A6 a=0) (g:∀x∈S,x∈a.it.map eR.id) (r:fK a (Jn C)=[]):C7 C=fZ a S:=by
 refine XG f g h.n λx=>⟨h.r x,λc=>?_⟩
 induction c with
 | base k=>exact h.s _ k
 | @step i b c l j=>
  have o:=LO f r (c.ids f g) (Υ j) l
  simpa [Jn] using o
theorem Cl.add (h:Cl a S C) (k:f∈fK a (Jn C)):Cl a S (C++ [f.m])/\f.m∉C:=by
 obtain ⟨i,_,r,o,l⟩:=Tu k;have j:i∈C:=by simpa [Jn] using r
 have g:f.m∉C:=by simpa [Jn] using l
 refine ⟨⟨?_,λx c=>ν.2 (.inl (h.s x c)),λx c=>?_⟩,g⟩
 .rw [ip];refine ⟨h.n,by simp,λx c y s e=>?_⟩
  grind
 .rcases ν.1 c with c | c
  .exact h.r x c
  .rw [ζ.1 c];exact .step (h.r i j) o
theorem Cl.dec {D:List Int} {m:Int} (c:m∈a.it.map eR.id) (i:m∉C) (g:m∈D) (h:∀x∈C,x∈D):((a.it.map eR.id).filter λx=>!Jn D x).length<((a.it.map eR.id).filter λx=>!Jn C x).length:=
 Pp (λx _ b=>by
  have:x∉D:=by simpa [Jn] using b
  have:x∉C:=λf=>this (h x f)
  simpa [Jn] using this) ⟨m,c,by simpa [Jn] using i,by simpa [Jn] using g⟩
theorem ZI (b:EY a) (g:a.it.length<=1000) (c:a.ro.length<=1000) (f:Int ->Bool):(fK a f).length<=1100000000:=by
 unfold fK;have h:=Jr (f:=JI a f) (n:=1100000) (l:=IA a) (λx _=>Tw b g c f x)
 grind [IA,DX]
def DC (M:List (Int×Bool)):List Int:=(M.filter λe=>e.2).map Prod.fst
theorem M8 (k:Int) (v:Bool) (M:List (Int×Bool)):DC ((k,v)::M)=(if v=true then [k] else [])++DC M:=by
 unfold DC;cases v<;>simp
theorem M7 {l m:List (Int×Bool)} (h:l.Perm m):(DC l).Perm (DC m):=(h.filter _).map _
theorem Xa (M:List (Int×Bool)):(DC M).length<=M.length:=by unfold DC;rw [ψ];exact gM _ _
abbrev uV (mv:Nat) (B:List Nat) (c:Nat) (M:List (Int×Bool)):Hp:=[(12,[.map (some (B,c)) (BK AF Aa M)]),(13,[.addr 12 0 (.map (some mv))])]
theorem aH (j:Nat) (B:List Nat) (c:Nat) (M:List (Int×Bool)) (z:B.length=M.length) (E:M.length<=100000):AJ prog 73 [mapV j] (uV j B c M) λr A=>r= .own 900 0 (DC M).length/\A=uV j B c M++ [(900,[.rowD 3 1 ((C7 (DC M)).map AF)])]:=by
 have D:=Xa M;refine As func73 Z Z ntmps73 Z Z Z λF u=>?_;refine AC (AE (AB Z Z (AD (AC (AE (AB Z Z (AD (AC ?_))))))));refine AC (Ou 3 900 BV Z Z Z Z (AE (dd Z Z (DY 6 13 0 Z Z (V (Fy 1 Z Z Z Ie Z Z Z Z) (AD (A0 (BX (α:=List Nat×List Int) (λq=>⟨21,[(3,(.own 900 0 q.2.length)),(7,(.ptr 1 0 0))],uV j B c M++ [(900,[.rowD 3 1 (q.2.map AF)]),(1,[.iter 12 0 c q.1])]⟩) (λq=>(q.2++DC (Bi M B q.1)).Perm (DC M)) (λq=>(Bi M B q.1).length) (([],[])) (by show ([]++DC (Bi M B [])).Perm _;rw [mH z];exact List.Perm.refl _) (AY u [12,13,900,1] Z Z ⟨Z,Z,trivial⟩) ?_))))))));rintro ⟨seen,a⟩ i;dsimp only at i⊢;refine AC (AE (Kn (M) Z Z Z Z (λs=>?_) (λw h l C o t y f=>⟨_,Z,?_⟩)))
 .have b:a.Perm (DC M):=by have k:=i;rw [s] at k;simpa [DC] using k
  refine J (Cf Z Z Z) (AD (AC (D3 Z Z (BC (AC (AE ?_))))));have v:=b.length_eq;refine dd Z Z (V (Rv nK a (by omega) Z Z Z Z Z Z Z) (AD (AC (AE (dd Z Z (AB Z Z (AD (A4 ?_))))))));exact ⟨_,[12,13,900],_,A3 Z,Z,Z,by rw [b.length_eq],by rw [Mi b];rfl⟩
 .refine J (Cf Z Z Z) ?_;refine AD (AC (DO Z Z (AZ (A0 (AC (AE (J (Fz (M) w h Z Z Z o t Z) (J (Cf Z Z Z) ?_))))))));refine J (Cf Z Z Z) (AB Z Z (AB Z Z (AD (AC (AE (dd Z Z (AD (JJ Z (λg=>?_) (λg=>?_)))))))))
  .refine AE (dd Z Z ?_);have x:a.length<=100000:=by have k:=i.length_eq;rw [Δ] at k;omega
   refine dd Z Z (V (D6 30 BV Z Z Z Z Z Z Z Z) (V (H1 (a) ([l]) Z Z Z Z Z Z Z Z BV (by simp only [Φ];omega) Z Z Z Z) (AB Z Z (AD ?_))));exact ⟨(seen++ [h],a++ [l]),(by show ((a++ [l])++DC (Bi M B (seen++ [h]))).Perm _;refine List.Perm.trans (List.Perm.trans ?_ (List.Perm.append_left a (M7 f)).symm) i;rw [M8,ϱ (by simpa using g),io]),by show (Bi M B (seen++ [h])).length<(Bi M B seen).length;rw [f.length_eq];exact iC _,AY u [12,13,900,1] Z (Z) ⟨Z,Z,trivial⟩⟩
  .refine AZ ?_;exact ⟨(seen++ [h],a),(by show (a++DC (Bi M B (seen++ [h]))).Perm _;refine List.Perm.trans (List.Perm.trans ?_ (List.Perm.append_left a (M7 f)).symm) i;rw [M8,θ (by simpa using g),List.nil_append]),by show (Bi M B (seen++ [h])).length<(Bi M B seen).length;rw [f.length_eq];exact iC _,AY u [12,13,900,1] Z (Z) ⟨Z,Z,trivial⟩⟩
def UD (M:List (Int×Bool)):Prop:=∀e∈M,e.2=true
def ep (M:List (Int×Bool)):List Int:=M.map Prod.fst
theorem Xb (h:UD M):DC M=ep M:=by
 unfold DC ep;rw [List.filter_eq_self.2 h]
theorem Ws (h:UD M):fQ M=Jn (ep M):=by grind [fQ,Jn,ep,Hh,IQ,UD]
theorem dy (h:UD M) (x:Int):UD (BA M x true):=λe i=>by
 obtain ⟨j,c,rfl⟩:=iL.1 i;have g:=MI (m:=M) (a:=x) (b:=true)
 by_cases e:j=fJ M x
 .subst e;have:=g.1;rw [ω c] at this;injection this with this;rw [this]
 .have f:=g.2 j e;rw [ω c] at f;exact h _ (ϑ f.symm)
theorem NZ (M:List (Int×Bool)) (x:Int) (b:Bool):ep (BA M x b)=if x∈ep M then ep M else ep M++ [x]:=Kr
theorem Cl.put (h:Cl a S (ep M)) (k:X2 a S x):Cl a S (ep (BA M x true)):=by
 rw [NZ]
 split
 .exact h
 .rename_i i
  refine ⟨?_,λy f=>ν.2 (.inl (h.s y f)),λy f=>?_⟩
  .rw [ip];exact ⟨h.n,by simp,λc j b g e=>by rw [ζ] at g;subst g;subst e;exact i j⟩
  .rcases ν.1 f with f | f
   .exact h.r y f
   grind
theorem aT (l:List Int):UD (At l):=λe a=>by
 unfold At at a;obtain ⟨x,_,rfl⟩:=κ.1 a;rfl
theorem Xu (l:List Int):ep (At l)=l:=by unfold ep At;rw [fS];exact List.map_id' l
theorem l9 (p:ee) (l:List Int) (j:EY p) (hl:l.length<=1000) (U:p.it.length<=1000) (T:p.ro.length<=1000) (R:DM p l=0) (W:l.Nodup) (L:∀x∈l,x∈p.it.map eR.id):AJ prog 27 [.d (Bf p),.d (.sl none (l.map AF))] [] λr Y=>r= .tup [.own 900 0 (fZ p l).length,.d (AF 0)]/\Y=[(900,[.rowD 3 1 ((fZ p l).map AF)])]:=by
 have G:=(Mt p l j (by omega) R).by [(2,12)] rfl;have O:=Tr R;have A:=λg M=>dg p g (some (List.range M.length,M.length)) M j U T;refine As func27 Z Z ntmps27 Z Z Z λF E=>(AC (AE (V (Bz 1 Z Z Z Z Z Z Z) ?_)));refine AB Z Z (AB Z Z (AD (AC (AE (J (BE Z Z BM Z Z Z) (dd Z Z (V (EX G Z [10,11,12] ⟨Z,Z,Z,trivial⟩ Z Z Z Z Z Z Z Z Z) (dd Z Z ?_))))))));refine J (Cf Z Z Z) (J (Cf Z Z Z) (J (Cf Z Z Z) (AB Z Z (AB Z Z (AB Z Z (AD (AC (AC ?_))))))));refine AE (dd Z Z (J (D7 Z Z Z) (AD (D3 Z ((by decide)) (AZ (AC (AC (UL 13 12 0 Z Z Z Z Z λg=>?_))))))));refine XO 7 13 0 (.inl Z) Z (AE (dd Z Z (dd Z Z (V (EX (A g (At l)) Z [10,11,12,13] ⟨Z,Z,Z,Z,trivial⟩ Z Z Z Z Z Z Z Z Z) (AB Z Z (AD (A0 (BX (α:=List (Int×Bool)) (λM=>⟨43,[(6,(.ptr 10 0 0)),(7,(mapV g)),(9,(.d (.sl none ((fK p (fQ M)).map Om))))],jQ p g (some (List.range M.length,M.length)) M⟩) (λM=>UD M/\Cl p l (ep M)) (λM=>((p.it.map eR.id).filter λx=>!Jn (ep M) x).length) (At l) (⟨aT l,by rw [Xu];exact ⟨W,λ_ h=>h,λ_ h=> .base h⟩⟩) (AY E [10,11,12,13] Z Z ⟨Z,Z,Z,trivial⟩) ?_))))))));rintro M ⟨D,B⟩;refine AC (AC (AE (dd Z Z ?_)));have X:(fK p (fQ M)).length<=1100000000:=ZI j U T _;refine J (CB Z underlying141 Z) (J (Ot Z Z Z) (AD (Ac Z (λu=>?_) (λu=>?_))))
 .refine AZ (AC (A0 (AC ?_)));have w:0<(fK p (fQ M)).length:=by have h:=u;omega
  have f:∀b∈fK p (fQ M),X2 p l b.m/\b.m∉ep M:=λb j=>by rw [Ws D] at j;exact ⟨(B.add j).1.r _ (by simp),(B.add j).2⟩
  refine AE (dd Z Z (J (CB Z underlying141 Z) (dd Z Z (AD (A0 (BX (α:=Nat×List (Int×Bool)) (λq=>⟨43,[(6,(.ptr 10 0 0)),(7,(mapV g)),(31,(.d (.sl none ((fK p (fQ M)).map Om)))),(32,(.d (AF ((fK p (fQ M)).length:Int)))),(33,(.d (AF (q.1:Int))))],jQ p g (some (List.range q.2.length,q.2.length)) q.2⟩) (λq=>q.1<=(fK p (fQ M)).length/\UD q.2/\Cl p l (ep q.2)/\(∀x∈ep M,x∈ep q.2)/\(0<q.1 ->(fK p (fQ M))[0].m∈ep q.2)) (λq=>(fK p (fQ M)).length - q.1) ((0,M)) (⟨υ _,D,B,λ_ h=>h,λh=>absurd h (ir 0)⟩) (AY E [10,11,12,13] Z Z ⟨Z,Z,Z,Z,Z,trivial⟩) ?_))))));rintro ⟨k,v⟩ ⟨H,o,s,a,c⟩;dsimp only at H o s a c⊢;refine AC (AE (J (BN Z Z Z) (AD (AC (Ac Z (λt=>?_) (λt=>?_))))))
  .have y:k<(fK p (fQ M)).length:=Ba t;refine AZ (AC (A0 ?_));refine AC (AE (J (Bh (k) Z Z (Z) (Ab y) underlying141 Z mf Z) (J (GW Z Z rZ Z) (V (Bn 2 Z1 Z Z Z Z) (V (B1 Z Z Z Z Z Z Z mf) (AD (AE (dd Z Z ?_))))))));refine DY 37 13 0 Z Z (J (AU Z lF Z Z Z) (J (A2 Z Z Z Aw Z) (V (UO (v) ((fK p (fQ M))[k].m) (true) Z Z Z Ie HS Z Z) (AD (AE (J (Ar Z Z (AO (k+1) (by omega)) Z) (dd Z Z (AD ?_))))))));exact ⟨(k+1,BA v (fK p (fQ M))[k].m true),⟨by show k+1<=_;omega,dy o _,s.put (f _ (ξ y)).1,λx Q=>by show x∈ep (BA v _ true);rw [NZ];split;exact a x Q;exact ν.2 (.inl (a x Q)),λ_=>by show _∈ep (BA v _ true);rw [NZ];rcases Nat.eq_zero_or_pos k with C | C;subst C;split;assumption;simp;split;exact c C;exact ν.2 (.inl (c C))⟩,by show (fK p (fQ M)).length - (k+1)<(fK p (fQ M)).length - k;omega,AY E [10,11,12,13] Z (Z) ⟨Z,Z,Z,Z,Z,trivial⟩⟩
  .have z:((p.it.map eR.id).filter λx=>!Jn (ep v) x).length<((p.it.map eR.id).filter λx=>!Jn (ep M) x).length:=Cl.dec ((f _ (ξ w)).1.ids O L) (f _ (ξ w)).2 (c (by have h:=t;omega)) a;refine BC (AE (dd Z Z (dd Z Z (V (EX (A g v) Z [10,11,12,13] ⟨Z,Z,Z,Z,trivial⟩ Z Z Z Z Z Z Z Z Z) (AB Z Z (AD ?_))))));exact ⟨v,⟨o,s⟩,z,AY E [10,11,12,13] Z (Z) ⟨Z,Z,Z,trivial⟩⟩
 .refine BC (AC ?_);have K:fK p (Jn (ep M))=[]:=by rw [<-Ws D];exact ij (by have h:=u;omega)
  have N:M.length<=100000:=by have S:=B.len O L;unfold ep at S;rw [ψ] at S;omega
  have i:C7 (DC M)=fZ p l:=by rw [Xb D];exact B.done O L K
  have I:(DC M).length=(fZ p l).length:=by rw [<-i,Eg]
  refine AE (dd Z Z (V (EX (aH g (List.range M.length) M.length M (by simp) N) Z [12,13,900] ⟨Z,Z,Z,trivial⟩ Z Z Z Z Z Z Z Z Z) (AB Z Z (AB Z Z (AD (A4 ?_))))));exact ⟨_,[900],_,A3 Z,Z,Z,by rw [I],by rw [i]⟩
inductive jS (p:ee) (S:List Int):Int ->Prop
 | base {i:Int} {b:gL} (hb:b∈O3 p i) (h:b.m∉S):jS p S i
 | step {i:Int} {b:gL} (hb:b∈O3 p i) (h:jS p S b.m):jS p S i
theorem r8 (c:f∈O3 a k):f.i=k:=by grind [O3,YD,E8]
noncomputable def s8 (p:ee) (S:List Int):List Int:=C7 (S.filter λx=> @decide (¬jS p S x) (Classical.propDecidable _))
structure Ci (p:ee) (S C:List Int):Prop where
 n:C.Nodup
 s:∀x∈C,x∈S
 r:∀x∈S,x∉C ->jS p S x
theorem Ci.done (h:Ci a S C) (l:A6 a=0) (t:S.Nodup) (o:∀x∈S,x∈a.it.map eR.id) (r:fK a (Jn C)=[]):C7 C=s8 a S:=by
 have g:∀x,jS a S x ->x∉C:=λx c=>by
  induction c with
  | @base i b j u=>
   intro f;have k:=LO l r (o _ (h.s _ f)) (Υ f) j;exact u (h.s _ (by simpa [Jn] using k))
  | @step i b j _ s=>
   intro f;have k:=LO l r (o _ (h.s _ f)) (Υ f) j;exact s (by simpa [Jn] using k)
 unfold s8;refine Mi ((jT h.n (List.Nodup.sublist gE t)).2 λx=>?_);rw [Γ]
 constructor
 .intro c;exact ⟨h.s x c,by simpa using λv=>g x v c⟩
 .intro c;have y:¬jS a S x:=by simpa using c.2
  exact Classical.byContradiction λw=>y (h.r x c.1 w)
theorem Ci.drop (h:Ci a S C) (l:f∈fK a (Jn C)):jS a S f.i/\f.i∈C:=by
 obtain ⟨i,_,r,c,o⟩:=Tu l;have k:i∈C:=by simpa [Jn] using r
 have j:f.m∉C:=by simpa [Jn] using o
 rw [r8 c];refine ⟨?_,k⟩
 by_cases g:f.m∈S
 .exact .step c (h.r _ g j)
 .exact .base c g
theorem Ci.rest (h:Ci a S C) (f:jS a S x):Ci a S (C.filter λy=>decide (y≠x)):=by
 refine ⟨List.Nodup.sublist gE h.n,λy b=>h.s y (Γ.1 b).1,λy b g=>?_⟩
 by_cases c:y∈C
 .grind
 .exact h.r y b c
theorem bx (M:List (Int×Bool)) (x:Int):fJ M x=(ep M).idxOf x:=by
 induction M with
 | nil=>rfl
 | cons e r a=>
  grind [fJ,ep]
theorem cR (a:(ep M).Nodup) (x:Int):ep (od M x)=(ep M).filter λy=>decide (y≠x):=by
 unfold od;rw [bx];show ((M.eraseIdx _).map Prod.fst)=_;rw [Wg];show (ep M).eraseIdx _=_;rw [<-List.erase_eq_eraseIdx_of_idxOf Z,List.Nodup.erase_eq_filter a]
 grind
theorem Ci.del (h:Ci a S (ep M)) (b:jS a S x):Ci a S (ep (od M x)):=by
 rw [cR h.n];exact h.rest b
theorem d8 {p:ee} {l:List Int}:(fZ p l).length<=p.it.length:=by grind [fZ,Eg]
abbrev JL (l:List Int):D:= .sl none (l.map AF)
abbrev Qc (l:List (List Int)):D:= .sl none (l.map JL)
def pO (k:Nat):Nat ->Nat:=λj=>if j<k then j else 0
theorem cc (k:Nat):An (pO k) k k=pO (k+1):=by grind [KW,pO,GY]
theorem cb:(λ_:Nat=>0)=pO 0:=by funext j;unfold pO;rw [θ (by omega)]
def Og (f:Nat ->Nat) (k j:Nat):List Nat:=(List.range j).filter λi=>decide (f i=k)
theorem cQ (h:g o=s):Og g s (o+1)=Og g s o++ [o]:=by unfold Og;rw [gT,iJ];simp [h]
theorem Y9 (h:¬g o=s):Og g s (o+1)=Og g s o:=by unfold Og;rw [gT,iJ];simp [h]
theorem cP (f:Nat ->Nat) (k j:Nat):(Og f k j).length<=j:=fO (gM _ _) (by rw [gI];exact ϖ _)
theorem Cn.trans {i:Nat} (h:Cn c E i o) (a:Cn c E o s):Cn c E i s:=Rh.trans h a
abbrev X8 (rs:List AM) (E:List (eR×Nat)) (i:Nat):List AM:=(dR rs (Cw E i)).map Prod.fst
theorem qG {i:Nat} (b:i<E.length) (a:o<E.length) (g:h∈X8 c E i) (f:h∈X8 c E o):Cn c E i o:=Rh.one (Cq.2 ⟨b,a,.inr (.inr ⟨h,g,f⟩)⟩)
theorem qH {rs:List AM} {i j:Nat} (b:i<E.length) (a:j<E.length) (h:(Cw E i).id∈(Cw E j).af):Cn rs E i j:=Rh.one (Cq.2 ⟨b,a,.inr (.inl h)⟩)
structure qj (rs:List AM) (E:List (eR×Nat)) (f:Nat ->Nat):Prop where
 uf:UF E.length (Cn rs E) f
 us:∃U,Ow rs E (λi r=>i<E.length/\r∈X8 rs E i) U f
 af:∀i,i<E.length ->∀j,j<E.length ->(Cw E j).id∈(Cw E i).af ->f j=f i
theorem qj.full (h:qj c E g):∀i j,i<E.length ->j<E.length ->Cn c E i j ->g i=g j:=λi j z w t=>by
 obtain ⟨U,l⟩:=h.us;refine (Rh.clos (p:=λx=>g i=g x) (λv s y o=>?_) t Z);obtain ⟨k,b,a⟩:=Cq.1 o;rw [s];rcases a with a | a | ⟨r,a,u⟩
 .exact (h.af v k y b a).symm
 .exact h.af y b v k a
 .rw [<-(l.has v r ⟨k,a⟩).2,(l.has y r ⟨b,u⟩).2]
theorem TA {a:List eR} (h:(a.map eR.id).Nodup) {q:eR ->Bool} (b:E.map Prod.fst=a.filter q):qf E:=by grind [gE,CX,gc,qf]
noncomputable def ey (rs:List AM) (E:List (eR×Nat)):List (List Int):=(fg E.length (Cn rs E)).map (Cc E)
set_option maxHeartbeats 4000000 in
theorem qF (p:ee) (l:List Int) (hf:CG p) (hl:l.length<=100000) (hC:DM p l=0) (hE:A6 p=0) (hn:l.Nodup):
  AJ prog 23 [.d (Bf p),.d (JL l)] [] λr H'=>∃E:List (eR×Nat),E.map Prod.fst=(ea p).filter (λi=>decide (i.id∈l))/\r= .d (.tup [Qc (ey (er p) E),AF 0])/\H'=[]:=by
 have hi30:=hf.i;have hck:=Py p l hf.b hl (by omega);rw [hC] at hck;have hids:((ea p).map eR.id).Nodup:=DW hE;have hol:(ea p).length<=30:=by rw [show ea p=eX p.it from ϱ hE,jO];exact hi30
 have hxm:∀i∈ea p,i∈p.it:=λi hi=>by rw [show ea p=eX p.it from ϱ hE] at hi;exact (I9 p.it).mem_iff.1 hi
 refine As func23 Z Z ntmps23 Z Z Z λF v=>(AC (AE (V (Bz 1 Z Z Z Z Z Z Z) (AB Z Z (AB Z Z (AD ?_))))));refine AC (AC (AE (J (BE Z Z BM Z Z Z) (dd Z Z (J (BT (hck) Z Z) (AB Z Z (AD (AC ?_))))))));refine AE (dd Z Z (J (D7 Z Z Z) (AD (D3 Z (fb (by decide)) (AZ (AC (DB [[],[],[1],[0,1,2],[0,1,2,3]] mixed Z (uK (γ:=Nat×MF) 3 (λq=>⟨154,[(2,.ptr 1 0 0),(35,.d (Bf p)),(37,.d (O2 q.1))],[(41,[.multi q.2])]⟩) (λq=>GX q.2 q.1 l) Z Z Z ?_ ?_ (λa hI=>?_)))))))))
 .refine J (BE Z Z BM Z Z Z) (AD ⟨Z,?_⟩);refine dd Z Z (AD ⟨Z,?_⟩);refine RX (UY (Fv l hn (by omega)) Z [41] ⟨Z,trivial⟩ Z Z Z Z (λr H' ⟨b,N,G,D,_⟩=>by subst G D;exact ⟨Z,Z,Z⟩) Z) Z ?_;rintro _ ⟨r,H',⟨b,N,G,D,hW⟩,rfl⟩;subst G D;refine AD ⟨Z,?_⟩;exact ⟨(b,N),hW,AY v [41] Z Z ⟨Z,Z,Z,trivial⟩⟩
 .refine dd Z Z (AD ⟨Z,?_,?_⟩);refine J (BE Z Z BM Z Z Z) (AD ⟨Z,?_⟩);refine RX (UY (Fv l hn (by omega)) Z [41] ⟨Z,trivial⟩ Z Z Z Z (λr H' ⟨b,N,G,D,_⟩=>by subst G D;exact ⟨Z,Z,Z⟩) Z) Z ?_;rintro _ ⟨r,H',⟨b,N,G,D,hW⟩,rfl⟩;subst G D
  rotate_left
  refine RX (UY (Fv l hn (by omega)) Z [41] ⟨Z,trivial⟩ Z Z Z Z (λr H' ⟨b,N,G,D,_⟩=>by subst G D;exact ⟨Z,Z,Z⟩) Z) Z ?_;rintro _ ⟨r,H',⟨b,N,G,D,hW⟩,rfl⟩;subst G D;refine AD ⟨Z,?_⟩;refine J (BE Z Z BM Z Z Z) ?_
  all_goals
   refine AD ⟨Z,?_⟩;exact ⟨(b,N),hW,AY v [41] Z Z ⟨Z,Z,Z,trivial⟩⟩
 .obtain ⟨b,N⟩:=a;have hW:GX N b l:=hI;refine Ag 4 Z Z ?_;refine RX (UY (LH p hE hf WF [pD b 0] N (λid=>decide (id∈l)) (Da hW)) Z [41,40] ⟨Z,Z,trivial⟩ Z Z Z Z (λr H' ⟨E,M,G,D,_⟩=>by subst G D;exact ⟨Z,Z,Z⟩) Z) Z ?_;rintro _ ⟨r,H',⟨E,M,G,D,hR,hEq⟩,rfl⟩;subst G D;refine AD ⟨Z,?_⟩;refine Ag 5 Z Z (AB Z Z (AD ⟨Z,?_⟩));refine Cr (AC ?_)
  obtain ⟨n,w⟩:∃n,E.length=n:=⟨_,Z⟩
  have hn30:n<=30:=by have h1:(E.map Prod.fst).length<=(ea p).length:=(by rw [hEq];exact gM _ _);rw [ψ,w] at h1;omega
  have hIt:∀k,k<n ->Cw E k∈ea p:=λk hk=>by have h1:Cw E k∈E.map Prod.fst:=(by rw [CX (by omega)];exact ie (ξ _));rw [hEq] at h1;exact (Γ.1 h1).1
  have hId:qf E:=TA hids hEq;have R:(E.map C4).length=n:=by rw [ψ,w]
  refine AE (dd Z Z (J (Ii Z R Ri Z) (V (E5 2 BV Z Z Z (by omega) n4 Z Z Z Z) ?_)));rw [oL,cb];refine V (Bn 3 qv Z Z Z Z) (V (B1 Z Z Z Z Z Z Z CZ) (AD ?_));refine AC (AC (AE (J (A2 Z Z Z BG Z) (J (QD Z E0 Z) (dd Z Z (AD (A0 (BX (α:=Nat) (λk=>⟨154,[(7,(.d (.sl none (E.map C4)))),(8,(.ptr 3 0 0)),(43,(.d (AL n))),(44,(.d (AL k)))],[(2,[.rowD 3 1 (rowN n (pO k))]),(3,[.blk 28 [.own 2 0 n]]),(40,[.multi M])]⟩) (λk=>k<=n) (λk=>n - k) (0) (υ _) (AY v [2,3,40] Z Z ⟨Z,Z,Z,Z,trivial⟩) ?_))))))));rintro k hk;refine AC (AE (J (BN Z Z Z) (AD (AC (Ac Z (λh45=>?_) (λh45=>?_))))))
  .refine AZ (AC (A0 (AC ?_)));have g:k<n:=Ba h45;refine AE ?_;refine dd Z Z (AB Z Z (AD (AE (J (A2 Z Z Z BG Z) (dd Z Z (dd Z Z (J (Ce (k) Z Z (Z) (g) Z E0 BU Z) (V (XW Z Z Z Z Z (by rw [DV];exact g) DU Z BU) ?_))))))));rw [cc];refine AD (AE (J (Ar Z Z (AO (k+1) (by omega)) Z) (dd Z Z (AD ?_))));exact ⟨k+1,g,by omega,AY v [2,3,40] Z (Z) ⟨Z,Z,Z,Z,trivial⟩⟩
  .refine BC (AC ?_);have W:k=n:=by have:=h45;omega
   rw [PP (f:=pO k) (h:=λj=>j) λj K=>ϱ (by omega)];refine AE (J (qX Z Z) ?_);refine AB Z Z (AD (AC (AE (V (O4 50 Z Z Z Z) (V (O4 51 Z Z Z Z) (AB Z Z (AB Z Z (AD ?_))))))));refine AC (AC (AE (dd Z Z (J (Ii Z R Ri Z) (dd Z Z (AD (A0 (BX (α:=Nat×List (AM×Nat)×(Nat ->Nat)) (λq=>⟨154,[(7,(.d (.sl none (E.map C4)))),(8,(.ptr 3 0 0)),(10,(.fn 67 [.ptr 3 0 0])),(11,(.map 50 0)),(12,(.map 51 0)),(55,(.d (.sl none (E.map C4)))),(56,(.d (AL n))),(57,(.d (AL q.1)))],[(2,[.rowD 3 1 (rowN n q.2.2)]),(3,[.blk 28 [.own 2 0 n]]),(50,[BB CC AL q.2.1]),(51,[BB AF AL (MD E q.1)]),(40,[.multi M])]⟩) (λq=>q.1<=n/\UF n (Cn (er p) E) q.2.2/\Ow (er p) E (λi r=>i<q.1/\r∈X8 (er p) E i) q.2.1 q.2.2) (λq=>n - q.1) ((0,[],λj=>j)) (⟨υ _,UF.id n λi=>Rh.refl i,(Ow.zero _ _ _).mono λi r h=>by have:=h.1;omega⟩) (AY v [2,3,50,51,40] Z Z ⟨Z,Z,Z,Z,Z,Z,Z,Z,trivial⟩) ?_))))))));rintro ⟨k,U,f⟩ ⟨hk,A,y⟩;dsimp only at hk A y⊢;refine AC (AE (J (BN Z Z Z) (AD (AC (Ac Z (λh58=>?_) (λh58=>?_))))))
   .refine AZ (AC (A0 (AC ?_)));have g:k<n:=Ba h58;have o:k<E.length:=by omega
    have hek:=ξ o;refine AE (dd Z Z (J (Bh (k) Z Z (Z) (Ab o) Ri Z FX Z) (J (GW Z Z JV Z) (V (Bn 4 LS Z Z Z Z) (AB Z Z (V (B1 Z Z Z Z Z Z Z FX) ?_))))));refine AD (AC (AE (dd Z Z (J (AU Z IZ Z Z Z) (J (AU Z OY Z Z Z) (J (A2 Z Z Z Aw Z) (dd Z Z (V (UO (MD E k) ((E[k]).1.id) (k) Z Z Z nI HS Z Z) ?_))))))));rw [show BA (MD E k) (E[k]).1.id k=MD E (k+1) by rw [<-CX o];exact kB hId o];refine AD (AC ?_)
    obtain ⟨L,hLe⟩:∃L,dR (er p) (E[k]).1=L:=⟨_,Z⟩
    have hRk:=hR _ hek;rw [hLe] at hRk;have hus:X8 (er p) E k=L.map Prod.fst:=by rw [<-hLe,<-CX o]
    refine LQ 40 (E[k]).2 Z hRk (λ_ _=>rfl) λB c hB hBn=>?_
    obtain ⟨M1,hM1⟩:∃M1,BJ M (E[k]).2 (.map (some (B,c)) (Iz L))=M1:=⟨_,Z⟩
    rw [hM1];have h1k:M1 (E[k]).2=some (.map (some (B,c)) (Iz L)):=by rw [<-hM1,EB]
    refine AE (J (AU Z KG Z Z Z) (J (A2 Z Z Z S2 Z) (V (K4 5 (f:=40) Z Z h1k Z Bq Z Z Z Z) (AD (A0 (BX (α:=List Nat×List (AM×Int)×List (AM×Nat)×(Nat ->Nat)) (λq=>⟨154,[(7,(.d (.sl none (E.map C4)))),(8,(.ptr 3 0 0)),(10,(.fn 67 [.ptr 3 0 0])),(11,(.map 50 0)),(12,(.map 51 0)),(13,(.d (AL k))),(55,(.d (.sl none (E.map C4)))),(56,(.d (AL n))),(57,(.d (AL k))),(69,(.ptr 5 0 0))],[(5,[.iter 40 (E[k]).2 c q.1]),(2,[.rowD 3 1 (rowN n q.2.2.2)]),(3,[.blk 28 [.own 2 0 n]]),(50,[BB CC AL q.2.2.1]),(51,[BB AF AL (MD E (k+1))]),(40,[.multi M1])]⟩) (λq=>(q.2.1++Bi L B q.1).Perm L/\UF n (Cn (er p) E) q.2.2.2/\Ow (er p) E (λi r=>(i<k/\r∈X8 (er p) E i)\/(i=k/\r∈q.2.1.map Prod.fst)) q.2.2.1 q.2.2.2) (λq=>(Bi L B q.1).length) (([],[],U,f)) (⟨by show ([]++Bi L B []).Perm L;rw [mH (by simpa [BK] using hB)];exact List.Perm.refl _,A,y.mono λi r h=>h.elim id λh=>by simp at h⟩) (AY v [5,2,3,50,51,40] Z Z ⟨Z,Z,Z,Z,Z,Z,Z,Z,Z,Z,trivial⟩) ?_))))));rintro ⟨seen,O,U,f⟩ ⟨hP,A,y⟩;dsimp only at hP A y⊢;refine AC (AE (Q5 (L) Z Z Z (h1k) Z (λhl70=>?_) (λj70 b70 u v70 hm70 hb70 hB70 H=>⟨_,Z,?_⟩)))
    .rw [hl70] at hP;have hPm:∀r,r∈O.map Prod.fst↔r∈X8 (er p) E k:=λr=>by rw [hus];exact ((show O.Perm L by simpa using hP).map Prod.fst).mem_iff
     refine cj 40 (E[k]).2 Z h1k Z ?_;rw [show BJ M1 (E[k]).2 (.map none (Iz L))=M by rw [<-hM1,FG];exact Ks hRk];refine J (Cf Z Z Z) (AD (AC (D3 Z Z (BC (AE (J (Ar Z Z (AO (k+1) (by omega)) Z) (dd Z Z (AD ?_))))))));exact ⟨(k+1,U,f),⟨g,A,y.mono λi r ⟨h1,h2⟩=>(Nat.decEq i k).byCases (λe=>by subst e;exact .inr ⟨Z,(hPm r).2 h2⟩) λe=> .inl ⟨by omega,h2⟩⟩,by show n - (k+1)<n - k;omega,AY v [2,3,50,51,40] Z (Z) ⟨Z,Z,Z,Z,Z,Z,Z,Z,trivial⟩⟩
    .refine J (Cf Z Z Z) (AD (AC (DO Z Z (AZ (A0 (AC ?_))))));have hku:u∈X8 (er p) E k:=by rw [hus];exact ie (f:=Prod.fst) (cK hm70)
     have Q:∀i s,((i<k/\s∈X8 (er p) E i)\/(i=k/\s∈(O++ [(u,v70)]).map Prod.fst)) ->((i<k/\s∈X8 (er p) E i)\/(i=k/\s∈O.map Prod.fst))\/(i=k/\s=u):=λi s h=>h.elim (λh=> .inl (.inl h)) λ⟨e,h⟩=>by rw [fU,ν] at h;exact h.elim (λh=> .inl (.inr ⟨e,h⟩)) λh=> .inr ⟨e,by simpa using h⟩
     refine AE (J (K5 (L) j70 b70 Z Z Z (h1k) hm70 hb70 Z) (J (Cf Z Z Z) (V (Bn 6 JM Z Z Z Z) ?_)));refine V (B1 Z Z Z Z Z Z Z Xd) (AD (AC (AE (dd Z Z (J (BE Z Z CQ Z Z Z) (J (PI (U) (u) (0) Z Z Z nJ By uX Z) (dd Z Z (J (Cf Z Z Z) ?_))))))));refine J (Cf Z Z Z) (AB Z Z (AB Z Z (AD (AC (AE (dd Z Z (AD (JJ Z (λh80=>?_) (λh80=>?_)))))))))
     .have hkU:u∈U.map Prod.fst:=FH.1 h80;obtain ⟨I,hu2⟩:=y.ok _ (k6 hkU);rw [w] at I;have hCk:=qG (by omega) o hu2 hku;refine AE (dd Z Z (dd Z Z (dd Z Z (V (UZ ((Wo n f (A1 U u 0) k I g (by omega)).by [(930,3),(931,2)] Z) Z [3,2] ⟨Z,Z,trivial⟩ Z Z Z Z Z Z Z Z Z) (AD ?_)))));exact ⟨(seen++ [b70],O++ [(u,v70)],U,_),⟨GG hP H,A.join (λ_ _ _=>Cn.trans) (λ_ _=>Cn.symm) I g hCk,y.join hkU Q⟩,by show (Bi L B (seen++ [b70])).length<(Bi L B seen).length;rw [H.length_eq];exact iC _,AY v [5,2,3,50,51,40] Z (Z) ⟨Z,Z,Z,Z,Z,Z,Z,Z,Z,Z,trivial⟩⟩
     .refine AE (dd Z Z (J (BE Z Z CQ Z Z Z) (dd Z Z (V (UO (U) (u) (k) Z Z Z nJ By Z Z) (AD ?_)))));exact ⟨(seen++ [b70],O++ [(u,v70)],BA U u k,f),⟨GG hP H,A,y.new (λz=>by rw [FH.2 z] at h80;cases h80) o hku Q⟩,by show (Bi L B (seen++ [b70])).length<(Bi L B seen).length;rw [H.length_eq];exact iC _,AY v [5,2,3,50,51,40] Z (Z) ⟨Z,Z,Z,Z,Z,Z,Z,Z,Z,Z,trivial⟩⟩
   .refine BC (AC (AC ?_));have W:k=n:=by have:=h58;omega
    rw [W]
    have hS':Ow (er p) E (λi r=>i<E.length/\r∈X8 (er p) E i) U f:=y.mono λi r ⟨h1,h2⟩=>⟨by omega,h2⟩
    refine AE (dd Z Z (J (Ii Z R Ri Z) (dd Z Z (AD (A0 (BX (α:=Nat×(Nat ->Nat)) (λq=>⟨154,[(7,(.d (.sl none (E.map C4)))),(8,(.ptr 3 0 0)),(10,(.fn 67 [.ptr 3 0 0])),(12,(.map 51 0)),(89,(.d (.sl none (E.map C4)))),(90,(.d (AL n))),(91,(.d (AL q.1)))],[(2,[.rowD 3 1 (rowN n q.2)]),(3,[.blk 28 [.own 2 0 n]]),(51,[BB AF AL (MD E n)])]⟩) (λq=>q.1<=n/\UF n (Cn (er p) E) q.2/\Ow (er p) E (λi r=>i<E.length/\r∈X8 (er p) E i) U q.2/\∀i,i<q.1 ->∀j,j<n ->(Cw E j).id∈(Cw E i).af ->q.2 j=q.2 i) (λq=>n - q.1) ((0,f)) (⟨υ _,A,hS',λi hi=>by omega⟩) (AY v [2,3,51] Z Z ⟨Z,Z,Z,Z,Z,Z,Z,trivial⟩) ?_))))));rintro ⟨k,f⟩ ⟨hk,A,y,hA⟩;dsimp only at hk A y hA⊢;refine AC (AE (J (BN Z Z Z) (AD (AC (Ac Z (λh92=>?_) (λh92=>?_))))))
    .refine AZ (AC (A0 (AC ?_)));have g:k<n:=Ba h92;have o:k<E.length:=by omega
     have hek:=ξ o;have hIk:=hIt k g;rw [CX o] at hIk;have haf:=(hf.x _ (hxm _ hIk)).2.2;refine AE (dd Z Z (J (Bh (k) Z Z (Z) (Ab o) Ri Z FX Z) (J (GW Z Z JV Z) (V (Bn 4 LS Z Z Z Z) (AB Z Z (V (B1 Z Z Z Z Z Z Z FX) (AD (AC ?_))))))));refine AE (J (AU Z IZ Z Z Z) (J (AU Z Do Z Z Z) (J (A2 Z Z Z BG Z) (J (CB Z E0 Z) (dd Z Z (AD (A0 (BX (α:=Nat×(Nat ->Nat)) (λq=>⟨154,[(7,(.d (.sl none (E.map C4)))),(8,(.ptr 3 0 0)),(10,(.fn 67 [.ptr 3 0 0])),(12,(.map 51 0)),(18,(.d (AL k))),(89,(.d (.sl none (E.map C4)))),(90,(.d (AL n))),(91,(.d (AL k))),(98,(.d (JL (E[k]).1.af))),(99,(.d (AL (E[k]).1.af.length))),(100,(.d (AL q.1)))],[(2,[.rowD 3 1 (rowN n q.2)]),(3,[.blk 28 [.own 2 0 n]]),(51,[BB AF AL (MD E n)])]⟩) (λq=>q.1<=(E[k]).1.af.length/\UF n (Cn (er p) E) q.2/\Ow (er p) E (λi r=>i<E.length/\r∈X8 (er p) E i) U q.2/\(∀i,i<k ->∀j,j<n ->(Cw E j).id∈(Cw E i).af ->q.2 j=q.2 i)/\∀j,j<n ->(Cw E j).id∈(E[k]).1.af.take q.1 ->q.2 j=q.2 k) (λq=>(E[k]).1.af.length - q.1) ((0,f)) (⟨υ _,A,y,hA,λj K z=>by simp at z⟩) (AY v [2,3,51] Z Z ⟨Z,Z,Z,Z,Z,Z,Z,Z,Z,Z,Z,trivial⟩) ?_))))))));rintro ⟨C,f⟩ ⟨hj8,A,y,hA,hD⟩;dsimp only at hj8 A y hA hD⊢;refine AC (AE (J (BN Z Z Z) (AD (AC (Ac Z (λh101=>?_) (λh101=>?_))))))
     .refine AZ (AC (A0 (AC ?_)));have t:C<(E[k]).1.af.length:=Ba h101;refine AE (J (Bh (C) Z Z (Z) (Ab t) E0 Z BU Z) (J (D2 Z Z Aw Z) ?_));refine AB Z Z (AD (AC (AE (dd Z Z (dd Z Z (J (PI (MD E n) ((E[k]).1.af[C]) (0) Z Z Z nI HS uX Z) (dd Z Z (J (Cf Z Z Z) ?_))))))));refine J (Cf Z Z Z) (AB Z Z (AB Z Z (AD (AC (AE (dd Z Z (AD (JJ Z (λh110=>?_) (λh110=>?_)))))))))
      .have hkP:=FH.1 h110;have hpg:=WR hId (x:=(E[k]).1.af[C]) (by rw [w];exact hkP);rw [w] at hpg;obtain ⟨I,hu2⟩:=hpg;have hCk:=qH (rs:=er p) (i:=A1 (MD E n) (E[k]).1.af[C] 0) (j:=k) (by omega) o (by rw [hu2,CX o];exact ξ t);refine AE ?_;refine dd Z Z (dd Z Z (dd Z Z (V (UZ ((Wo n f (A1 (MD E n) (E[k]).1.af[C] 0) k I g (by omega)).by [(930,3),(931,2)] Z) Z [3,2] ⟨Z,Z,trivial⟩ Z Z Z Z Z Z Z Z Z) (AD (AE (J (Ar Z Z (AO (C+1) (by omega)) Z) (dd Z Z (AD ?_))))))));exact ⟨(C+1,_),⟨t,A.join (λ_ _ _=>Cn.trans) (λ_ _=>Cn.symm) I g hCk,y.keep λ_ _ h=>Gi h,λi hi j K z=>Gi (hA i hi j K z),λj K z=>by rw [χ t,ν] at z;exact z.elim (λh=>Gi (hD j K h)) λh=>by have h3:=(bE hId (show j<E.length by omega)).2;rw [ζ.1 h,w] at h3;rw [<-h3];exact Pe⟩,by show (E[k]).1.af.length - (C+1)<(E[k]).1.af.length - C;omega,AY v [2,3,51] Z (Z) ⟨Z,Z,Z,Z,Z,Z,Z,Z,Z,Z,Z,trivial⟩⟩
      .refine AZ (AE (J (Ar Z Z (AO (C+1) (by omega)) Z) (dd Z Z (AD ?_))));exact ⟨(C+1,f),⟨t,A,y,hA,λj K z=>by rw [χ t,ν] at z;exact z.elim (hD j K) λh=>absurd (FH.2 (by have h3:=(bE hId (show j<E.length by omega)).1;rw [ζ.1 h,w] at h3;exact h3)) (by rw [h110];decide)⟩,by show (E[k]).1.af.length - (C+1)<(E[k]).1.af.length - C;omega,AY v [2,3,51] Z (Z) ⟨Z,Z,Z,Z,Z,Z,Z,Z,Z,Z,Z,trivial⟩⟩
     .refine BC (AE (J (Ar Z Z (AO (k+1) (by omega)) Z) (dd Z Z (AD ?_))));exact ⟨(k+1,f),⟨g,A,y,λi hi j K z=>(Nat.decEq i k).byCases (λe=>by subst e;exact hD j K (by rw [CX o] at z;have hje:C=(E[i]).1.af.length:=(by have:=h101;omega);rw [hje,fw];exact z)) λe=>hA i (by omega) j K z⟩,by show n - (k+1)<n - k;omega,AY v [2,3,51] Z (Z) ⟨Z,Z,Z,Z,Z,Z,Z,trivial⟩⟩
    .refine BC (AC ?_);have W:k=n:=by have:=h92;omega
     have hall:qj (er p) E f:=⟨by rw [w];exact A,⟨U,y⟩,λi hi j K z=>hA i (by omega) j (by omega) z⟩
     have hcls:(Jj n n f).map (Cc E)=ey (er p) E:=by unfold ey;rw [<-ke hall.uf hall.full,w]
     refine AE (AB Z Z (AD (AC ?_)));refine AC (AE (dd Z Z (J (Ii Z R Ri Z) (dd Z Z (AD (A0 (Ou 24 10 SE Z Z Z Z (BX (α:=Nat×List (List Int)) (λq=>⟨154,[(7,(.d (.sl none (E.map C4)))),(8,(.ptr 3 0 0)),(24,(.own 10 0 q.2.length)),(117,(.d (.sl none (E.map C4)))),(118,(.d (AL n))),(119,(.d (AL q.1)))],[(10,[.rowD 28 1 (q.2.map JL)]),(2,[.rowD 3 1 (rowN n f)]),(3,[.blk 28 [.own 2 0 n]])]⟩) (λq=>q.1<=n/\q.2=(Jj n q.1 f).map (Cc E)) (λq=>n - q.1) ((0,[])) (⟨υ _,Z⟩) (AY v [10,2,3] Z Z ⟨Z,Z,Z,Z,Z,Z,trivial⟩) ?_))))))));rintro ⟨k,T⟩ ⟨hk,hT⟩;dsimp only at hk hT⊢;refine AC (AE (J (BN Z Z Z) (AD (AC (Ac Z (λh120=>?_) (λh120=>?_))))))
     .refine AZ (AC (A0 (AC ?_)));have g:k<n:=Ba h120;have hTl:T.length<=30:=by have:=cN n k f;rw [hT,ψ];omega
      refine AE (dd Z Z (AB Z Z (AD (AC (AC ?_)))));refine AE (J (A2 Z Z Z BG Z) (dd Z Z (J (Ce (k) Z Z (Z) (g) Z E0 BU Z) (J (D1 Z Z (MW g) Z Aw Z) (dd Z Z (J (D7 Z Z Z) (AD (Ac Z (λh127=>?_) (λh127=>?_)))))))))
      .refine BC (AE (J (Ar Z Z (AO (k+1) (by omega)) Z) (dd Z Z (AD ?_))));exact ⟨(k+1,T),⟨g,by show _=(Jj n (k+1) f).map _;rw [Y7 (by omega),hT]⟩,by show n - (k+1)<n - k;omega,AY v [10,2,3] Z (Z) ⟨Z,Z,Z,Z,Z,Z,trivial⟩⟩
      .refine AZ (AC (AE (AB Z Z (AD (AC ?_)))));refine AC (AE (dd Z Z (J (Ii Z R Ri Z) (dd Z Z (AD (A0 (Ou 26 11 BV Z Z Z Z (BX (α:=Nat×List Int) (λq=>⟨154,[(7,(.d (.sl none (E.map C4)))),(8,(.ptr 3 0 0)),(24,(.own 10 0 T.length)),(25,(.d (AL k))),(26,(.own 11 0 q.2.length)),(117,(.d (.sl none (E.map C4)))),(118,(.d (AL n))),(119,(.d (AL k))),(128,(.d (.sl none (E.map C4)))),(129,(.d (AL n))),(130,(.d (AL q.1)))],[(11,[.rowD 3 1 (q.2.map AF)]),(10,[.rowD 28 1 (T.map JL)]),(2,[.rowD 3 1 (rowN n f)]),(3,[.blk 28 [.own 2 0 n]])]⟩) (λq=>q.1<=n/\q.2=Cc E (Og f k q.1)) (λq=>n - q.1) ((0,[])) (⟨υ _,Z⟩) (AY v [11,10,2,3] Z Z ⟨Z,Z,Z,Z,Z,Z,Z,Z,Z,Z,Z,trivial⟩) ?_))))))));rintro ⟨j,S⟩ ⟨K,X⟩;dsimp only at K X⊢;refine AC (AE (J (BN Z Z Z) (AD (AC (Ac Z (λY=>?_) (λY=>?_))))))
       .refine AZ (AC (A0 (AC ?_)));have t:j<n:=Ba Y;have hjE:j<E.length:=by omega
        have hSl:S.length<=30:=by have:=cP f k j;rw [X];unfold Cc;rw [ψ];omega
        refine AE (dd Z Z (J (Bh (j) Z Z (Z) (Ab hjE) Ri Z FX Z) (J (GW Z Z JV Z) (V (Bn 4 LS Z Z Z Z) (AB Z Z (V (B1 Z Z Z Z Z Z Z FX) (AD (AC ?_))))))));refine AE (J (A2 Z Z Z BG Z) (dd Z Z (J (Ce (j) Z Z (Z) (t) Z E0 BU Z) (J (D1 Z Z (MW t) Z Aw Z) (dd Z Z (J (Li Z Z Z) (AD (Ac Z (λh140=>?_) (λh140=>?_)))))))))
        .refine AE (dd Z Z (J (AU Z IZ Z Z Z) (J (AU Z OY Z Z Z) ?_)));refine J (A2 Z Z Z Aw Z) (V (D6 30 BV Z Z Z Z Z Z Z Z) (V (H1 (S) ([(E[j]).1.id]) Z Z Z Z Z Z Z Z BV (by simp only [Φ];omega) Z Z Z Z) (AB Z Z (AD (AE (J (Ar Z Z (AO (j+1) (by omega)) Z) (dd Z Z (AD ?_))))))));exact ⟨(j+1,S++ [(E[j]).1.id]),⟨t,by show _=Cc E (Og f k (j+1));rw [cQ (by omega),X];unfold Cc;rw [fU,List.map_singleton,CX hjE]⟩,by show n - (j+1)<n - j;omega,AY v [11,10,2,3] Z (Z) ⟨Z,Z,Z,Z,Z,Z,Z,Z,Z,Z,Z,trivial⟩⟩
        .refine AZ (AE (J (Ar Z Z (AO (j+1) (by omega)) Z) (dd Z Z (AD ?_))));exact ⟨(j+1,S),⟨t,by show _=Cc E (Og f k (j+1));rw [Y9 (by omega),X]⟩,by show n - (j+1)<n - j;omega,AY v [11,10,2,3] Z (Z) ⟨Z,Z,Z,Z,Z,Z,Z,Z,Z,Z,Z,trivial⟩⟩
       .refine BC ?_;have hje:j=n:=by have:=Y;omega
        refine Ls (emb:=AF) 26 11 S Z Z Z Z Z Z Z ?_;rw [show S=Cc E (Y8 n f k) by rw [X,hje];rfl];refine AE (dd Z Z ?_);refine dd Z Z (V (D6 31 SE Z Z Z Z Z Z Z Z) (V (H1 (T) ([Cc E (Y8 n f k)]) Z Z Z Z Z Z Z Z SE (by simp only [Φ];omega) Z Z Z Z) (AB Z Z (AD (AE (J (Ar Z Z (AO (k+1) (by omega)) Z) (dd Z Z (AD ?_))))))));exact ⟨(k+1,T++ [Cc E (Y8 n f k)]),⟨g,by show _=(Jj n (k+1) f).map _;rw [cO (by omega),fU,hT];rfl⟩,by show n - (k+1)<n - k;omega,AY v [10,2,3] Z (Z) ⟨Z,Z,Z,Z,Z,Z,trivial⟩⟩
     .refine BC (AC ?_);have W:k=n:=by have:=h120;omega
      refine Ls (emb:=JL) 24 10 T Z Z Z Z Z Z Z ?_;rw [show T=ey (er p) E by rw [hT,W,hcls]];refine AE (dd Z Z (AB Z Z (AB Z Z (AD (A4 ?_)))));exact ⟨_,[],[],A3 Z,Z,Z,E,hEq,Z,Z⟩
theorem RE (f:Aq i=0) (b:h∈c) (a:Cb h=0) (v:Int):(h,v)∈dR c i↔v=Be i h/\v≠0:=by grind [eS,dO,Be,dR,GR,Eu,T7]
theorem OE (f:Aq i=0) (b:h∈c) (a:Cb h=0):h∈(dR c i).map Prod.fst↔Be i h≠0:=by simp [*,RE]
theorem dV (f:Aq i=0) (b:h∈c) (a:Cb h=0):A1 (dR c i) h 0=Be i h:=by grind [IQ,OE,mQ,dU,RE]
theorem sr (a:h∈(dR c i).map Prod.fst):h∈c:=by
 obtain ⟨d,b,e⟩:=κ.1 a;rw [<-e];exact hJ (Γ.1 b).2
theorem n7 (a:∀r∈c,Cb r=0) {x y:eR} (g:Aq x=0) (f:Aq y=0):ZQ c x y↔y.id∈x.af\/∃r∈c,Be x r<0/\0<Be y r:=by
 constructor
 .grind [sr,RE,dV,ZQ]
 .rintro (h | ⟨r,b,j,i⟩)
  .exact .inr h
  .exact .inl ⟨(r,Be x r),(RE g b (a r b) _).2 ⟨Z,by omega⟩,j,by rw [dV f b (a r b)];exact i⟩
theorem Mn (f:A6 a=0):∀r∈er a,Cb r=0:=λr c=>by
 obtain ⟨x,b,rfl⟩:=κ.1 c;exact Fj (HX f).1 x b
theorem Yc {id:Int} (h:id∈a.it.map eR.id):eo a id∈a.it/\(eo a id).id=id:=by
 obtain ⟨c,_,b,f⟩:=GL h
 grind
end Go.Proofs.YteifpcnphnhaoaaGreat
