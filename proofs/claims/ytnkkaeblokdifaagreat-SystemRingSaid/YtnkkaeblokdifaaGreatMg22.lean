import Derived.Test.YtnkkaeblokdifaaGreatMg21
import Derived.Shelf.SortG.Plain
import Derived.Shelf.SortG.SortNone
open Go.Proofs.Tryz
namespace Go.Proofs.YtnkkaeblokdifaaGreat
open Go.RowKit Go.Shelf
open Go.Sort (putRow Holds putCells)
def CS (l:List Int):List Int:=l.mergeSort λx y=>decide (x<=y)
theorem Cb (l:List Int):(CS l).Perm l:=List.mergeSort_perm l _
theorem Ea (l:List Int):(CS l).length=l.length:=(Cb l).length_eq
theorem JL (l:List Int):(CS l).Pairwise (· <= ·):=by grind [List.pairwise_mergeSort,CS]
abbrev zD (z:Int):D:= .raw (.int .i64 z)
variable {P:Program} {ρr:Ren}
theorem RO (L:SlLaysN.n53 P ρr) {E:TypeId} {g53:FuncId} (k:List Int) (hsz:k.length<4611686018427387904) {F:Fr} {s:AS} {d:Nat} {x:Operand} {ty:TypeId} {pos:String} {aft:Array Edge} {gd:Option (Nat×Bool)} {at_:Array TypeId} {f n:Nat} {S:List D} {O:Hp}
  (hg:ρr.f 53=g53) (C:s.ev x=some (.own f 0 n)) (ho:cr s.hp f 0=some (.rowD E 1 S)) (V:S=k.map zD) (hn:n=k.length) (hh:BH s.hp f 0 (.rowD E 1 ((CS k).map zD))=some O) (hd:Nat.blt d s.n=true):
  AH P F ⟨some d,.call {callee:= .value (.func g53),args:= #[x],argTypes:=at_},ty,pos,aft,gd⟩ s ⟨s.n,(d,.d (.tup []))::s.env,O⟩ (λ_ _=>true):=by
 subst hg V hn;intro ρ H w hs
 obtain ⟨fn6,hf1,hf2,hf3⟩:∃fn,P.funcs[ρr.f 53]? =some fn/\(fn.name== "runtime.NumGoroutine")=false/\fn.body.isSome=true:=by
  obtain ⟨nm,hn,hf⟩:=L.f53;exact ⟨_,hf,hn,Z⟩
 unfold Oper.wp;rw [show (#[x]:Array Operand)=[x].toArray from rfl,DC hf1 hf2 hf3,Oper.upon_enter]
 suffices J:Calls P (ρr.f 53) ([x].map H.eval).toArray w λe w'=>e= .returned (.tuple #[])/\SR F ⟨s.n,s.env,O⟩ ρ H w' by
  refine J.mono λe w' ⟨R,hsr⟩=>?_;subst R;exact ⟨ρ,hsr.put (IW hd) (.d (.tup Z λi c v hc=>by cases hc)),λ_ _ _=>rfl⟩
 have r0:=hs.ev C;have hg0:=ho;have h3:=hs.heap;have B:=Ag hh;obtain ⟨us,q1,q2,q3⟩:=h3.sim f 0 _ hg0;show Calls P (ρr.f 53) #[H.eval x] w _
 generalize H.eval x=V0 at r0
 cases r0 with
 | own T hle=>
  rename_i N r a
  by_cases C:k=[]
  .subst C;refine (AnyG.slices_Sort_int_none L a r w).mono λe w' ⟨R,e2⟩=>?_;subst R e2;refine ⟨Z,hs.writeG f 0 _ _ ho B Z Z Z (κ _) (κ _) (λ_ _ _=>rfl) (λ_ _ e=>by cases e) λW=>?_⟩;have h0:CS []=[]:=by simp [CS]
   rw [h0];exact ⟨us,q1,⟨by simpa using q2.1,λx C=>(by cases C),λi x C=>by simp at C⟩,λx C=>(by cases C)⟩
  .have hn:0<k.length:=gO.2 C;have hul:us.length=k.length:=by have:=q2.1;rw [ψ] at this;omega
   have G:∃b o,a=some ⟨b,0,none⟩/\w.heap[b]? =some (.cells o E (0,0))/\o.size=r/\k.length<=r/\r<=maxLen/\o.toList.take k.length=us/\N=k.length:=by
    rcases q1.2 with ⟨_,h⟩ | ⟨b,cap',o,R,_,e2,e3,e4,e5,e6⟩
    .grind
    grind
   obtain ⟨b,o,rfl,p1,p2,p3,p3',p4,rfl⟩:=G;have hb:B2 (ρ f 0)=some b:=by rw [T];rfl
   have Y:b<w.heap.size:=(fX.1 p1).1
   have hus:∀i (hi:i<k.length),us[i]? =some (.int .i64 k[i]):=λi hi=>by
    have hm:(k.map zD)[i]? =some (zD k[i]):=by rw [ζ,ω hi];rfl
    obtain ⟨u,hu,_,hr⟩:=q2.2.2 i _ hm 0 (zD k[i]) rfl;rw [fc,fG] at hu
    cases hr with
    | raw _=>exact hu
   have hH:Holds (Value.int .i64) w b 0 k.toArray:=by
    intro j hj
    grind [World.cell?,World.frozen?]
   have J:=AnyG.slices_Sort_int L b 0 r k w hH Y hsz;refine J.mono λe w' ⟨R,nd,os,hw⟩=>?_;subst R hw
   obtain ⟨z,K⟩:∃z,CS k=z:=⟨_,Z⟩
   have U:(k.mergeSort λx y=>decide (x<=y))=z:=K;have M:z.length=k.length:=by rw [<-K,Ea]
   rw [K] at B hh;rw [U];refine ⟨Z,?_⟩;have A:((putRow (Value.int .i64) (Go.Sort.ahead w nd) b 0 z.toArray)).heap.size=w.heap.size:=by rw [Go.Sort.size_putRow];rfl
   have X:∀I,I<w.heap.size ->I≠b ->(Go.Sort.grow (putRow (Value.int .i64) (Go.Sort.ahead w nd) b 0 z.toArray) os).heap[I]? =w.heap[I]?:=λI hl hne=>by
    rw [Go.Sort.heap_grow_old _ _ (by rw [A];exact hl)];show (w.heap.modify b _)[I]? =_;rw [gS,η (Ne.symm hne)]
   refine hs.writeG f 0 _ _ ho B Z Z Z (by rw [Go.Sort.size_grow,A];exact Nat.le_add_right _ _) (Nat.le_add_right _ _) (λI hl hno=>X I hl (λe=>hno (by rw [e];exact hb))) (λ_ _ e=>by cases e) λW=>?_
   have Q:(Go.Sort.grow (putRow (Value.int .i64) (Go.Sort.ahead w nd) b 0 z.toArray) os).heap[b]? =some (.cells (putCells (Value.int .i64) 0 z.toArray o) E (0,0)):=by
    rw [Go.Sort.heap_grow_old _ _ (by rw [A];exact Y)];show (w.heap.modify b _)[b]? =_;rw [gS,ϖ Z,p1];rfl
   have hcs:(putCells (Value.int .i64) 0 z.toArray o).size=r:=by simp only [putCells,Array.size_mapIdx];exact p2
   have l:(z.map zD).length=k.length:=by rw [ψ,M]
   refine ⟨z.map (Value.int .i64),⟨by rw [ψ,l,M,fc],.inr ⟨b,r,_,by rw [T,l],ϱ _,Q,by rw [l];exact p3,p3',by omega,?_⟩⟩,⟨by rw [ψ,l,M,fc],λx g=>?_,λi x g j c t=>?_⟩,λx g c t=>?_⟩
   .rw [l,fc]
    apply gM
    intro i
    by_cases hi:i<k.length
    .rw [gT hi,fi,ζ,ω (by omega),ez (by omega)];simp only [putCells,Array.getElem_mapIdx];rw [ϖ ⟨ϱ _,by simp;omega⟩];simp only [Nat.sub_zero,fS];rw [getElem!_pos _ i (by simp;omega)]
     simp
    .rw [fw (by rw [Θ];omega),fw (by rw [ψ];omega)]
   .obtain ⟨y,_,rfl⟩:=υ.1 g;rfl
   .rw [ζ] at g
    cases hyi:z[i]? with
    | none=>rw [hyi] at g;cases g
    | some y=>
     rw [hyi] at g;injection g with g;subst g
     have hj0:j=0:=by have:=(χ.1 t).1;simp [D.cells] at this;exact this
     subst hj0;simp only [D.cells,List.getElem?_cons_zero,Option.some.injEq] at t;subst t;exact ⟨.int .i64 y,by rw [fc,fG,ζ,hyi];rfl,Z,.raw Z⟩
   .obtain ⟨y,_,rfl⟩:=υ.1 g;simp only [D.cells,ξ] at t;subst t;rfl
end Go.Proofs.YtnkkaeblokdifaaGreat
namespace Go.Proofs.YtnkkaeblokdifaaGreat
open Go.RowKit
set_option maxRecDepth 100000
section
variable {P:Program} {F:Fr} {s:AS} {α β:Type} [DecidableEq α] {eK:α ->D} {eV:β ->D} {K:TypeId} {kv:α ->Value} {d:Nat} {ty T E:TypeId} {pos:String} {aft:Array Edge} {g:Option (Nat×Bool)} {x y z:Operand} {bs:Option (List Nat×Nat)}
variable {a:D}
theorem RW (m:List (α×β)) (b:α) (o v:β) {f i:Nat} (S:s.ev x=some (.map f i)) (W:cr s.hp f i=some (.map bs (BK eK eV m))) (R:s.ev y=some (.d (eK b))) (L:BY P T K E=true) (k:B3 P K eK kv) (Q:CX P E=some (.d a)) (U:∀w O v,AN w O a v ->AN w O (eV o) v) (V:AY m b o=v) (X:Nat.blt d s.n=true):
  AA P F ⟨some d,.lookup T x y false,ty,pos,aft,g⟩ s d (.d (eV v)):=
 CR _ X λl G w I=>by
  obtain ⟨mb,arr,c,N,_,M,C,B,_⟩:=I.mapAt S W;have J:G.eval y=kv b:=(I.repD R).val (k.val b);obtain ⟨H,A,u⟩:=Du Q w
  have t:∀r O l,AU r O l (.d (eV o)) H:=λr O l=>by
   have:=u r O l
   cases this with
   | d h=>exact .d (U _ _ _ h)
  subst V;rcases dx k C B b o with ⟨D,_,Z,_⟩ | ⟨j,e,D,g2,_,_,_,_,Y⟩
  .refine ⟨H,?_,by rw [Z];exact t _ _ _⟩
   simp [execOp,Instr.lookup,run_underlying (Us L),N,J,MapKept.run_getObj_map M,k.check,k.find w b _ _ (WX k C B),D,A,Result.andThen]
  .refine ⟨e.val,?_,.d Y⟩
   simp [execOp,Instr.lookup,run_underlying (Us L),N,J,MapKept.run_getObj_map M,k.check,k.find w b _ _ (WX k C B),D,Result.andThen]
theorem MQ (m:List (α×β)) (b:α) (D:β) {f i:Nat} (hx:s.ev x=some (.map f i)) (ho:cr s.hp f i=some (.map bs (BK eK eV m))) (hy:s.ev y=some (.d (eK b))) (W:BY P T K E=true) (o:B3 P K eK kv) (hz:CX P E=some (.d a)) (hw:∀w O v,AN w O a v ->AN w O (eV D) v) (hd:Nat.blt d s.n=true):
  AA P F ⟨some d,.lookup T x y true,ty,pos,aft,g⟩ s d (.tup [.d (eV (AY m b D)),.d (.raw (.bool (Ml m b)))]):=
 CR _ hd λk N w U=>by
  obtain ⟨mb,arr,c,Y,_,C,t,L,_⟩:=U.mapAt hx ho;have V:N.eval y=kv b:=(U.repD hy).val (o.val b);obtain ⟨S,J,I⟩:=Du hz w
  have H:∀G O k,AU G O k (.d (eV D)) S:=λG O k=>by
   have:=I G O k
   cases this with
   | d h=>exact .d (hw _ _ _ h)
  have l:∀{A u:Value} {R Q:AV},AU w (F.O k s.hp) k R A ->AU w (F.O k s.hp) k Q u ->AU w (F.O k s.hp) k (.tup [R,Q]) (.tuple #[A,u]):=λ{A u R Q} C t=>by
   refine .tup (vs:=[A,u]) Z λi b v r B=>?_;rcases i with _ | _ | i
   .simp at r B;subst r B;exact C
   .simp at r B;subst r B;exact t
   .simp at r
  rcases dx o t L b D with ⟨M,X,g3,_⟩ | ⟨j,e,M,X,_,g4,_,_,g7⟩
  .refine ⟨.tuple #[S,.bool false],?_,l (by rw [g3];exact H _ _ _) (by rw [X];exact .d (.raw Z))⟩
   simp [execOp,Instr.lookup,run_underlying (Us W),Y,V,MapKept.run_getObj_map C,o.check,o.find w b _ _ (WX o t L),M,J,Result.andThen]
  .refine ⟨.tuple #[e.val,.bool true],?_,l (.d g7) (by rw [g4];exact .d (.raw Z))⟩
   simp [execOp,Instr.lookup,run_underlying (Us W),Y,V,MapKept.run_getObj_map C,o.check,o.find w b _ _ (WX o t L),M,Result.andThen]
end
theorem Gc:∀w O v,AN w O (.agg [AF 0,AF 0,AF 0,.sl (some true) [],.sl (some true) [],.sl (some true) []]) v ->AN w O (Ap cv) v:=λw O v h=>h.aggMono Z (by simp [D.one]) λi c g b a v f=>by
 match i,b,a with
 | 0,b,a=>injection b with b;injection a with a;subst b a;exact f
 | 1,b,a=>injection b with b;injection a with a;subst b a;exact f
 | 2,b,a=>injection b with b;injection a with a;subst b a;exact f
 | 3,b,a=>injection b with b;injection a with a;subst b a;exact f.anyNil
 | 4,b,a=>injection b with b;injection a with a;subst b a;exact f.anyNil
 | 5,b,a=>injection b with b;injection a with a;subst b a;exact f.anyNil
def jW (l:List cw):List cw:=l.mergeSort λa b=>decide (Ba a.r b.r<=0)
theorem Kc (l:List cw):(jW l).Perm l:=List.mergeSort_perm l _
theorem ah (l:List cw):(jW l).length=l.length:=(Kc l).length_eq
theorem kM {a b c:AO} (g:Ba a b<=0) (f:Ba b c<=0):Ba a c<=0:=by
 by_cases i:Ba a b=0
 .rw [Cr.1 i];exact f
 .by_cases h:Ba b c=0
  .rw [<-Cr.1 h];exact g
  .have:=Ly.trans a b c (by omega) (by omega);omega
theorem SE (l:List cw):(jW l).Pairwise λa b=>¬Ba b.r a.r<0:=by
 have:=List.pairwise_mergeSort (le:=λa b:cw=>decide (Ba a.r b.r<=0)) (λa b c g f=>by simp only [fI] at*;exact kM g f) (λa b=>by simp only [Bool.or_eq_true,fI];have:=Ly.anti a.r b.r;omega) l
 exact this.imp λ{a b} h=>by
  have i:Ba a.r b.r<=0:=by simpa using h
  have:=Ly.anti a.r b.r;omega
theorem ib {g:Type} (f:g ->AO) {l m i:List g} (c:(l.map f).Nodup) (s:m.Perm l) (j:m.Pairwise λa b=>¬Ba (f b) (f a)<0) (o:i.Perm l) (t:i.Pairwise λa b=>¬Ba (f b) (f a)<0):i=m:=by
 have r:∀{k:List g},(k.map f).Nodup ->(k.Pairwise λa b=>¬Ba (f b) (f a)<0) ->k.Pairwise λa b=>Ba (f a) (f b)<0:=λ{k} c h=>by
  rw [List.Nodup,ep] at c;refine (h.and c).imp λ{a b} ⟨v,u⟩=>?_;have o:=Ly.anti (f a) (f b);have t:Ba (f a) (f b)≠0:=λe=>u (Cr.1 e);omega
 exact lx (R:=λa b=>Ba (f a) (f b)<0) (λx=>by rw [Ly.refl];omega) (λx y z=>Ly.trans _ _ _) (r ((o.map f).nodup_iff.2 c) t) (r ((s.map f).nodup_iff.2 c) j) λx=>by rw [o.mem_iff,s.mem_iff]
structure gF where
 r:AO
 n:Int
 q:List Int
abbrev Mo (x:gF):D:= .agg [AF x.r.k,Ae x.r.acc.o,AF x.r.acc.k,Ae x.r.acc.a,Ae x.r.f,Ae x.r.t,AF x.n,.sl none (x.q.map AF)]
theorem aj (x:gF):∃a,Mo x= .agg a:=⟨_,Z⟩
def HR (p:dG) (x:cw):gF:=⟨x.r,max x.n 0,dO (dC p) x.r⟩
def cy (p:dG):List gF:=(jW p.ro).map (HR p)
theorem H8 (p:dG):(cy p).length=p.ro.length:=by unfold cy;rw [ψ,ah]
theorem R9 {l:List cw} (h:CY l=0):(l.map cw.r).Nodup:=by
 have c:=Pc.1 h;rw [List.Nodup,ep,fR];intro i j f a b e;have:=c j (Γ.2 a)
 grind [L1,Mm]
theorem Vr {p:dG} (f:Ai p=0) {c:List gF} (h:c.Perm (p.ro.map (HR p))) (g:c.Pairwise λa b=>¬Ba b.r a.r<0):c=cy p:=by
 refine ib gF.r (l:=p.ro.map (HR p)) ?_ ((Kc p.ro).map _) ?_ h g
 .rw [dl];exact R9 (JA f).1
 .unfold cy;rw [ep];exact SE p.ro
theorem oV (a b:gF):AM prog 117 [.d (Mo a),.d (Mo b)] (AF (Ba a.r b.r)):=by
 refine Av func117 Z Z ntmps117 Z Z Z λF c=>(AC (AE (V (CQ 1 Z Z Z Z Z Z Z) (V (CQ 2 Z Z Z Z Z Z Z) (AB Z Z (AD (AC ?_)))))));refine AE (J (A1 Z Jh Z Z Z) (J (B1 Z Z CL Z Z Z) (J (A1 Z Jh Z Z Z) (J (B1 Z Z CL Z Z Z) (J (B5 (Kv a.r b.r) Z Z) (AB Z Z (AD (A6 ?_))))))));exact ⟨_,[],[],A4 Z,Z,Z,Z,Z⟩
def CI (l:List AG):List (Int×AG):=l.map λi=>(i.id,i)
theorem U5 {l:List AG} {i:AG} (h:i.id∉l.map AG.id):BA (CI l) i.id i=CI (l++ [i]):=by
 induction l with
 | nil=>rfl
 | cons a l b=>
  grind [BA,CI]
section
variable {β:Type}
end
variable {a:dG} {c:List (Int×Bool)} {k:Nat} {f:List Int} {g:Type}
def Hr (p:dG):List Int:=(dC p).map AG.id
abbrev HA (p:dG):Hp:=[(10,[.blk 215 [.map 11 0,.d (.sl none ((Hr p).map AF)),.d (.sl none ((cy p).map Mo))]]),(11,[BD AF Ap (CI p.it)])]
theorem qV (a:Int):(if 0>a then 0 else a)=max a 0:=by omega
theorem Nj (p:dG) (t:EP p) (C:Ai p=0):AK prog 58 [.d (CM p)] [] λr N=>r= .tup [.ptr 3 0 0,.d (AF 0)]/\N=[(3,[.blk 215 [.map 2 0,.d (.sl none ((Hr p).map AF)),.d (.sl none ((cy p).map Mo))]]),(2,[BD AF Ap (CI p.it)])]:=by
 have s:=Fz p t;rw [C] at s;have B:=WY (JA C).2.1;have w:=HY p t;have I:=t.1;have H:=t.2.1;refine Av func58 Z Z ntmps58 Z Z Z λF u=>(AC (AE (V (CQ 1 Z Z Z Z Z Z Z) ?_)));refine AB Z Z (AB Z Z (AD (AC (AC (AE (J (B1 Z Z Bc Z Z Z) (J (B5 (s) Z Z) (AB Z Z ?_))))))));refine AD (AC (AE (cl Z Z (J (EO Z Z Z) (AD (EV Z ((by decide)) (AZ (AC ?_))))))));refine AE (V (Pd 2 Z Z Z Z) (J (B1 Z Z Bc Z Z Z) (J (B5 (w) Z Z) (J (FU pA qD Z Z Z) (V (CQ 3 Z Z Z Z Z Z Z) (AB Z Z (AD (AC ?_))))))));refine AC (AE (J (A1 Z EM Z Z Z) (J (A5 Z Z Z K6 Z) (J (CV Z F0 Z) (cl Z Z (AD (A2 (Bb (α:=Nat) (λk=>⟨68,[(1,(.ptr 1 0 0)),(5,(.ptr 3 0 0)),(21,(.d (.sl none (p.it.map Ap)))),(22,(.d (AF (p.it.length:Int)))),(23,(.d (AF (k:Int))))],[(1,[VW 31 p]),(3,[.blk 215 [.map 2 0,.d (.sl none ((Hr p).map AF)),XV]]),(2,[BD AF Ap (CI (p.it.take k))])]⟩) (λk=>k<=p.it.length) (λk=>p.it.length - k) (0) (ϱ _) (A0 u [1,3,2] Z Z ⟨Z,Z,Z,Z,Z,trivial⟩) ?_))))))));rintro k G;refine AC (AE (J (BW Z Z Z) (AD (AC (Ah Z (λl=>?_) (λl=>?_))))))
 .have g:k<p.it.length:=Bi l;refine AZ (AC (A2 (AC (AE ?_))));have z:p.it[k].id∉(p.it.take k).map AG.id:=λh=>by have D:=B;rw [List.Nodup,ep,fR] at D;obtain ⟨x,E,e⟩:=υ.1 h;obtain ⟨j,O,rfl⟩:=gg.1 E;exact D j k (by omega) g (by omega) e
  refine J (Bq (k) Z Z (Z) (Aq g) F0 Z Cu Z) (J (IX Z Z Bs Z) (V (CE 4 Fc Z Z Z Z) (V (Bk Z Z Z Z Z Z Z Cu) (AD (Dr [[],[0],[0,1],[0,1,2],[],[4],[],rg 7] mixed Z (E6 (At 5 Z Z (AX [27] Z (KE Z Z) ?_))))))));refine AX [28] Z (A1 Z Jj Z Z Z) (BQ [29] Z Z (λ_=>A9 (A5 Z Z Z Rp Z)) (AX [7] Z (A1 Z Ny Z Z Z) (BQ [31] Z Z (λ_=>A9 (A5 Z Z Z BE Z)) (BQ [7] Z Z (λ_=>A9 (B1 Z Z Bs Z Z Z)) (Dh 7 Z Z Z (An 8 Z Z (V (Tc (CI (p.it.take k)) (p.it[k].id) (p.it[k]) Z Z Z SB HI Z Z) (AD ⟨Z,?_⟩))))))));refine Dg (AE (J (Aw Z Z (AQ (k+1) (by omega)) Z) (cl Z Z (AD ?_))));exact ⟨k+1,by show k+1<=_;omega,by show p.it.length - (k+1)<p.it.length - k;omega,A0 u [1,3,2] Z (by rw [φ g,<-U5 z];rfl) ⟨Z,Z,Z,Z,Z,trivial⟩⟩
 .refine BL (AC (AC ?_));rw [ς (show p.it.length<=k by have h:=l;omega)];refine GL 3 0 2 900 ZK Z Z Z Z Z Z Z (AE (J (A1 Z Fj Z Z Z) (J (A5 Z Z Z Ro Z) (J (CV Z an Z) (cl Z Z (AD (A2 (Bb (α:=Nat×List gF) (λq=>⟨68,[(1,(.ptr 1 0 0)),(5,(.ptr 3 0 0)),(36,(.d (.sl none (p.ro.map Cv)))),(37,(.d (AF (p.ro.length:Int)))),(38,(.d (AF (q.1:Int))))],[(900,[.rowD 218 8 (q.2.map Mo)]),(1,[VW 31 p]),(3,[.blk 215 [.map 2 0,.d (.sl none ((Hr p).map AF)),.own 900 0 q.2.length]]),(2,[BD AF Ap (CI p.it)])]⟩) (λq=>q.1<=p.ro.length/\q.2=(p.ro.take q.1).map (HR p)) (λq=>p.ro.length - q.1) ((0,[])) (⟨ϱ _,Z⟩) (A0 u [900,1,3,2] Z Z ⟨Z,Z,Z,Z,Z,trivial⟩) ?_))))))));rintro ⟨m,c⟩ ⟨A,v⟩;dsimp only at A v⊢;refine AC (AE (J (BW Z Z Z) (AD (AC (Ah Z (λi=>?_) (λi=>?_))))))
  .have o:m<p.ro.length:=Bi i;refine AZ (AC (A2 (AC (AE ?_))));have K:c.length<=100000:=by rw [v,ψ,Θ];omega
   refine J (Bq (m) Z Z (Z) (Aq o) an Z OA Z) ?_;refine J (IX Z Z ZR Z) (V (CE 5 Qv Z Z Z Z) (V (Bk Z Z Z Z Z Z Z OA) (AD (Dr [[],[],[1],[1,2],[1,2,3],[],[5],[],[7],[7,8],[],[],[11],[10,11,12],[5,6,7,8,9,10,11,12,13],[5,6,7,8,9,10,11,12,13,14],[1,2,3,4,5,6,7,8,9,10,11,12,13,14,15],rg 17,rg 18,rg 19] mixed Z (E6 (At 5 Z Z (At 5 Z Z (AX [43] Z (KE Z Z) ?_))))))));refine AX [44] Z (A1 Z Ji Z Z Z) (By [45] [3] Z Z (λ_=>A9 (A5 Z Z Z V6 Z)) (AX [9] Z (A1 Z FD Z Z Z) (By [47] [5] Z Z (λ_=>A9 (B1 Z Z CL Z Z Z)) (AX [9] Z (A1 Z QW Z Z Z) (By [49] [5] Z Z (λ_=>A9 (A5 Z Z Z L3 Z)) (AX [50] Z (Pq Z Z (qV _) Z) (By [1] [1] Z Z (λ_=>A9 (B1 Z Z Bc Z Z Z)) (AX [9] Z (A1 Z FD Z Z Z) ?_))))))));refine By [53] [5] Z Z (λ_=>A9 (B1 Z Z CL Z Z Z)) (AX [52,54] Z (B5 (ip p p.ro[m].r t) Z Z) (AX [48,51,55] Z (FU Y2 qC Z Z Z) (IU [56] [50] [(57,_)] Z Z (λ_=>IV (EH 50 ZK Z Z Z Z Z Z Z Z)) (.inr ⟨57,_,Z,Z,Z,Z,Z⟩) Z Z Z Z Z (IU [46,57] [900,50,3,2] [(58,_)] Z Z (λ_=>IV (Ic (c) ([HR p p.ro[m]]) Z Z Z Z Z Z Z Z ZK (by simp only [Φ];omega) Z Z Z Z)) (.inr ⟨58,_,Z,Z,Z,Z,Z⟩) Z Z Z Z Z (Dh 17 Z Z Z (An 18 Z Z (J (KE Z Z) (AD ⟨Z,?_⟩))))))));refine An 19 Z Z (J (A1 Z Ji Z Z Z) (AD ⟨Z,?_⟩));refine An 20 Z Z (V (Bk Z Z Z Z Z Z Z pS) (AD ⟨Z,?_⟩));refine Dg (AE (J (Aw Z Z (AQ (m+1) (by omega)) Z) (cl Z Z (AD ?_))));exact ⟨(m+1,c++ [HR p p.ro[m]]),⟨by show m+1<=_;omega,by show c++ [HR p p.ro[m]]=(p.ro.take (m+1)).map (HR p);rw [D0 o,v]⟩,by show p.ro.length - (m+1)<p.ro.length - m;omega,A0 u [900,1,3,2] Z (Z) ⟨Z,Z,Z,Z,Z,trivial⟩⟩
  .refine BL (AC ?_);have f:c=p.ro.map (HR p):=by rw [v,ς (by have h:=i;omega)]
   refine AE (cl Z Z (J (KE Z Z) (J (A1 Z Ji Z Z Z) (J (A5 Z Z Z V6 Z) (V (La nN (k:=8) (by decide) isAgg218 sizeOf218 func117 Z Z aj (λa b=>Ba a.r b.r) ((Ly.comap gF.r).swo) c (cy p) (by rw [f,ψ];omega) (λx _ y _=>oV x y) (λys M L=>Vr C (by rw [<-f];exact M) L) Z Z Z Kq Z Z Z Z Z) ?_)))));refine AD (AC (IT (ys:=(cy p).map Mo) 3 0 2 900 Z Z Z (by rw [ψ,H8,f,ψ];exact κ _) (ς (by rw [ψ,H8,f,ψ];exact κ _)) Z Z Z Z Z Z (AE (cl Z Z (AB Z Z (AB Z Z (AD (A6 ?_))))))));exact ⟨_,[3,2],_,A4 Z,Z,Z,Z,Z⟩
theorem TQ (p:dG) (b:EP p) (c:Ai p≠0):AM prog 58 [.d (CM p)] (.tup [.raw (.pointer none),AF (Ai p)]):=by
 have a:=Fz p b;refine Av func58 Z Z ntmps58 Z Z Z λF f=>(AC (AE (V (CQ 1 Z Z Z Z Z Z Z) (AB Z Z (AB Z Z (AD (AC (AC ?_))))))));refine AE (J (B1 Z Z Bc Z Z Z) (J (B5 (a) Z Z) (AB Z Z (AD (AC (AE (cl Z Z (J (EO Z Z Z) ?_))))))));refine AD (Dt Z ((dm c)) (AC (AE (cl Z Z (AB Z Z (AB Z Z (AD (A6 ?_))))))));exact ⟨_,[],[],A4 Z,Z,Z,Z,Z⟩
theorem U6 (l:List AG) (i:Int):AY (CI l) i cv=l.getD ((l.map AG.id).idxOf i) cv:=by
 induction l with
 | nil=>rfl
 | cons a l b=>
  grind [AY,CI]
theorem Iq (l:List AG) (i:Int):Ml (CI l) i=decide (i∈l.map AG.id):=by
 rw [gv,Ez,fI];unfold CI;rw [dl];rfl
theorem PP (p:dG) (i:Int):AY (CI p.it) i cv=dF p i:=U6 p.it i
theorem QP (b:EP a) (i:Int):(dF a i).po.length<=100000/\(dF a i).pa.length<=100000/\(dF a i).af.length<=100000:=by grind [dF,cv,EP]
theorem M8 (p:dG) (l:List Int) (v:EP p) (y:l.length<=100000) (c:DQ p l=0):AK prog 156 [.d (CM p),.d (.sl none (l.map AF))] [] λr x=>r= .tup [.ptr 10 0 0,.map 2 0,.d (AF 0)]/\x=HA p++ [(2,[BD AF Ac (BB l)])]:=by
 have t:Ai p=0:=by
  unfold DQ at c;split at c
  .exact c
  .rename_i h;simpa using h
 have o:=(Nj p v t).by [(3,10),(2,11)] rfl;have w:DQ p l=Pv (p.it.map AG.id) l:=η (λh=>h t);rw [w] at c;refine Av func156 Z Z ntmps156 Z Z Z λF s=>(AC (AE (V (CQ 1 Z Z Z Z Z Z Z) ?_)));refine AB Z Z (AB Z Z (AB Z Z (AD (AC (AE (J (B1 Z Z Bc Z Z Z) (V (Eh o Z [10,11] ⟨Z,Z,trivial⟩ Z Z Z Z Z Z Z Z Z) (cl Z Z ?_))))))));refine J (C8 Z Z Z) (J (C8 Z Z Z) (AB Z Z (AB Z Z (AD (AC (AC (AE (cl Z Z ?_))))))));refine J (EO Z Z Z) (AD (EV Z ((by decide)) (AZ (AC (AE (V (Pd 2 Z Z Z Z) (AB Z Z (AD ?_))))))));refine AC (AC (AE (cl Z Z (J (CV Z E0 Z) (cl Z Z (AD (A2 (Bb (α:=Nat) (λk=>⟨48,[(7,(.ptr 10 0 0)),(9,(.map 2 0)),(23,(.d (.sl none (l.map AF)))),(24,(.d (AF (l.length:Int)))),(25,(.d (AF (k:Int))))],HA p++ [(2,[BD AF Ac (BB (l.take k))])]⟩) (λk=>k<=l.length) (λk=>l.length - k) (0) (ϱ _) (A0 s [10,11,2] Z Z ⟨Z,Z,Z,Z,Z,trivial⟩) ?_))))))));rintro k u;refine AC (AE (J (BW Z Z Z) (AD (AC (Ah Z (λb=>?_) (λb=>?_))))))
 .have a:k<l.length:=Bi b;refine AZ (AC (A2 (AC (AE ?_))));have i:l[k]∈p.it.map AG.id:=(Pu c).2 _ (θ a);have f:l[k]∉l.take k:=λh=>by have g:=(Pu c).1;rw [List.Nodup,fR] at g;obtain ⟨j,z,e⟩:=gg.1 h;exact g j k (by omega) a (by omega) e
  refine J (Bq (k) Z Z (Z) (Aq a) E0 Z B4 Z) (J (EJ Z Z BE Z) (AB Z Z (AD (AC (AC (AE (cl Z Z (J (KE Z Z) ?_))))))));refine J (A1 Z Jj Z Z Z) (J (A5 Z Z Z Rp Z) (cl Z Z (J (MQ (CI p.it) l[k] cv Z Z Z SB HI iF Gc Z) (cl Z Z (J (C8 Z Z Z) (J (C8 Z Z Z) (V (CE 3 Fc Z Z Z Z) (V (Bk Z Z Z Z Z Z Z Cu) ?_))))))));refine AB Z Z (AD (AC (AE (cl Z Z (J (CF Z Z) (AD (EV Z ((by rw [Iq,dm i];rfl)) (AZ ?_))))))));refine AC (AC (AE (cl Z Z (cl Z Z (J (HO (BB (l.take k)) (l[k]) (false) _ Z Z Z I8 HI T5 Z Z) (AD (EV Z ((by rw [W4];exact dw f)) (AZ ?_))))))));refine AE (cl Z Z (cl Z Z (V (Tc (BB (l.take k)) (l[k]) (true) Z Z Z I8 HI Z Z) (AD (AE (J (Aw Z Z (AQ (k+1) (by omega)) Z) (cl Z Z (AD ?_))))))));exact ⟨k+1,by show k+1<=_;omega,by show l.length - (k+1)<l.length - k;omega,A0 s [10,11,2] Z (by rw [φ a,<-cb f];rfl) ⟨Z,Z,Z,Z,Z,trivial⟩⟩
 .refine BL ?_;refine AC (AE (cl Z Z (cl Z Z (AB Z Z (AB Z Z (AB Z Z (AD (A6 ?_))))))));exact ⟨_,[10,11,2],_,A4 Z,Z,Z,Z,by rw [ς (show l.length<=k by have h:=b;omega)];rfl⟩
theorem Re (p:dG) (l:List Int) (z:EP p) (C:l.length<=100000) (w:DQ p l≠0):AM prog 156 [.d (CM p),.d (.sl none (l.map AF))] (.tup [.raw (.pointer none),.raw (.map none),AF (DQ p l)]):=by
 by_cases s:Ai p=0
 .have t:=(Nj p z s).by [(3,10),(2,11)] rfl;have x:DQ p l=Pv (p.it.map AG.id) l:=η (λh=>h s);rw [x] at w⊢
  obtain ⟨B,r⟩:∃e,Pv (p.it.map AG.id) l=e:=⟨_,Z⟩
  rw [r] at w⊢;refine Av func156 Z Z ntmps156 Z Z Z λF v=>(AC (AE (V (CQ 1 Z Z Z Z Z Z Z) ?_)));refine AB Z Z (AB Z Z (AB Z Z (AD (AC (AE (J (B1 Z Z Bc Z Z Z) (V (Eh t Z [10,11] ⟨Z,Z,trivial⟩ Z Z Z Z Z Z Z Z Z) (cl Z Z ?_))))))));refine J (C8 Z Z Z) (J (C8 Z Z Z) (AB Z Z (AB Z Z (AD (AC (AC (AE (cl Z Z ?_))))))));refine J (EO Z Z Z) (AD (EV Z ((by decide)) (AZ (AC (AE (V (Pd 2 Z Z Z Z) (AB Z Z (AD ?_))))))));refine AC (AC (AE (cl Z Z (J (CV Z E0 Z) (cl Z Z (AD (A2 (Bb (α:=Nat) (λk=>⟨48,[(7,(.ptr 10 0 0)),(9,(.map 2 0)),(23,(.d (.sl none (l.map AF)))),(24,(.d (AF (l.length:Int)))),(25,(.d (AF (k:Int))))],HA p++ [(2,[BD AF Ac (BB (l.take k))])]⟩) (λk=>k<=l.length/\B=B7 (((List.range l.length).drop k).map (Gy (p.it.map AG.id) l))) (λk=>l.length - k) (0) (⟨ϱ _,r.symm⟩) (A0 v [10,11,2] Z Z ⟨Z,Z,Z,Z,Z,trivial⟩) ?_))))))));rintro k ⟨A,y⟩;refine AC (AE (J (BW Z Z Z) (AD (AC (Ah Z (λo=>?_) (λo=>?_))))))
  .have f:k<l.length:=Bi o;refine AZ (AC (A2 (AC (AE ?_))));have j:=EB f y;have i:=DW 0 f;refine J (Bq (k) Z Z (Z) (Aq f) E0 Z B4 Z) (J (EJ Z Z BE Z) (AB Z Z (AD (AC (AC (AE (cl Z Z ?_)))))));refine J (KE Z Z) (J (A1 Z Jj Z Z Z) (J (A5 Z Z Z Rp Z) (cl Z Z (J (MQ (CI p.it) l[k] cv Z Z Z SB HI iF Gc Z) (cl Z Z (J (C8 Z Z Z) (J (C8 Z Z Z) (V (CE 3 Fc Z Z Z Z) ?_))))))));refine V (Bk Z Z Z Z Z Z Z Cu) (AB Z Z (AD (AC (AE (cl Z Z (J (CF Z Z) (AD (KH Z (λb=>?_) (λb=>?_)))))))))
   .have g:¬l[k]∈p.it.map AG.id:=by rw [Iq] at b;simpa using b
    refine AC (AE (AB Z Z (AB Z Z (AB Z Z (AD (A6 ?_))))));exact ⟨_,[],[],A4 Z,Z,Z,by rw [j.2 9 (by unfold Gy;rw [i,ϖ g]) (by decide)],Z⟩
   .have g:l[k]∈p.it.map AG.id:=by rw [Iq] at b;simpa using b
    refine AZ (AC (AC (AE (cl Z Z (cl Z Z (J (HO (BB (l.take k)) (l[k]) (false) _ Z Z Z I8 HI T5 Z Z) (AD (KH Z (λa=>?_) (λa=>?_)))))))))
    .have c:l[k]∈l.take k:=by rw [W4] at a;simpa using a
     refine AC (AE (AB Z Z (AB Z Z (AB Z Z (AD (A6 ?_))))));exact ⟨_,[],[],A4 Z,Z,Z,by rw [j.2 7 (by unfold Gy;rw [i,η (λh=>h g),ϖ c]) (by decide)],Z⟩
    .have c:¬l[k]∈l.take k:=by rw [W4] at a;simpa using a
     refine AZ ?_;refine AE (cl Z Z (cl Z Z (V (Tc (BB (l.take k)) (l[k]) (true) Z Z Z I8 HI Z Z) (AD (AE (J (Aw Z Z (AQ (k+1) (by omega)) Z) (cl Z Z (AD ?_))))))));exact ⟨k+1,⟨by show k+1<=_;omega,j.1 (by unfold Gy;rw [i,η (λh=>h g),η c])⟩,by show l.length - (k+1)<l.length - k;omega,A0 v [10,11,2] Z (by rw [φ f,<-cb c];rfl) ⟨Z,Z,Z,Z,Z,trivial⟩⟩
  .refine BL ?_;refine AC (AE (cl Z Z (cl Z Z (AB Z Z (AB Z Z (AB Z Z (AD (A6 ?_))))))));exact absurd (by rw [y,List.drop_of_length_le (by have h:=o;simp only [eT];omega)];rfl) w
 .have x:DQ p l=Ai p:=ϖ s;have u:=TQ p z s;rw [x];refine Av func156 Z Z ntmps156 Z Z Z λF v=>(AC (AE (V (CQ 1 Z Z Z Z Z Z Z) (AB Z Z (AB Z Z ?_)))));refine AB Z Z (AD (AC (AE (J (B1 Z Z Bc Z Z Z) (J (B5 (u) Z Z) (cl Z Z (J (Ds Z Z Z) (J (Ds Z Z Z) ?_))))))));refine AB Z Z (AB Z Z (AD (AC (AC (AE (cl Z Z (J (EO Z Z Z) (AD ?_))))))));refine Dt Z ((dm s)) (AC (AE (cl Z Z (AB Z Z (AB Z Z (AB Z Z (AD (A6 ?_))))))));exact ⟨_,[],[],A4 Z,Z,Z,Z,Z⟩
structure ek where
 i:Int
 m:Int
 r:AO
 deriving DecidableEq
abbrev OD:AO:=⟨0,TU,[],[]⟩
abbrev OU (x:ek):D:= .agg [AF x.i,AF x.m,AF x.r.k,Ae x.r.acc.o,AF x.r.acc.k,Ae x.r.acc.a,Ae x.r.f,Ae x.r.t]
def fO (i:Int) (q:List Int):Nat:=(max (ja i q) 0).toNat
def CT (i:Int) (q:List Int):List Int:=q.take (fO i q)
def XF (i:Int) (af:List Int):List ek:=(CS af).map λx=>⟨i,x,OD⟩
def E1 (i:Int) (x:gF):List ek:=(CT i x.q).map λy=>⟨i,y,x.r⟩
def Nv (p:dG) (i:Int):List ek:=XF i (dF p i).af++(cy p).flatMap (E1 i)
def E7 (dg:Int ->Bool) (l:List ek):List ek:=l.filter λb=>!dg b.m
def dg (M:List (Int×Bool)) (x:Int):Bool:=AY M x false
theorem Zg (i:Int) (q:List Int):fO i q<=q.length:=by grind [fO,ja]
theorem Zh (i:Int) (q:List Int):max (ja i q) 0=(fO i q:Int):=by unfold fO;omega
theorem TN (f:Int ->Bool) (l m:List ek):E7 f (l++m)=E7 f l++E7 f m:=fy _ _
theorem FH (f:Int ->Bool) (l:List ek):(E7 f l).length<=l.length:=fx _ _
theorem IQ {f:Int ->Bool} {l:List ek} (a:k<l.length):E7 f (l.take (k+1))=E7 f (l.take k)++(if !f l[k].m then [l[k]] else []):=GF a
theorem GG {a:Type} {f:g ->List a} {l:List g} (b:k<l.length):(l.take (k+1)).flatMap f=(l.take k).flatMap f++f l[k]:=by
 rw [φ b,List.flatMap_append];simp
theorem Jf {b c:Type} {f:b ->List c} {n:Nat}:∀{l:List b},(∀x∈l,(f x).length<=n) ->(l.flatMap f).length<=l.length*n
 | [],_=>by simp
 | a::l,h=>by
  have j:=h a (by simp);have i:=Jf (l:=l) (λx g=>h x (by simp [g]));rw [List.flatMap_cons,Ω,gm,gI];omega
theorem ai (x:gF) (b:x∈cy a):x.q.length<=a.it.length:=by
 unfold cy at b;obtain ⟨y,_,rfl⟩:=υ.1 b;show (dO (dC a) y.r).length<=_
 grind [dO,DH]
theorem Rb (i:Int) (x:gF) (b:x∈cy a):(E1 i x).length<=a.it.length:=by
 unfold E1 CT;rw [ψ,Θ];have:=ai x b;omega
abbrev mapV (mv:Nat):AV:= .d (.raw (.map (some mv)))
abbrev hU (p:dG) (mv:Nat) (bs:Option (List Nat×Nat)) (M:List (Int×Bool)):Hp:=HA p++ [(12,[.map bs (BK AF Ac M)]),(13,[.addr 12 0 (.map (some mv))])]
theorem Um (p:dG) (g:Nat) (K:Option (List Nat×Nat)) (M:List (Int×Bool)) (i:Int) (hb:EP p) (h1:p.it.length<=1000) (h2:p.ro.length<=1000):AK prog 120 [.ptr 10 0 0,mapV g,.d (AF i)] (hU p g K M) λr H'=>r= .d (.sl none ((E7 (dg M) (Nv p i)).map OU))/\H'=hU p g K M:=by
 have hI:=PP p i;have hIb:=QP hb i;have hLl:=H8 p;have W:=(cH (dF p i).af (by omega)).by [(20,21)] rfl;have E:∀x∈cy p,(E1 i x).length<=1000:=λx N=>dh (Rb i x N) h1;have B:=Ea (dF p i).af
 obtain ⟨S,X⟩:∃S,CS (dF p i).af=S:=⟨_,Z⟩
 have C:Nv p i=(S.map λx=>(⟨i,x,OD⟩:ek))++(cy p).flatMap (E1 i):=by unfold Nv XF;rw [X]
 rw [C];rw [X] at B;refine Av func120 Z Z ntmps120 Z Z Z λF s=>(AC ?_);refine AE (AB Z Z (AD (AC (AE (AB Z Z (AD (AC (O0 7 900 MU Z Z Z Z ?_))))))));refine AE (cl Z Z (J (KE Z Z) (J (A1 Z Jj Z Z Z) (J (A5 Z Z Z Rp Z) (cl Z Z (J (RW (CI p.it) i cv (dF p i) Z Z Z SB HI iF Gc hI Z) (J (Tt Z FE Z Z) (V (Eh W Z [21] ⟨Z,trivial⟩ Z Z Z Z Z Z Z Z Z) ?_))))))));refine AB Z Z (AD (AC (AE (cl Z Z (V (RO li (dF p i).af (by omega) Z Z Z Z Z Z Z) (AD (AC (AC ?_))))))));rw [X];refine L6 (emb:=AF) 8 21 S Z Z Z B.symm Z Z Z (AE (cl Z Z (J (CV Z E0 Z) (cl Z Z (AD (A2 (Bb (α:=Nat×List ek) (λq=>⟨81,[(0,.ptr 10 0 0),(1,mapV g),(2,.d (AF i)),(7,(.own 900 0 q.2.length)),(26,(.d (.sl none (S.map AF)))),(27,(.d (AF (S.length:Int)))),(28,(.d (AF (q.1:Int))))],hU p g K M++ [(900,[.rowD 229 8 (q.2.map OU)])]⟩) (λq=>q.1<=S.length/\q.2=E7 (dg M) ((S.map λx=>(⟨i,x,OD⟩:ek)).take q.1)) (λq=>S.length - q.1) ((0,[])) (⟨ϱ _,Z⟩) (A0 s [10,11,12,13,900] Z Z ⟨Z,Z,Z,Z,Z,Z,Z,trivial⟩) ?_)))))));rintro ⟨k,c⟩ ⟨Q,I⟩;dsimp only at Q I⊢;refine AC (AE (J (BW Z Z Z) (AD (AC (Ah Z (λA=>?_) (λA=>?_))))))
 .have t:k<S.length:=Bi A;refine AZ (AC (A2 (AC (AE (J (Bq (k) Z Z (Z) (Aq t) E0 Z B4 Z) (J (EJ Z Z BE Z) (AB Z Z (AD ?_))))))));refine AC (AE (cl Z Z (DJ 32 13 0 Z Z (cl Z Z (J (HO M S[k] false (dg M S[k]) Z Z Z I8 HI T5 Z Z) (J (CF Z Z) (AD (KH Z (λz=>?_) (λz=>?_)))))))))
  .refine AE ?_;have hal:c.length<=100000:=by rw [I];refine dh (FH _ _) ?_;rw [Θ,ψ];omega
   refine cl Z Z (cl Z Z (cl Z Z ?_));refine J (FU Y1 l4 Z Z Z) (V (EH 1 MU Z Z Z Z Z Z Z Z) (V (Ic (c) ([⟨i,S[k],OD⟩]) Z Z Z Z Z Z Z Z MU (by simp only [Φ];omega) Z Z Z Z) (AB Z Z (AD (AE (J (Aw Z Z (AQ (k+1) (by omega)) Z) (cl Z Z (AD ?_))))))));exact ⟨(k+1,c++ [⟨i,S[k],OD⟩]),⟨by show k+1<=_;omega,by show c++ [⟨i,S[k],OD⟩]=E7 (dg M) ((S.map λx=>(⟨i,x,OD⟩:ek)).take (k+1));rw [IQ (by simpa using t),eP,ϖ (by show (!dg M S[k])=true;simpa using z),I]⟩,by show S.length - (k+1)<S.length - k;omega,A0 s [10,11,12,13,900] Z (Z) ⟨Z,Z,Z,Z,Z,Z,Z,trivial⟩⟩
  .refine AZ (AE (J (Aw Z Z (AQ (k+1) (by omega)) Z) (cl Z Z (AD ?_))));exact ⟨(k+1,c),⟨by show k+1<=_;omega,by show c=E7 (dg M) ((S.map λx=>(⟨i,x,OD⟩:ek)).take (k+1));rw [IQ (by simpa using t),eP,η (by show ¬(!dg M S[k])=true;simpa using z),en,I]⟩,by show S.length - (k+1)<S.length - k;omega,A0 s [10,11,12,13,900] Z (Z) ⟨Z,Z,Z,Z,Z,Z,Z,trivial⟩⟩
 .refine BL (AC (AC ?_));have H:c=E7 (dg M) (S.map λx=>(⟨i,x,OD⟩:ek)):=by rw [I,ς (by rw [ψ];have h:=A;omega)]
  have hal1:c.length<=100000:=by rw [H];refine dh (FH _ _) ?_;rw [ψ];omega
  refine AE ?_;refine cl Z Z (J (KE Z Z) (J (A1 Z Ji Z Z Z) (J (A5 Z Z Z V6 Z) (J (CV Z underlying213 Z) (cl Z Z (AD (A2 (Bb (α:=Nat×List ek) (λq=>⟨81,[(0,.ptr 10 0 0),(1,mapV g),(2,.d (AF i)),(7,(.own 900 0 q.2.length)),(46,(.d (.sl none ((cy p).map Mo)))),(47,(.d (AF ((cy p).length:Int)))),(48,(.d (AF (q.1:Int))))],hU p g K M++ [(900,[.rowD 229 8 (q.2.map OU)])]⟩) (λq=>q.1<=(cy p).length/\q.2=c++E7 (dg M) (((cy p).take q.1).flatMap (E1 i))) (λq=>(cy p).length - q.1) ((0,c)) (⟨ϱ _,by simp [E7]⟩) (A0 s [10,11,12,13,900] Z Z ⟨Z,Z,Z,Z,Z,Z,Z,trivial⟩) ?_))))))));rintro ⟨m,b⟩ ⟨O,L⟩;dsimp only at O L⊢;refine AC (AE (J (BW Z Z Z) (AD (AC (Ah Z (λy=>?_) (λy=>?_))))))
  .have o:m<(cy p).length:=Bi y;refine AZ (AC (A2 (AC (AE ?_))));have hql:=ai _ (θ o);have T:=Jf (f:=E1 i) (n:=1000) (l:=(cy p).take m) (λx N=>E x (fM N));have hbl:b.length<=1200000:=by rw [L,Ω];have:=FH (dg M) (((cy p).take m).flatMap (E1 i));rw [Θ] at T;have h3:min m (cy p).length*1000<=1000*1000:=fW _ (by omega);omega
   refine J (Bq (m) Z Z (Z) (Aq o) underlying213 Z VG Z) (J (IX Z Z lW Z) (V (CE 2 Y2 Z Z Z Z) (V (Bk Z Z Z Z Z Z Z VG) (AD (AC (AE ?_))))));refine J (A1 Z WC Z Z Z) (J (A5 Z Z Z BI Z) (cl Z Z (J (B5 (Vy (cy p)[m].q i (by omega)) Z Z) (AB Z Z (AD (AC (AE (J (A1 Z WC Z Z Z) ?_))))))));refine J (A5 Z Z Z BI Z) (cl Z Z (J (Pq Z Z (qV _) Z) (J (LA ((cy p)[m].q) (fO i (cy p)[m].q) Z Z Z (Zh _ _) (Zg _ _) E0 B4 (λ_=>rfl) Z) (J (CV Z E0 Z) (cl Z Z (AD (A2 (Bb (α:=Nat×List ek) (λq=>⟨81,[(0,.ptr 10 0 0),(1,mapV g),(2,.d (AF i)),(7,(.own 900 0 q.2.length)),(12,(.ptr 2 0 0)),(46,(.d (.sl none ((cy p).map Mo)))),(47,(.d (AF ((cy p).length:Int)))),(48,(.d (AF (m:Int)))),(60,(.d (.sl none ((CT i (cy p)[m].q).map AF)))),(61,(.d (AF ((CT i (cy p)[m].q).length:Int)))),(62,(.d (AF (q.1:Int))))],hU p g K M++ [(900,[.rowD 229 8 (q.2.map OU)]),(2,[.blk 218 [.d (AF (cy p)[m].r.k),.d (Ae (cy p)[m].r.acc.o),.d (AF (cy p)[m].r.acc.k),.d (Ae (cy p)[m].r.acc.a),.d (Ae (cy p)[m].r.f),.d (Ae (cy p)[m].r.t),.d (AF (cy p)[m].n),.d (.sl none ((cy p)[m].q.map AF))]])]⟩) (λq=>q.1<=(CT i (cy p)[m].q).length/\q.2=b++E7 (dg M) ((E1 i (cy p)[m]).take q.1)) (λq=>(CT i (cy p)[m].q).length - q.1) ((0,b)) (⟨ϱ _,by simp [E7]⟩) (A0 s [10,11,12,13,900,2] Z Z ⟨Z,Z,Z,Z,Z,Z,Z,Z,Z,Z,Z,trivial⟩) ?_))))))));rintro ⟨j,a⟩ ⟨R,G⟩;dsimp only at R G⊢;refine AC (AE (J (BW Z Z Z) (AD (AC (Ah Z (λw=>?_) (λw=>?_))))))
   .have u:j<(CT i (cy p)[m].q).length:=Bi w;refine AZ (AC (A2 (AC (AE (J (Bq (j) Z Z (Z) (Aq u) E0 Z B4 Z) (J (EJ Z Z BE Z) (AB Z Z (AD ?_))))))));refine AC (AE (cl Z Z (DJ 66 13 0 Z Z (cl Z Z (J (HO M (CT i (cy p)[m].q)[j] false (dg M (CT i (cy p)[m].q)[j]) Z Z Z I8 HI T5 Z Z) (J (CF Z Z) (AD (KH Z (λv=>?_) (λv=>?_)))))))))
    .refine AE ?_;have Y:a.length<=1300000:=by rw [G,Ω];have h3:=FH (dg M) ((E1 i (cy p)[m]).take j);have h4:=E _ (θ o);rw [Θ] at h3;omega
     refine cl Z Z (cl Z Z (cl Z Z (J (A1 Z Jh Z Z Z) (J (B1 Z Z CL Z Z Z) ?_))));refine J (FU Y1 l4 Z Z Z) (V (EH 3 MU Z Z Z Z Z Z Z Z) (V (Ic (a) ([⟨i,(CT i (cy p)[m].q)[j],(cy p)[m].r⟩]) Z Z Z Z Z Z Z Z MU (by simp only [Φ];omega) Z Z Z Z) (AB Z Z (AD (AE (J (Aw Z Z (AQ (j+1) (by have h5:(CT i (cy p)[m].q).length<=1000:=by {unfold CT;rw [Θ];omega};omega)) Z) (cl Z Z (AD ?_))))))));exact ⟨(j+1,a++ [⟨i,(CT i (cy p)[m].q)[j],(cy p)[m].r⟩]),⟨by show j+1<=_;omega,by show a++ [⟨i,(CT i (cy p)[m].q)[j],(cy p)[m].r⟩]=b++E7 (dg M) ((E1 i (cy p)[m]).take (j+1));rw [IQ (by unfold E1;simpa using u),G,gn];congr 2;unfold E1;rw [eP,ϖ (by show (!dg M (CT i (cy p)[m].q)[j])=true;simpa using v)]⟩,by show (CT i (cy p)[m].q).length - (j+1)<(CT i (cy p)[m].q).length - j;omega,A0 s [10,11,12,13,900,2] Z (Z) ⟨Z,Z,Z,Z,Z,Z,Z,Z,Z,Z,Z,trivial⟩⟩
    .refine AZ (AE (J (Aw Z Z (AQ (j+1) (by have h5:(CT i (cy p)[m].q).length<=1000:=by {unfold CT;rw [Θ];omega};omega)) Z) (cl Z Z (AD ?_))));exact ⟨(j+1,a),⟨by show j+1<=_;omega,by show a=b++E7 (dg M) ((E1 i (cy p)[m]).take (j+1));rw [IQ (by unfold E1;simpa using u),G];unfold E1;rw [eP,η (by show ¬(!dg M (CT i (cy p)[m].q)[j])=true;simpa using v),en]⟩,by show (CT i (cy p)[m].q).length - (j+1)<(CT i (cy p)[m].q).length - j;omega,A0 s [10,11,12,13,900,2] Z (Z) ⟨Z,Z,Z,Z,Z,Z,Z,Z,Z,Z,Z,trivial⟩⟩
   .have D:a=b++E7 (dg M) (E1 i (cy p)[m]):=by rw [G,ς (by unfold E1;rw [ψ];have h:=w;omega)]
    refine BL (AE (J (Aw Z Z (AQ (m+1) (by omega)) Z) (cl Z Z (AD ?_))));exact ⟨(m+1,a),⟨by show m+1<=_;omega,by show a=c++E7 (dg M) (((cy p).take (m+1)).flatMap (E1 i));rw [GG o,TN,<-gn,<-L];exact D⟩,by show (cy p).length - (m+1)<(cy p).length - m;omega,A0 s [10,11,12,13,900] Z (Z) ⟨Z,Z,Z,Z,Z,Z,Z,trivial⟩⟩
  .refine BL (AC ?_);have U:b=E7 (dg M) ((S.map λx=>(⟨i,x,OD⟩:ek))++(cy p).flatMap (E1 i)):=by rw [L,H,ς (by have h:=y;omega),TN]
   refine L6 (emb:=OU) 7 900 b Z Z Z Z Z Z Z (AE (cl Z Z (AB Z Z (AD (A6 ?_)))));exact ⟨_,[10,11,12,13],_,A4 Z,Z,Z,by rw [U],Z⟩
def KB (p:dG) (f:Int ->Bool) (i:Int):List ek:=if f i then E7 f (Nv p i) else []
def df (p:dG) (f:Int ->Bool):List ek:=(Hr p).flatMap (KB p f)
theorem Pz (c:EP a) (g:a.it.length<=1000) (k:a.ro.length<=1000) (i:Int):(Nv a i).length<=1100000:=by
 unfold Nv XF;rw [Ω,ψ,Ea];have j:=QP c i;have h:=Jf (f:=E1 i) (n:=1000) (l:=cy a) (λx b=>dh (Rb i x b) g)
 grind [H8]
theorem TO (b:EP a) (g:a.it.length<=1000) (c:a.ro.length<=1000) (f:Int ->Bool) (i:Int):(KB a f i).length<=1100000:=by grind [KB,FH,Pz]
theorem j0 {a N:Nat} (h:a<=k*N):a<=(k+1)*N:=dh h (fW _ (Nat.le_succ _))
theorem am {a b:List g} {N:Nat} (h:a.length<=k*N) (c:b.length<=N):(a++b).length<=(k+1)*N:=by grind
theorem cP (p:dG) (g:Nat) (u:Option (List Nat×Nat)) (M:List (Int×Bool)) (o:EP p) (l:p.it.length<=1000) (t:p.ro.length<=1000):AK prog 157 [.ptr 10 0 0,mapV g] (hU p g u M) λr C=>r= .d (.sl none ((df p (dg M)).map OU))/\C=hU p g u M:=by
 have B:∀i,(KB p (dg M) i).length<=1100000:=TO o l t _;have j:(Hr p).length<=1000:=by unfold Hr;rw [ψ];exact dh (DH p) l
 have x:df p (dg M)=(Hr p).flatMap (KB p (dg M)):=rfl;rw [x];refine Av func157 Z Z ntmps157 Z Z Z λF z=>(AC (AE (AB Z Z ?_)));refine AD (AC (AE (AB Z Z (AD (AC (AC (O0 5 900 MU Z Z Z Z (AE ?_))))))));refine cl Z Z (J (KE Z Z) (J (A1 Z jn Z Z Z) (J (A5 Z Z Z BI Z) (J (CV Z E0 Z) (cl Z Z (AD (A2 (Bb (α:=Nat×List ek) (λq=>⟨28,[(0,.ptr 10 0 0),(1,mapV g),(5,(.own 900 0 q.2.length)),(11,(.d (.sl none ((Hr p).map AF)))),(12,(.d (AF ((Hr p).length:Int)))),(13,(.d (AF (q.1:Int))))],hU p g u M++ [(900,[.rowD 229 8 (q.2.map OU)])]⟩) (λq=>q.1<=(Hr p).length/\q.2=((Hr p).take q.1).flatMap (KB p (dg M))/\q.2.length<=q.1*1100000) (λq=>(Hr p).length - q.1) ((0,[])) (⟨ϱ _,Z,κ _⟩) (A0 z [10,11,12,13,900] Z Z ⟨Z,Z,Z,Z,Z,Z,trivial⟩) ?_))))))));rintro ⟨k,a⟩ ⟨v,s,y⟩;dsimp only at v s y⊢;refine AC (AE (J (BW Z Z Z) (AD (AC (Ah Z (λf=>?_) (λf=>?_))))))
 .have b:k<(Hr p).length:=Bi f;refine AZ (AC (A2 (AC (AE (J (Bq (k) Z Z (Z) (Aq b) E0 Z B4 Z) (J (EJ Z Z BE Z) (AB Z Z ?_)))))));refine AD (AC (AE (cl Z Z (DJ 17 13 0 Z Z (cl Z Z (J (HO M (Hr p)[k] false (dg M (Hr p)[k]) Z Z Z I8 HI T5 Z Z) (AD (KH Z (λc=>?_) (λc=>?_)))))))))
  .refine AE (cl Z Z (cl Z Z (cl Z Z (cl Z Z (V (Eh (Um p g u M (Hr p)[k] o l t) Z [10,11,12,13] ⟨Z,Z,Z,Z,trivial⟩ Z Z Z Z Z Z Z Z Z) ?_)))));have A:=dh (FH (dg M) _) (Pz o l t (Hr p)[k]);refine V (Fu (a) (E7 (dg M) (Nv p (Hr p)[k])) Z Z Z Z Z Z (λ_=>rfl) MU (by omega) Z Z Z Z) (AB Z Z (AD (AE (J (Aw Z Z (AQ (k+1) (by have h:=j;omega)) Z) (cl Z Z (AD ?_))))));exact ⟨(k+1,a++E7 (dg M) (Nv p (Hr p)[k])),⟨by show k+1<=_;omega,by show a++E7 (dg M) (Nv p (Hr p)[k])=((Hr p).take (k+1)).flatMap (KB p (dg M));rw [GG b,<-s];unfold KB;rw [ϖ (by simpa using c)],am y (dh (FH (dg M) _) (Pz o l t (Hr p)[k]))⟩,by show (Hr p).length - (k+1)<(Hr p).length - k;omega,A0 z [10,11,12,13,900] Z (Z) ⟨Z,Z,Z,Z,Z,Z,trivial⟩⟩
  .refine AZ (AE (J (Aw Z Z (AQ (k+1) (by have h:=j;omega)) Z) (cl Z Z (AD ?_))));exact ⟨(k+1,a),⟨by show k+1<=_;omega,by show a=((Hr p).take (k+1)).flatMap (KB p (dg M));rw [GG b,<-s];unfold KB;rw [η (by simpa using c),en],j0 y⟩,by show (Hr p).length - (k+1)<(Hr p).length - k;omega,A0 z [10,11,12,13,900] Z (Z) ⟨Z,Z,Z,Z,Z,Z,trivial⟩⟩
 .refine BL (AC ?_);have w:a=(Hr p).flatMap (KB p (dg M)):=by rw [s,ς (by have h:=f;omega)]
  refine L6 (emb:=OU) 5 900 a Z Z Z Z Z Z Z (AE (cl Z Z (AB Z Z (AD (A6 ?_)))));exact ⟨_,[10,11,12,13],_,A4 Z,Z,Z,by rw [w],Z⟩
def GR (p:dG) (r:AO) (l:List (Int×Bool)):Int:=(l.map λe=>if e.2=true then BU (dF p e.1) r else 0).sum
theorem O4 {r:AO} {m:List (Int×Bool)} (h:c.Perm m):GR a r c=GR a r m:=Zq h _
theorem W9 (p:dG) (r:AO) (e:Int×Bool) (l:List (Int×Bool)):GR p r (e::l)=(if e.2=true then BU (dF p e.1) r else 0)+GR p r l:=by simp [GR]
theorem MI (p:dG) (r:AO) (k:Int) (v:Bool) (l:List (Int×Bool)):GR p r ((k,v)::l)=(if v=true then BU (dF p k) r else 0)+GR p r l:=W9 p r (k,v) l
theorem TJ (h:DQ a f=0):Ai a=0:=by grind [DQ]
theorem br (i:AG) (r:AO): -1000000000000000<=BU i r/\BU i r<=1000000000000000:=by
 unfold BU
 split
 all_goals (simp [*,Lx])
theorem Th (p:dG) (r:AO) (h:c.length<=1000): -1000000000000000000<=GR p r c/\GR p r c<=1000000000000000000:=by
 have:=O9 (l:=c) (f:=λe=>if e.2=true then BU (dF p e.1) r else 0) (B:=1000000000000000) (λe _=>by
  show _<=(if e.2=true then _ else _)/\_;have:=br (dF p e.1) r
  split<;>omega) 1000 h (by omega)
 unfold GR;omega
def Wa (p:dG) (M:List (Int×Bool)) (x:gF):List cw:=if x.n+GR p x.r M<0 then [⟨x.r,0 - (x.n+GR p x.r M)⟩] else []
def Y6 (p:dG) (M:List (Int×Bool)):List cw:=(cy p).flatMap (Wa p M)
theorem nJ (f:Ai a=0) (x:gF) (b:x∈cy a):0<=x.n/\x.n<=4000000000000000:=by
 unfold cy at b;obtain ⟨y,c,rfl⟩:=υ.1 b;have:=KR (JA f).1 y ((Kc a.ro).mem_iff.1 c);show 0<=max y.n 0/\max y.n 0<=_;omega
abbrev rM (p:dG) (mv:Nat) (M:List (Int×Bool)):Hp:=HA p++ [(12,[BD AF Ac M]),(13,[.addr 12 0 (.map (some mv))])]
theorem Pj (p:dG) (j:Nat) (M:List (Int×Bool)) (Q:Ai p=0) (E:EP p) (D:M.length<=1000):AK prog 159 [.ptr 10 0 0,mapV j] (rM p j M) λr X=>r= .d (.sl none ((Y6 p M).map Cv))/\X=rM p j M:=by
 have S:=E.1;have T:=H8 p;refine Av func159 Z Z ntmps159 Z Z Z λF t=>(AC (AE (AB Z Z ?_)));refine AD (AC (AE (AB Z Z (AD (AC (AC (O0 5 900 ZL Z Z Z Z (AE ?_))))))));refine cl Z Z (J (KE Z Z) (J (A1 Z Ji Z Z Z) (J (A5 Z Z Z V6 Z) (J (CV Z underlying213 Z) (cl Z Z (AD (A2 (Bb (α:=Nat×List cw) (λq=>⟨53,[(0,.ptr 10 0 0),(1,mapV j),(5,(.own 900 0 q.2.length)),(14,(.d (.sl none ((cy p).map Mo)))),(15,(.d (AF ((cy p).length:Int)))),(16,(.d (AF (q.1:Int))))],rM p j M++ [(900,[.rowD 205 7 (q.2.map Cv)])]⟩) (λq=>q.1<=(cy p).length/\q.2=((cy p).take q.1).flatMap (Wa p M)/\q.2.length<=q.1) (λq=>(cy p).length - q.1) ((0,[])) (⟨ϱ _,Z,κ _⟩) (A0 t [10,11,12,13,900] Z Z ⟨Z,Z,Z,Z,Z,Z,trivial⟩) ?_))))))));rintro ⟨k,a⟩ ⟨A,y,U⟩;dsimp only at A y U⊢;refine AC (AE (J (BW Z Z Z) (AD (AC (Ah Z (λs=>?_) (λs=>?_))))))
 .have g:k<(cy p).length:=Bi s;refine AZ (AC (A2 (AC (AE ?_))));have I:=nJ Q _ (θ g);refine J (Bq (k) Z Z (Z) (Aq g) underlying213 Z VG Z) (J (IX Z Z lW Z) ?_);refine V (CE 1 Y2 Z Z Z Z) (V (Bk Z Z Z Z Z Z Z VG) (AD (AC (AE (J (A1 Z jm Z Z Z) (J (A5 Z Z Z L3 Z) (AB Z Z (AD ?_))))))));refine AC (AC (AE (cl Z Z (DJ 22 13 0 Z Z (V (Fs 2 Z Z Z I8 Z Z Z Z) (AD (A2 (Bb (α:=List Nat×Int) (λq=>⟨53,[(0,.ptr 10 0 0),(1,mapV j),(5,(.own 900 0 a.length)),(7,(.ptr 1 0 0)),(8,(.d (AF q.2))),(14,(.d (.sl none ((cy p).map Mo)))),(15,(.d (AF ((cy p).length:Int)))),(16,(.d (AF (k:Int)))),(23,(.ptr 2 0 0))],rM p j M++ [(900,[.rowD 205 7 (a.map Cv)]),(1,[.blk 218 [.d (AF (cy p)[k].r.k),.d (Ae (cy p)[k].r.acc.o),.d (AF (cy p)[k].r.acc.k),.d (Ae (cy p)[k].r.acc.a),.d (Ae (cy p)[k].r.f),.d (Ae (cy p)[k].r.t),.d (AF (cy p)[k].n),.d (.sl none ((cy p)[k].q.map AF))]]),(2,[.iter 12 0 M.length q.1])]⟩) (λq=>q.2+GR p (cy p)[k].r (Bh M (List.range M.length) q.1)=(cy p)[k].n+GR p (cy p)[k].r M) (λq=>(Bh M (List.range M.length) q.1).length) (([],(cy p)[k].n)) (by show (cy p)[k].n+GR p (cy p)[k].r (Bh M (List.range M.length) [])=_;rw [Co (by simp)]) (A0 t [10,11,12,13,900,1,2] Z Z ⟨Z,Z,Z,Z,Z,Z,Z,Z,Z,trivial⟩) ?_))))))));rintro ⟨seen,left⟩ x;dsimp only at x⊢;refine AC (AE (K7 (M) Z Z Z Z (λv=>?_) (λz c b H u w G f=>⟨_,Z,?_⟩)))
  .have i:left=(cy p)[k].n+GR p (cy p)[k].r M:=by have W:=x;rw [v] at W;have Y:GR p (cy p)[k].r []=0:=rfl;omega
   refine J (C8 Z Z Z) (AD ?_);refine AC (EV Z Z (BL (AC (AE (cl Z Z (J (BW Z Z Z) (AD (Ah Z (λl=>?_) (λl=>?_)))))))))
   .refine AE ?_;have K:=Th p (cy p)[k].r D;refine cl Z Z (J (A1 Z Jh Z Z Z) (J (B1 Z Z CL Z Z Z) (cl Z Z (J (Tr Z (Ξ _ (by omega)) Z) ?_))));refine J (FU pC qF Z Z Z) (V (EH 3 ZL Z Z Z Z Z Z Z Z) (V (Ic (a) ([⟨(cy p)[k].r,0 - left⟩]) Z Z Z Z Z Z Z Z ZL (by simp only [Φ];omega) Z Z Z Z) (AB Z Z (AD (AE (J (Aw Z Z (AQ (k+1) (by omega)) Z) (cl Z Z (AD ?_))))))));exact ⟨(k+1,a++ [⟨(cy p)[k].r,0 - left⟩]),⟨by show k+1<=_;omega,by show a++ [⟨(cy p)[k].r,0 - left⟩]=((cy p).take (k+1)).flatMap (Wa p M);rw [GG g,<-y];unfold Wa;rw [<-i,ϖ (by simpa using l)],by show (a++ [_]).length<=k+1;rw [Ω];simp;omega⟩,by show (cy p).length - (k+1)<(cy p).length - k;omega,A0 t [10,11,12,13,900] Z (Z) ⟨Z,Z,Z,Z,Z,Z,trivial⟩⟩
   .refine AZ (AE (J (Aw Z Z (AQ (k+1) (by omega)) Z) (cl Z Z (AD ?_))));exact ⟨(k+1,a),⟨by show k+1<=_;omega,by show a=((cy p).take (k+1)).flatMap (Wa p M);rw [GG g,<-y];unfold Wa;rw [<-i,η (by simpa using l),en],by show a.length<=k+1;omega⟩,by show (cy p).length - (k+1)<(cy p).length - k;omega,A0 t [10,11,12,13,900] Z (Z) ⟨Z,Z,Z,Z,Z,Z,trivial⟩⟩
  .refine J (C8 Z Z Z) ?_;refine AD (AC (Dt Z Z (AZ (A2 (AC (AE (J (Ft (M) z c Z Z Z u w Z) (J (C8 Z Z Z) ?_))))))));refine J (C8 Z Z Z) (AB Z Z (AB Z Z (AD (AC (AE (cl Z Z (AD (KH Z (λo=>?_) (λo=>?_)))))))))
   .refine Dr [[],[],[1],[1,2],[1,2,3],[],[1,2,3,4,5],[],[7],[1,2,3,4,5,6,7,8],rg 10,rg 11] mixed Z (E6 ?_);have R:=QP E b;have O:=Th p (cy p)[k].r D;have N:=Th p (cy p)[k].r (dh (Vt (m:=M) (B:=List.range M.length) (seen:=seen)) D);have L:=br (dF p b) (cy p)[k].r;refine At 8 Z Z (At 0 Z Z (AX [31] Z (KE Z Z) (AX [32] Z (A1 Z Jj Z Z Z) (BQ [33] Z Z (λ_=>A9 (A5 Z Z Z Rp Z)) ?_))));refine At 9 Z Z (BQ [34,35] Z Z (λ_=>A9 (RW (CI p.it) b cv (dF p b) Z Z Z SB HI iF Gc (PP p b) Z)) (AX [7] Z (A1 Z Jh Z Z Z) (BQ [37] Z Z (λ_=>A9 (B1 Z Z CL Z Z Z)) (AX [36,38] Z (B5 (WL (dF p b) (cy p)[k].r (by omega) (by omega) (by omega)) Z Z) (Dh 10 Z Z Z (An 11 Z Z (J (Aw Z Z (Ξ _ (by omega)) Z) (AD ⟨Z,?_⟩))))))));refine An 12 Z Z (AB Z Z (AD ⟨Z,?_⟩));refine Dg ?_;exact ⟨(seen++ [c],left+BU (dF p b) (cy p)[k].r),(by show left+BU (dF p b) (cy p)[k].r+GR p (cy p)[k].r (Bh M (List.range M.length) (seen++ [c]))=_;rw [<-x,O4 f,MI,ϖ (by simpa using o)];omega),by show (Bh M (List.range M.length) (seen++ [c])).length<(Bh M (List.range M.length) seen).length;rw [f.length_eq];exact gA _,A0 t [10,11,12,13,900,1,2] Z (Z) ⟨Z,Z,Z,Z,Z,Z,Z,Z,Z,trivial⟩⟩
   .refine AZ ?_;exact ⟨(seen++ [c],left),(by show left+GR p (cy p)[k].r (Bh M (List.range M.length) (seen++ [c]))=_;rw [<-x,O4 f,MI,η (by simpa using o)];omega),by show (Bh M (List.range M.length) (seen++ [c])).length<(Bh M (List.range M.length) seen).length;rw [f.length_eq];exact gA _,A0 t [10,11,12,13,900,1,2] Z (Z) ⟨Z,Z,Z,Z,Z,Z,Z,Z,Z,trivial⟩⟩
 .refine BL (AC ?_);have C:a=Y6 p M:=by rw [y,ς (by have h:=s;omega)];rfl
  refine L6 (emb:=Cv) 5 900 a Z Z Z Z Z Z Z (AE (cl Z Z (AB Z Z (AD (A6 ?_)))));exact ⟨_,[10,11,12,13],_,A4 Z,Z,Z,by rw [C],Z⟩
def Mv (l:List Int) (x:Int):Bool:=decide (x∈l)
theorem iH (p:dG) (l:List Int) (g:EP p) (h:l.length<=1000):AM prog 110 [.d (CM p),.d (.sl none (l.map AF))] (.tup [.sl none ((if DQ p l=0 then Y6 p (BB l) else []).map Cv),AF (DQ p l)]):=by
 by_cases b:DQ p l=0
 have a:=(M8 p l g (by omega) b).by [(2,12)] rfl;have j:=TJ b;rw [ϖ b,b];have f:=λc=>Pj p c (BB l) j g (by unfold BB;rw [ψ];exact h);refine Av func110 Z Z ntmps110 Z Z Z λF i=>(AC (AE (V (CQ 1 Z Z Z Z Z Z Z) (AB Z Z (AB Z Z (AD (AC (AE ?_))))))));refine J (B1 Z Z Bc Z Z Z) (cl Z Z (V (Eh a Z [10,11,12] ⟨Z,Z,Z,trivial⟩ Z Z Z Z Z Z Z Z Z) (cl Z Z (J (C8 Z Z Z) (J (C8 Z Z Z) (J (C8 Z Z Z) (AB Z Z (AB Z Z ?_))))))));refine AB Z Z (AD (AC (AC (AE (cl Z Z (J (EO Z Z Z) (AD (EV Z ((by decide)) ?_))))))));refine AZ (AC (TX 13 12 0 Z Z Z Z Z λc=>(WU 7 13 0 (.inl Z) Z (AE (cl Z Z (cl Z Z (V (Eh (f c) Z [10,11,12,13] ⟨Z,Z,Z,Z,trivial⟩ Z Z Z Z Z Z Z Z Z) (AB Z Z ?_))))))))
 rotate_left
 have a:=Re p l g (by omega) b;rw [η b];refine Av func110 Z Z ntmps110 Z Z Z λF i=>(AC (AE (V (CQ 1 Z Z Z Z Z Z Z) (AB Z Z (W3 4 Z ?_)))));refine AB Z Z (AD (AC (AE (J (B1 Z Z Bc Z Z Z) (cl Z Z (J (B5 (a) Z Z) (cl Z Z (J (Ds Z Z Z) ?_))))))));refine J (Ds Z Z Z) (J (Ds Z Z Z) (AB Z Z (AB Z Z (AB Z Z (AD (AC (AC (AE ?_))))))));refine cl Z Z (J (EO Z Z Z) (AD (Dt Z ((dm b)) (AC (AE (cl Z Z (AB Z Z (W3 4 Z ?_))))))))
 all_goals
  refine AB Z Z (AD (A6 ?_));exact ⟨_,[],[],A4 Z,Z,Z,Z,Z⟩
theorem PC.le {a:Type} {c:a ->a ->Int} (h:PC c) {x y z:a} (i:c x y<=0) (b:c y z<=0):c x z<=0:=by
 by_cases g:c x y=0
 .rw [h.eqv x y z g];exact b
 .by_cases j:c y z=0
  .have r:=h.anti y z;have f:c z y=0:=by omega
   have o:=h.eqv z y x f;have l:=h.anti z x;have k:=h.anti y x;omega
  .have:=h.trans x y z (by omega) (by omega);omega
theorem kO {a b:Int}:¬FT b a<0↔a<=b:=by unfold FT;split<;>(try split)<;>omega
theorem R0 {c:List Int} (h:c.Perm f) (g:c.Pairwise λa b=>¬FT b a<0):c=CS f:=by grind [List.Perm.eq_of_pairwise,JL,Cb,FT]
structure PV (p:dG):Prop where
 e:Ai p=0
 b:EP p
 i:p.it.length<=1000
 r:p.ro.length<=1000
 q:∀i∈p.it,i.po.length<=1000/\i.pa.length<=1000/\i.af.length<=1000
structure so where
 ids:List Int
 bl:List Nat
 de:List (List Int)
 rm:List Int
section
variable {β:Type} (step:β ->Nat ->β×Bool)
end
section
variable {β:Type}
end
variable {a:dG} {M:List (Int×Bool)} {c:List AO} {E:List (AG×Nat)} {S C:List Int} {f:ek} {g:Nat ->Nat} {h:AO} {x:Int} {i:AG} {j:Int ->Bool} {k:Int} {o s:Nat}
def r7 (p:dG):List Int:=CS (Hr p)
theorem K0 (b:Ai a=0):(Hr a).Perm (a.it.map AG.id):=by grind [Hr,dC,KD]
theorem ZI (b:Ai a=0):(r7 a).Perm (a.it.map AG.id):=(Cb _).trans (K0 b)
theorem VR (b:Ai a=0) (x:Int):x∈r7 a↔x∈a.it.map AG.id:=(ZI b).mem_iff
theorem mf (l:Ai a=0) (B:k∈a.it.map AG.id) (t:f∈Nv a k):f.m∈r7 a:=by
 rw [VR l];unfold Nv at t;rcases ν.1 t with h | h
 .unfold XF at h;obtain ⟨x,v,rfl⟩:=υ.1 h;have j:=(Cb _).mem_iff.1 v;obtain ⟨A,_,C,_⟩:=FA B;rw [C] at j;have D:=Jd (JA l).2.2 _ (υ.2 ⟨_,θ A,Z⟩)
  grind [Sc,JY]
 .obtain ⟨y,s,h⟩:=List.mem_flatMap.1 h;unfold E1 at h;obtain ⟨z,u,rfl⟩:=υ.1 h;have g:z∈y.q:=fM u;unfold cy at s;obtain ⟨r,_,rfl⟩:=υ.1 s;have c:z∈dO (dC a) r.r:=g;unfold dO at c;obtain ⟨o,w,rfl⟩:=υ.1 c;exact (K0 l).mem_iff.1 (υ.2 ⟨o,(Ψ.1 w).1,Z⟩)
structure sm (s:so):Prop where
 n:s.ids.length<=20
 b:s.bl.length<=20
 u:∀b∈s.bl,b<4294967296
 r:s.rm.length<=1000
 d:s.de.length=s.rm.length
 v:∀r∈s.de,r.length<=32/\∀v∈r,-1000000000000000<=v/\v<=1000000000000000
 m:∀v∈s.rm,0<=v/\v<=4000000000000000
deriving instance DecidableEq for gF
theorem Wr:CS []=[]:=gU (Ea [])
inductive cm (p:dG) (S:List Int):Int ->Prop
 | base {x:Int} (h:x∈S):cm p S x
 | step {i:Int} {b:ek} (h:cm p S i) (hb:b∈Nv p i):cm p S b.m
theorem cm.ids (b:Ai a=0) (g:∀x∈S,x∈a.it.map AG.id) (h:cm a S x):x∈a.it.map AG.id:=by
 induction h with
 | base h=>exact g _ h
 | step _ f c=>exact (VR b _).1 (mf b c f)
theorem TM (h:f∈df a j):∃i,i∈Hr a/\j i=true/\f∈Nv a i/\j f.m=false:=by
 unfold df at h;obtain ⟨i,c,h⟩:=List.mem_flatMap.1 h;unfold KB at h
 split at h
 .rename_i g
  obtain ⟨l,k⟩:=Ψ.1 h
  grind
 .cases h
theorem Kx (c:Ai a=0) (h:df a j=[]) (g:k∈a.it.map AG.id) (l:j k=true) (o:f∈Nv a k):j f.m=true:=by
 cases hm:j f.m with
 | true=>rfl
 | false=>
  have:f∈df a j:=List.mem_flatMap.2 ⟨k,(K0 c).mem_iff.2 g,by unfold KB;rw [ϖ l];exact Ψ.2 ⟨o,by rw [hm];rfl⟩⟩
  grind
noncomputable def eD (p:dG) (S:List Int):List Int:=CS ((p.it.map AG.id).filter λx=> @decide (cm p S x) (Classical.propDecidable _))
theorem MT {l m:List Int} (h:l.Perm m):CS l=CS m:=R0 ((Cb l).trans h) ((JL l).imp λh=>kO.2 h)
theorem WO {C:List Int} (c:Ai a=0) (i:∀x∈S,x∈a.it.map AG.id) (f:C.Nodup) (h:∀x,x∈C↔cm a S x):CS C=eD a S:=by
 unfold eD;have g:=WY (JA c).2.1;refine MT ((List.perm_ext_iff_of_nodup f (List.Nodup.sublist fv g)).2 λx=>?_);rw [h x,Ψ]
 constructor
 .intro b;exact ⟨b.ids c i,by simpa using b⟩
 simp
theorem PX {f:Type} {q r:f ->Bool}:∀{l:List f},(∀x∈l,q x=true ->r x=true) ->(∃x,x∈l/\r x=true/\q x=false) ->(l.filter q).length<(l.filter r).length
 | [],_,⟨x,b,_⟩=>by cases b
 | a::l,h,⟨x,b,o,k⟩=>by
  have i:∀{l:List f},(∀x∈l,q x=true ->r x=true) ->(l.filter q).length<=(l.filter r).length:=by
   intro l
   induction l with
   | nil=>intro _;exact κ _
   | cons c l g=>
    intro h;have s:=g λx b=>h x (er _ b);have j:=h c eI;rw [fY,fY]
    cases hq:q c with
    | false=>cases r c<;>simp<;>omega
    | true=>rw [j hq];simp;exact s
  have t:=i (l:=l) λx b=>h x (er _ b);rw [fY,fY];rcases di.1 b with rfl | b
  .rw [o,k];simp;omega
  .have g:=PX (l:=l) (λx b=>h x (er _ b)) ⟨x,b,o,k⟩;have j:=h a eI
   cases hq:q a with
   | false=>cases r a<;>simp<;>omega
   | true=>rw [j hq];simp;exact g
structure Cl (p:dG) (S C:List Int):Prop where
 n:C.Nodup
 s:∀x∈S,x∈C
 r:∀x∈C,cm p S x
theorem Cl.len (h:Cl a S C) (c:Ai a=0) (g:∀x∈S,x∈a.it.map AG.id):C.length<=a.it.length:=by
 have f:=WY (JA c).2.1
 have i:=((List.perm_ext_iff_of_nodup h.n (List.Nodup.sublist (fv (p:=λx=>decide (x∈C))) f)).2 λx=>by
  rw [Ψ]
  exact ⟨λb=>⟨(h.r x b).ids c g,by simpa using b⟩,λb=>by simpa using b.2⟩).length_eq
 grind
theorem Cl.done (h:Cl a S C) (f:Ai a=0) (g:∀x∈S,x∈a.it.map AG.id) (r:df a (Mv C)=[]):CS C=eD a S:=by
 refine WO f g h.n λx=>⟨h.r x,λc=>?_⟩
 induction c with
 | base k=>exact h.s _ k
 | @step i b c l j=>
  have o:=Kx f r (c.ids f g) (dm j) l
  simpa [Mv] using o
theorem Cl.add (h:Cl a S C) (k:f∈df a (Mv C)):Cl a S (C++ [f.m])/\f.m∉C:=by
 obtain ⟨i,_,r,o,l⟩:=TM k;have j:i∈C:=by simpa [Mv] using r
 have g:f.m∉C:=by simpa [Mv] using l
 refine ⟨⟨?_,λx c=>ν.2 (.inl (h.s x c)),λx c=>?_⟩,g⟩
 .rw [gY];refine ⟨h.n,by simp,λx c y s e=>?_⟩
  grind
 .rcases ν.1 c with c | c
  .exact h.r x c
  .rw [ξ.1 c];exact .step (h.r i j) o
theorem Cl.dec {D:List Int} {m:Int} (c:m∈a.it.map AG.id) (i:m∉C) (g:m∈D) (h:∀x∈C,x∈D):((a.it.map AG.id).filter λx=>!Mv D x).length<((a.it.map AG.id).filter λx=>!Mv C x).length:=
 PX (λx _ b=>by
  have:x∉D:=by simpa [Mv] using b
  have:x∉C:=λf=>this (h x f)
  simpa [Mv] using this) ⟨m,c,by simpa [Mv] using i,by simpa [Mv] using g⟩
theorem YJ (b:EP a) (g:a.it.length<=1000) (c:a.ro.length<=1000) (f:Int ->Bool):(df a f).length<=1100000000:=by
 unfold df;have h:=Jf (f:=KB a f) (n:=1100000) (l:=Hr a) (λx _=>TO b g c f x)
 grind [Hr,DH]
def Cg (M:List (Int×Bool)):List Int:=(M.filter λe=>e.2).map Prod.fst
theorem MK (k:Int) (v:Bool) (M:List (Int×Bool)):Cg ((k,v)::M)=(if v=true then [k] else [])++Cg M:=by
 unfold Cg;cases v<;>simp
theorem MJ {l m:List (Int×Bool)} (h:l.Perm m):(Cg l).Perm (Cg m):=(h.filter _).map _
theorem Wc (M:List (Int×Bool)):(Cg M).length<=M.length:=by unfold Cg;rw [ψ];exact fx _ _
abbrev sS (mv:Nat) (B:List Nat) (c:Nat) (M:List (Int×Bool)):Hp:=[(12,[.map (some (B,c)) (BK AF Ac M)]),(13,[.addr 12 0 (.map (some mv))])]
theorem ZD (j:Nat) (B:List Nat) (c:Nat) (M:List (Int×Bool)) (z:B.length=M.length) (E:M.length<=100000):AK prog 158 [mapV j] (sS j B c M) λr A=>r= .own 900 0 (Cg M).length/\A=sS j B c M++ [(900,[.rowD 3 1 ((CS (Cg M)).map AF)])]:=by
 have D:=Wc M;refine Av func158 Z Z ntmps158 Z Z Z λF u=>?_;refine AC (AE (AB Z Z (AD (AC (AE (AB Z Z (AD (AC ?_))))))));refine AC (O0 3 900 BX Z Z Z Z (AE (cl Z Z (DJ 6 13 0 Z Z (V (Fs 1 Z Z Z I8 Z Z Z Z) (AD (A2 (Bb (α:=List Nat×List Int) (λq=>⟨21,[(3,(.own 900 0 q.2.length)),(7,(.ptr 1 0 0))],sS j B c M++ [(900,[.rowD 3 1 (q.2.map AF)]),(1,[.iter 12 0 c q.1])]⟩) (λq=>(q.2++Cg (Bh M B q.1)).Perm (Cg M)) (λq=>(Bh M B q.1).length) (([],[])) (by show ([]++Cg (Bh M B [])).Perm _;rw [Co z];exact List.Perm.refl _) (A0 u [12,13,900,1] Z Z ⟨Z,Z,trivial⟩) ?_))))))));rintro ⟨seen,a⟩ i;dsimp only at i⊢;refine AC (AE (K7 (M) Z Z Z Z (λs=>?_) (λw h l C o t y f=>⟨_,Z,?_⟩)))
 .have b:a.Perm (Cg M):=by have k:=i;rw [s] at k;simpa [Cg] using k
  refine J (C8 Z Z Z) (AD (AC (EV Z Z (BL (AC (AE ?_))))));have v:=b.length_eq;refine cl Z Z (V (RO li a (by omega) Z Z Z Z Z Z Z) (AD (AC (AE (cl Z Z (AB Z Z (AD (A6 ?_))))))));exact ⟨_,[12,13,900],_,A4 Z,Z,Z,by rw [b.length_eq],by rw [MT b];rfl⟩
 .refine J (C8 Z Z Z) ?_;refine AD (AC (Dt Z Z (AZ (A2 (AC (AE (J (Ft (M) w h Z Z Z o t Z) (J (C8 Z Z Z) ?_))))))));refine J (C8 Z Z Z) (AB Z Z (AB Z Z (AD (AC (AE (cl Z Z (AD (KH Z (λg=>?_) (λg=>?_)))))))))
  .refine AE (cl Z Z ?_);have x:a.length<=100000:=by have k:=i.length_eq;rw [Ω] at k;omega
   refine cl Z Z (V (EH 30 BX Z Z Z Z Z Z Z Z) (V (Ic (a) ([l]) Z Z Z Z Z Z Z Z BX (by simp only [Φ];omega) Z Z Z Z) (AB Z Z (AD ?_))));exact ⟨(seen++ [h],a++ [l]),(by show ((a++ [l])++Cg (Bh M B (seen++ [h]))).Perm _;refine List.Perm.trans (List.Perm.trans ?_ (List.Perm.append_left a (MJ f)).symm) i;rw [MK,ϖ (by simpa using g),gn]),by show (Bh M B (seen++ [h])).length<(Bh M B seen).length;rw [f.length_eq];exact gA _,A0 u [12,13,900,1] Z (Z) ⟨Z,Z,trivial⟩⟩
  .refine AZ ?_;exact ⟨(seen++ [h],a),(by show (a++Cg (Bh M B (seen++ [h]))).Perm _;refine List.Perm.trans (List.Perm.trans ?_ (List.Perm.append_left a (MJ f)).symm) i;rw [MK,η (by simpa using g),List.nil_append]),by show (Bh M B (seen++ [h])).length<(Bh M B seen).length;rw [f.length_eq];exact gA _,A0 u [12,13,900,1] Z (Z) ⟨Z,Z,trivial⟩⟩
def TR (M:List (Int×Bool)):Prop:=∀e∈M,e.2=true
def dJ (M:List (Int×Bool)):List Int:=M.map Prod.fst
theorem Wd (h:TR M):Cg M=dJ M:=by
 unfold Cg dJ;rw [iB.2 h]
theorem Vz (h:TR M):dg M=Mv (dJ M):=by grind [dg,Mv,dJ,H6,IF,TR]
theorem cY (h:TR M) (x:Int):TR (BA M x true):=λe i=>by
 obtain ⟨j,c,rfl⟩:=gK.1 i;have g:=Lj (m:=M) (a:=x) (b:=true)
 by_cases e:j=db M x
 .subst e;have:=g.1;rw [ω c] at this;injection this with this;rw [this]
 .have f:=g.2 j e;rw [ω c] at f;exact h _ (ϑ f.symm)
theorem Mp (M:List (Int×Bool)) (x:Int) (b:Bool):dJ (BA M x b)=if x∈dJ M then dJ M else dJ M++ [x]:=K9
theorem Cl.put (h:Cl a S (dJ M)) (k:cm a S x):Cl a S (dJ (BA M x true)):=by
 rw [Mp]
 split
 .exact h
 .rename_i i
  refine ⟨?_,λy f=>ν.2 (.inl (h.s y f)),λy f=>?_⟩
  .rw [gY];exact ⟨h.n,by simp,λc j b g e=>by rw [ξ] at g;subst g;subst e;exact i j⟩
  .rcases ν.1 f with f | f
   .exact h.r y f
   grind
theorem ZN (l:List Int):TR (BB l):=λe a=>by
 unfold BB at a;obtain ⟨x,_,rfl⟩:=υ.1 a;rfl
theorem Wt (l:List Int):dJ (BB l)=l:=by unfold dJ BB;rw [dl];exact List.map_id' l
theorem kQ (p:dG) (l:List Int) (j:EP p) (hl:l.length<=1000) (U:p.it.length<=1000) (T:p.ro.length<=1000) (R:DQ p l=0) (W:l.Nodup) (L:∀x∈l,x∈p.it.map AG.id):AK prog 109 [.d (CM p),.d (.sl none (l.map AF))] [] λr Y=>r= .tup [.own 900 0 (eD p l).length,.d (AF 0)]/\Y=[(900,[.rowD 3 1 ((eD p l).map AF)])]:=by
 have G:=(M8 p l j (by omega) R).by [(2,12)] rfl;have O:=TJ R;have A:=λg M=>cP p g (some (List.range M.length,M.length)) M j U T;refine Av func109 Z Z ntmps109 Z Z Z λF E=>(AC (AE (V (CQ 1 Z Z Z Z Z Z Z) ?_)));refine AB Z Z (AB Z Z (AD (AC (AE (J (B1 Z Z Bc Z Z Z) (cl Z Z (V (Eh G Z [10,11,12] ⟨Z,Z,Z,trivial⟩ Z Z Z Z Z Z Z Z Z) (cl Z Z ?_))))))));refine J (C8 Z Z Z) (J (C8 Z Z Z) (J (C8 Z Z Z) (AB Z Z (AB Z Z (AB Z Z (AD (AC (AC ?_))))))));refine AE (cl Z Z (J (EO Z Z Z) (AD (EV Z ((by decide)) (AZ (AC (AC (TX 13 12 0 Z Z Z Z Z λg=>?_))))))));refine WU 7 13 0 (.inl Z) Z (AE (cl Z Z (cl Z Z (V (Eh (A g (BB l)) Z [10,11,12,13] ⟨Z,Z,Z,Z,trivial⟩ Z Z Z Z Z Z Z Z Z) (AB Z Z (AD (A2 (Bb (α:=List (Int×Bool)) (λM=>⟨43,[(6,(.ptr 10 0 0)),(7,(mapV g)),(9,(.d (.sl none ((df p (dg M)).map OU))))],hU p g (some (List.range M.length,M.length)) M⟩) (λM=>TR M/\Cl p l (dJ M)) (λM=>((p.it.map AG.id).filter λx=>!Mv (dJ M) x).length) (BB l) (⟨ZN l,by rw [Wt];exact ⟨W,λ_ h=>h,λ_ h=> .base h⟩⟩) (A0 E [10,11,12,13] Z Z ⟨Z,Z,Z,trivial⟩) ?_))))))));rintro M ⟨D,B⟩;refine AC (AC (AE (cl Z Z ?_)));have X:(df p (dg M)).length<=1100000000:=YJ j U T _;refine J (CV Z underlying225 Z) (J (Pf Z Z Z) (AD (Ah Z (λu=>?_) (λu=>?_))))
 .refine AZ (AC (A2 (AC ?_)));have w:0<(df p (dg M)).length:=by have h:=u;omega
  have f:∀b∈df p (dg M),cm p l b.m/\b.m∉dJ M:=λb j=>by rw [Vz D] at j;exact ⟨(B.add j).1.r _ (by simp),(B.add j).2⟩
  refine AE (cl Z Z (J (CV Z underlying225 Z) (cl Z Z (AD (A2 (Bb (α:=Nat×List (Int×Bool)) (λq=>⟨43,[(6,(.ptr 10 0 0)),(7,(mapV g)),(31,(.d (.sl none ((df p (dg M)).map OU)))),(32,(.d (AF ((df p (dg M)).length:Int)))),(33,(.d (AF (q.1:Int))))],hU p g (some (List.range q.2.length,q.2.length)) q.2⟩) (λq=>q.1<=(df p (dg M)).length/\TR q.2/\Cl p l (dJ q.2)/\(∀x∈dJ M,x∈dJ q.2)/\(0<q.1 ->(df p (dg M))[0].m∈dJ q.2)) (λq=>(df p (dg M)).length - q.1) ((0,M)) (⟨ϱ _,D,B,λ_ h=>h,λh=>absurd h (gc 0)⟩) (A0 E [10,11,12,13] Z Z ⟨Z,Z,Z,Z,Z,trivial⟩) ?_))))));rintro ⟨k,v⟩ ⟨H,o,s,a,c⟩;dsimp only at H o s a c⊢;refine AC (AE (J (BW Z Z Z) (AD (AC (Ah Z (λt=>?_) (λt=>?_))))))
  .have y:k<(df p (dg M)).length:=Bi t;refine AZ (AC (A2 ?_));refine AC (AE (J (Bq (k) Z Z (Z) (Aq y) underlying225 Z lK Z) (J (IX Z Z pc Z) (V (CE 2 Y1 Z Z Z Z) (V (Bk Z Z Z Z Z Z Z lK) (AD (AE (cl Z Z ?_))))))));refine DJ 37 13 0 Z Z (J (A1 Z jl Z Z Z) (J (A5 Z Z Z BE Z) (V (Tc (v) ((df p (dg M))[k].m) (true) Z Z Z I8 HI Z Z) (AD (AE (J (Aw Z Z (AQ (k+1) (by omega)) Z) (cl Z Z (AD ?_))))))));exact ⟨(k+1,BA v (df p (dg M))[k].m true),⟨by show k+1<=_;omega,cY o _,s.put (f _ (θ y)).1,λx Q=>by show x∈dJ (BA v _ true);rw [Mp];split;exact a x Q;exact ν.2 (.inl (a x Q)),λ_=>by show _∈dJ (BA v _ true);rw [Mp];rcases Nat.eq_zero_or_pos k with C | C;subst C;split;assumption;simp;split;exact c C;exact ν.2 (.inl (c C))⟩,by show (df p (dg M)).length - (k+1)<(df p (dg M)).length - k;omega,A0 E [10,11,12,13] Z (Z) ⟨Z,Z,Z,Z,Z,trivial⟩⟩
  .have z:((p.it.map AG.id).filter λx=>!Mv (dJ v) x).length<((p.it.map AG.id).filter λx=>!Mv (dJ M) x).length:=Cl.dec ((f _ (θ w)).1.ids O L) (f _ (θ w)).2 (c (by have h:=t;omega)) a;refine BL (AE (cl Z Z (cl Z Z (V (Eh (A g v) Z [10,11,12,13] ⟨Z,Z,Z,Z,trivial⟩ Z Z Z Z Z Z Z Z Z) (AB Z Z (AD ?_))))));exact ⟨v,⟨o,s⟩,z,A0 E [10,11,12,13] Z (Z) ⟨Z,Z,Z,trivial⟩⟩
 .refine BL (AC ?_);have K:df p (Mv (dJ M))=[]:=by rw [<-Vz D];exact gU (by have h:=u;omega)
  have N:M.length<=100000:=by have S:=B.len O L;unfold dJ at S;rw [ψ] at S;omega
  have i:CS (Cg M)=eD p l:=by rw [Wd D];exact B.done O L K
  have I:(Cg M).length=(eD p l).length:=by rw [<-i,Ea]
  refine AE (cl Z Z (V (Eh (ZD g (List.range M.length) M.length M (by simp) N) Z [12,13,900] ⟨Z,Z,Z,trivial⟩ Z Z Z Z Z Z Z Z Z) (AB Z Z (AB Z Z (AD (A6 ?_))))));exact ⟨_,[900],_,A4 Z,Z,Z,by rw [I],by rw [i]⟩
inductive hZ (p:dG) (S:List Int):Int ->Prop
 | base {i:Int} {b:ek} (hb:b∈Nv p i) (h:b.m∉S):hZ p S i
 | step {i:Int} {b:ek} (hb:b∈Nv p i) (h:hZ p S b.m):hZ p S i
theorem pk (c:f∈Nv a k):f.i=k:=by grind [Nv,XF,E1]
noncomputable def qd (p:dG) (S:List Int):List Int:=CS (S.filter λx=> @decide (¬hZ p S x) (Classical.propDecidable _))
structure Ci (p:dG) (S C:List Int):Prop where
 n:C.Nodup
 s:∀x∈C,x∈S
 r:∀x∈S,x∉C ->hZ p S x
theorem Ci.done (h:Ci a S C) (l:Ai a=0) (t:S.Nodup) (o:∀x∈S,x∈a.it.map AG.id) (r:df a (Mv C)=[]):CS C=qd a S:=by
 have g:∀x,hZ a S x ->x∉C:=λx c=>by
  induction c with
  | @base i b j u=>
   intro f;have k:=Kx l r (o _ (h.s _ f)) (dm f) j;exact u (h.s _ (by simpa [Mv] using k))
  | @step i b j _ s=>
   intro f;have k:=Kx l r (o _ (h.s _ f)) (dm f) j;exact s (by simpa [Mv] using k)
 unfold qd;refine MT ((List.perm_ext_iff_of_nodup h.n (List.Nodup.sublist fv t)).2 λx=>?_);rw [Ψ]
 constructor
 .intro c;exact ⟨h.s x c,by simpa using λv=>g x v c⟩
 .intro c;have y:¬hZ a S x:=by simpa using c.2
  exact Classical.byContradiction λw=>y (h.r x c.1 w)
theorem Ci.drop (h:Ci a S C) (l:f∈df a (Mv C)):hZ a S f.i/\f.i∈C:=by
 obtain ⟨i,_,r,c,o⟩:=TM l;have k:i∈C:=by simpa [Mv] using r
 have j:f.m∉C:=by simpa [Mv] using o
 rw [pk c];refine ⟨?_,k⟩
 by_cases g:f.m∈S
 .exact .step c (h.r _ g j)
 .exact .base c g
theorem Ci.rest (h:Ci a S C) (f:hZ a S x):Ci a S (C.filter λy=>decide (y≠x)):=by
 refine ⟨List.Nodup.sublist fv h.n,λy b=>h.s y (Ψ.1 b).1,λy b g=>?_⟩
 by_cases c:y∈C
 .grind
 .exact h.r y b c
theorem a9 (M:List (Int×Bool)) (x:Int):db M x=(dJ M).idxOf x:=by
 induction M with
 | nil=>rfl
 | cons e r a=>
  grind [db,dJ]
theorem av (a:(dJ M).Nodup) (x:Int):dJ (nI M x)=(dJ M).filter λy=>decide (y≠x):=by
 unfold nI;rw [a9];show ((M.eraseIdx _).map Prod.fst)=_;rw [Vq];show (dJ M).eraseIdx _=_;rw [<-List.erase_eq_eraseIdx_of_idxOf Z,List.Nodup.erase_eq_filter a]
 grind
theorem Ci.del (h:Ci a S (dJ M)) (b:hZ a S x):Ci a S (dJ (nI M x)):=by
 rw [av h.n];exact h.rest b
theorem cI {p:dG} {l:List Int}:(eD p l).length<=p.it.length:=by grind [eD,Ea]
abbrev Qp (l:List Int):D:= .sl none (l.map AF)
abbrev X3 (l:List (List Int)):D:= .sl none (l.map Qp)
def ng (k:Nat):Nat ->Nat:=λj=>if j<k then j else 0
theorem bK (k:Nat):Al (ng k) k k=ng (k+1):=by grind [KI,ng,GN]
theorem bJ:(λ_:Nat=>0)=ng 0:=by funext j;unfold ng;rw [η (by omega)]
def OM (f:Nat ->Nat) (k j:Nat):List Nat:=(List.range j).filter λi=>decide (f i=k)
theorem au (h:g o=s):OM g s (o+1)=OM g s o++ [o]:=by unfold OM;rw [ea,fy];simp [h]
theorem X9 (h:¬g o=s):OM g s (o+1)=OM g s o:=by unfold OM;rw [ea,fy];simp [h]
theorem ar (f:Nat ->Nat) (k j:Nat):(OM f k j).length<=j:=dh (fx _ _) (by rw [eT];exact κ _)
theorem Cn.trans {i:Nat} (h:Cn c E i o) (a:Cn c E o s):Cn c E i s:=Rh.trans h a
abbrev Wb (rs:List AO) (E:List (AG×Nat)) (i:Nat):List AO:=(dR rs (Cx E i)).map Prod.fst
theorem oM {i:Nat} (b:i<E.length) (a:o<E.length) (g:h∈Wb c E i) (f:h∈Wb c E o):Cn c E i o:=Rh.one (Dp.2 ⟨b,a,.inr (.inr ⟨h,g,f⟩)⟩)
theorem oN {rs:List AO} {i j:Nat} (b:i<E.length) (a:j<E.length) (h:(Cx E i).id∈(Cx E j).af):Cn rs E i j:=Rh.one (Dp.2 ⟨b,a,.inr (.inl h)⟩)
structure oe (rs:List AO) (E:List (AG×Nat)) (f:Nat ->Nat):Prop where
 uf:UF E.length (Cn rs E) f
 us:∃U,O3 rs E (λi r=>i<E.length/\r∈Wb rs E i) U f
 af:∀i,i<E.length ->∀j,j<E.length ->(Cx E j).id∈(Cx E i).af ->f j=f i
theorem oe.full (h:oe c E g):∀i j,i<E.length ->j<E.length ->Cn c E i j ->g i=g j:=λi j z w t=>by
 obtain ⟨U,l⟩:=h.us;refine (Rh.clos (p:=λx=>g i=g x) (λv s y o=>?_) t Z);obtain ⟨k,b,a⟩:=Dp.1 o;rw [s];rcases a with a | a | ⟨r,a,u⟩
 .exact (h.af v k y b a).symm
 .exact h.af y b v k a
 .rw [<-(l.has v r ⟨k,a⟩).2,(l.has y r ⟨b,u⟩).2]
theorem ST {a:List AG} (h:(a.map AG.id).Nodup) {q:AG ->Bool} (b:E.map Prod.fst=a.filter q):ox E:=by grind [fv,DP,fR,ox]
noncomputable def eC (rs:List AO) (E:List (AG×Nat)):List (List Int):=(gR E.length (Cn rs E)).map (EF E)
set_option maxHeartbeats 4000000 in
theorem oL (p:dG) (l:List Int) (hf:E9 p) (hl:l.length<=100000) (hC:DQ p l=0) (hE:Ai p=0) (hn:l.Nodup):
  AK prog 51 [.d (CM p),.d (Qp l)] [] λr H'=>∃E:List (AG×Nat),E.map Prod.fst=(dC p).filter (λi=>decide (i.id∈l))/\r= .d (.tup [X3 (eC (dX p) E),AF 0])/\H'=[]:=by
 have hi30:=hf.i;have hck:=YF p l hf.b hl (by omega);rw [hC] at hck;have hids:((dC p).map AG.id).Nodup:=FZ hE;have hol:(dC p).length<=30:=by rw [show dC p=dA p.it from ϖ hE,kj];exact hi30
 have hxm:∀i∈dC p,i∈p.it:=λi hi=>by rw [show dC p=dA p.it from ϖ hE] at hi;exact (KD p.it).mem_iff.1 hi
 refine Av func51 Z Z ntmps51 Z Z Z λF v=>(AC (AE (V (CQ 1 Z Z Z Z Z Z Z) (AB Z Z (AB Z Z (AD ?_))))));refine AC (AC (AE (J (B1 Z Z Bc Z Z Z) (cl Z Z (J (B5 (hck) Z Z) (AB Z Z (AD (AC ?_))))))));refine AE (cl Z Z (J (EO Z Z Z) (AD (EV Z (dw (by decide)) (AZ (AC (Dr [[],[],[1],[0,1,2],[0,1,2,3]] mixed Z (sK (γ:=Nat×MF) 3 (λq=>⟨154,[(2,.ptr 1 0 0),(35,.d (CM p)),(37,.d (W8 q.1))],[(41,[.multi q.2])]⟩) (λq=>I3 q.2 q.1 l) Z Z Z ?_ ?_ (λa hI=>?_)))))))))
 .refine J (B1 Z Z Bc Z Z Z) (AD ⟨Z,?_⟩);refine cl Z Z (AD ⟨Z,?_⟩);refine CZ (WW (Fo l hn (by omega)) Z [41] ⟨Z,trivial⟩ Z Z Z Z (λr H' ⟨b,N,G,D,_⟩=>by subst G D;exact ⟨Z,Z,Z⟩) Z) Z ?_;rintro _ ⟨r,H',⟨b,N,G,D,hW⟩,rfl⟩;subst G D;refine AD ⟨Z,?_⟩;exact ⟨(b,N),hW,A0 v [41] Z Z ⟨Z,Z,Z,trivial⟩⟩
 .refine cl Z Z (AD ⟨Z,?_,?_⟩);refine J (B1 Z Z Bc Z Z Z) (AD ⟨Z,?_⟩);refine CZ (WW (Fo l hn (by omega)) Z [41] ⟨Z,trivial⟩ Z Z Z Z (λr H' ⟨b,N,G,D,_⟩=>by subst G D;exact ⟨Z,Z,Z⟩) Z) Z ?_;rintro _ ⟨r,H',⟨b,N,G,D,hW⟩,rfl⟩;subst G D
  rotate_left
  refine CZ (WW (Fo l hn (by omega)) Z [41] ⟨Z,trivial⟩ Z Z Z Z (λr H' ⟨b,N,G,D,_⟩=>by subst G D;exact ⟨Z,Z,Z⟩) Z) Z ?_;rintro _ ⟨r,H',⟨b,N,G,D,hW⟩,rfl⟩;subst G D;refine AD ⟨Z,?_⟩;refine J (B1 Z Z Bc Z Z Z) ?_
  all_goals
   refine AD ⟨Z,?_⟩;exact ⟨(b,N),hW,A0 v [41] Z Z ⟨Z,Z,Z,trivial⟩⟩
 .obtain ⟨b,N⟩:=a;have hW:I3 N b l:=hI;refine An 4 Z Z ?_;refine CZ (WW (P0 p hE hf WF [pD b 0] N (λid=>decide (id∈l)) (Hu hW)) Z [41,40] ⟨Z,Z,trivial⟩ Z Z Z Z (λr H' ⟨E,M,G,D,_⟩=>by subst G D;exact ⟨Z,Z,Z⟩) Z) Z ?_;rintro _ ⟨r,H',⟨E,M,G,D,hR,hEq⟩,rfl⟩;subst G D;refine AD ⟨Z,?_⟩;refine An 5 Z Z (AB Z Z (AD ⟨Z,?_⟩));refine Dg (AC ?_)
  obtain ⟨n,w⟩:∃n,E.length=n:=⟨_,Z⟩
  have hn30:n<=30:=by have h1:(E.map Prod.fst).length<=(dC p).length:=(by rw [hEq];exact fx _ _);rw [ψ,w] at h1;omega
  have hIt:∀k,k<n ->Cx E k∈dC p:=λk hk=>by have h1:Cx E k∈E.map Prod.fst:=(by rw [DP (by omega)];exact gp (θ _));rw [hEq] at h1;exact (Ψ.1 h1).1
  have hId:ox E:=ST hids hEq;have R:(E.map C5).length=n:=by rw [ψ,w]
  refine AE (cl Z Z (J (JB Z R T1 Z) (V (EX 2 BX Z Z Z (by omega) mJ Z Z Z Z) ?_)));rw [mg,bJ];refine V (CE 3 oy Z Z Z Z) (V (Bk Z Z Z Z Z Z Z Ca) (AD ?_));refine AC (AC (AE (J (A5 Z Z Z BI Z) (J (Qs Z E0 Z) (cl Z Z (AD (A2 (Bb (α:=Nat) (λk=>⟨154,[(7,(.d (.sl none (E.map C5)))),(8,(.ptr 3 0 0)),(43,(.d (AL n))),(44,(.d (AL k)))],[(2,[.rowD 3 1 (rowN n (ng k))]),(3,[.blk 33 [.own 2 0 n]]),(40,[.multi M])]⟩) (λk=>k<=n) (λk=>n - k) (0) (ϱ _) (A0 v [2,3,40] Z Z ⟨Z,Z,Z,Z,trivial⟩) ?_))))))));rintro k hk;refine AC (AE (J (BW Z Z Z) (AD (AC (Ah Z (λh45=>?_) (λh45=>?_))))))
  .refine AZ (AC (A2 (AC ?_)));have g:k<n:=Bi h45;refine AE ?_;refine cl Z Z (AB Z Z (AD (AE (J (A5 Z Z Z BI Z) (cl Z Z (cl Z Z (J (C7 (k) Z Z (Z) (g) Z E0 B4 Z) (V (W1 Z Z Z Z Z (by rw [DF];exact g) DE Z B4) ?_))))))));rw [bK];refine AD (AE (J (Aw Z Z (AQ (k+1) (by omega)) Z) (cl Z Z (AD ?_))));exact ⟨k+1,g,by omega,A0 v [2,3,40] Z (Z) ⟨Z,Z,Z,Z,trivial⟩⟩
  .refine BL (AC ?_);have W:k=n:=by have:=h45;omega
   rw [Ok (f:=ng k) (h:=λj=>j) λj K=>ϖ (by omega)];refine AE (J (oZ Z Z) ?_);refine AB Z Z (AD (AC (AE (V (Pd 50 Z Z Z Z) (V (Pd 51 Z Z Z Z) (AB Z Z (AB Z Z (AD ?_))))))));refine AC (AC (AE (cl Z Z (J (JB Z R T1 Z) (cl Z Z (AD (A2 (Bb (α:=Nat×List (AO×Nat)×(Nat ->Nat)) (λq=>⟨154,[(7,(.d (.sl none (E.map C5)))),(8,(.ptr 3 0 0)),(10,(.fn 100 [.ptr 3 0 0])),(11,(.map 50 0)),(12,(.map 51 0)),(55,(.d (.sl none (E.map C5)))),(56,(.d (AL n))),(57,(.d (AL q.1)))],[(2,[.rowD 3 1 (rowN n q.2.2)]),(3,[.blk 33 [.own 2 0 n]]),(50,[BD C4 AL q.2.1]),(51,[BD AF AL (Lc E q.1)]),(40,[.multi M])]⟩) (λq=>q.1<=n/\UF n (Cn (dX p) E) q.2.2/\O3 (dX p) E (λi r=>i<q.1/\r∈Wb (dX p) E i) q.2.1 q.2.2) (λq=>n - q.1) ((0,[],λj=>j)) (⟨ϱ _,UF.id n λi=>Rh.refl i,(O3.zero _ _ _).mono λi r h=>by have:=h.1;omega⟩) (A0 v [2,3,50,51,40] Z Z ⟨Z,Z,Z,Z,Z,Z,Z,Z,trivial⟩) ?_))))))));rintro ⟨k,U,f⟩ ⟨hk,A,y⟩;dsimp only at hk A y⊢;refine AC (AE (J (BW Z Z Z) (AD (AC (Ah Z (λh58=>?_) (λh58=>?_))))))
   .refine AZ (AC (A2 (AC ?_)));have g:k<n:=Bi h58;have o:k<E.length:=by omega
    have hek:=θ o;refine AE (cl Z Z (J (Bq (k) Z Z (Z) (Aq o) T1 Z Gu Z) (J (IX Z Z LC Z) (V (CE 4 MD Z Z Z Z) (AB Z Z (V (Bk Z Z Z Z Z Z Z Gu) ?_))))));refine AD (AC (AE (cl Z Z (J (A1 Z IM Z Z Z) (J (A1 Z Ny Z Z Z) (J (A5 Z Z Z BE Z) (cl Z Z (V (Tc (Lc E k) ((E[k]).1.id) (k) Z Z Z lg HI Z Z) ?_))))))));rw [show BA (Lc E k) (E[k]).1.id k=Lc E (k+1) by rw [<-DP o];exact iw hId o];refine AD (AC ?_)
    obtain ⟨L,hLe⟩:∃L,dR (dX p) (E[k]).1=L:=⟨_,Z⟩
    have hRk:=hR _ hek;rw [hLe] at hRk;have hus:Wb (dX p) E k=L.map Prod.fst:=by rw [<-hLe,<-DP o]
    refine Pb 40 (E[k]).2 Z hRk (λ_ _=>rfl) λB c hB hBn=>?_
    obtain ⟨M1,hM1⟩:∃M1,BM M (E[k]).2 (.map (some (B,c)) (L5 L))=M1:=⟨_,Z⟩
    rw [hM1];have h1k:M1 (E[k]).2=some (.map (some (B,c)) (L5 L)):=by rw [<-hM1,GM]
    refine AE (J (A1 Z Lo Z Z Z) (J (A5 Z Z Z jH Z) (V (Oc 5 (f:=40) Z Z h1k Z D8 Z Z Z Z) (AD (A2 (Bb (α:=List Nat×List (AO×Int)×List (AO×Nat)×(Nat ->Nat)) (λq=>⟨154,[(7,(.d (.sl none (E.map C5)))),(8,(.ptr 3 0 0)),(10,(.fn 100 [.ptr 3 0 0])),(11,(.map 50 0)),(12,(.map 51 0)),(13,(.d (AL k))),(55,(.d (.sl none (E.map C5)))),(56,(.d (AL n))),(57,(.d (AL k))),(69,(.ptr 5 0 0))],[(5,[.iter 40 (E[k]).2 c q.1]),(2,[.rowD 3 1 (rowN n q.2.2.2)]),(3,[.blk 33 [.own 2 0 n]]),(50,[BD C4 AL q.2.2.1]),(51,[BD AF AL (Lc E (k+1))]),(40,[.multi M1])]⟩) (λq=>(q.2.1++Bh L B q.1).Perm L/\UF n (Cn (dX p) E) q.2.2.2/\O3 (dX p) E (λi r=>(i<k/\r∈Wb (dX p) E i)\/(i=k/\r∈q.2.1.map Prod.fst)) q.2.2.1 q.2.2.2) (λq=>(Bh L B q.1).length) (([],[],U,f)) (⟨by show ([]++Bh L B []).Perm L;rw [Co (by simpa [BK] using hB)];exact List.Perm.refl _,A,y.mono λi r h=>h.elim id λh=>by simp at h⟩) (A0 v [5,2,3,50,51,40] Z Z ⟨Z,Z,Z,Z,Z,Z,Z,Z,Z,Z,trivial⟩) ?_))))));rintro ⟨seen,O,U,f⟩ ⟨hP,A,y⟩;dsimp only at hP A y⊢;refine AC (AE (Vc (L) Z Z Z (h1k) Z (λhl70=>?_) (λj70 b70 u v70 hm70 hb70 hB70 H=>⟨_,Z,?_⟩)))
    .rw [hl70] at hP;have hPm:∀r,r∈O.map Prod.fst↔r∈Wb (dX p) E k:=λr=>by rw [hus];exact ((show O.Perm L by simpa using hP).map Prod.fst).mem_iff
     refine Lg 40 (E[k]).2 Z h1k Z ?_;rw [show BM M1 (E[k]).2 (.map none (L5 L))=M by rw [<-hM1,G7];exact PJ hRk];refine J (C8 Z Z Z) (AD (AC (EV Z Z (BL (AE (J (Aw Z Z (AQ (k+1) (by omega)) Z) (cl Z Z (AD ?_))))))));exact ⟨(k+1,U,f),⟨g,A,y.mono λi r ⟨h1,h2⟩=>(Nat.decEq i k).byCases (λe=>by subst e;exact .inr ⟨Z,(hPm r).2 h2⟩) λe=> .inl ⟨by omega,h2⟩⟩,by show n - (k+1)<n - k;omega,A0 v [2,3,50,51,40] Z (Z) ⟨Z,Z,Z,Z,Z,Z,Z,Z,trivial⟩⟩
    .refine J (C8 Z Z Z) (AD (AC (Dt Z Z (AZ (A2 (AC ?_))))));have hku:u∈Wb (dX p) E k:=by rw [hus];exact gp (f:=Prod.fst) (al hm70)
     have Q:∀i s,((i<k/\s∈Wb (dX p) E i)\/(i=k/\s∈(O++ [(u,v70)]).map Prod.fst)) ->((i<k/\s∈Wb (dX p) E i)\/(i=k/\s∈O.map Prod.fst))\/(i=k/\s=u):=λi s h=>h.elim (λh=> .inl (.inl h)) λ⟨e,h⟩=>by rw [du,ν] at h;exact h.elim (λh=> .inl (.inr ⟨e,h⟩)) λh=> .inr ⟨e,by simpa using h⟩
     refine AE (J (Og (L) j70 b70 Z Z Z (h1k) hm70 hb70 Z) (J (C8 Z Z Z) (V (CE 6 LY Z Z Z Z) ?_)));refine V (Bk Z Z Z Z Z Z Z iT) (AD (AC (AE (cl Z Z (J (B1 Z Z CL Z Z Z) (J (Oe (U) (u) (0) Z Z Z lh Bv sU Z) (cl Z Z (J (C8 Z Z Z) ?_))))))));refine J (C8 Z Z Z) (AB Z Z (AB Z Z (AD (AC (AE (cl Z Z (AD (KH Z (λh80=>?_) (λh80=>?_)))))))))
     .have hkU:u∈U.map Prod.fst:=Ez.1 h80;obtain ⟨I,hu2⟩:=y.ok _ (jU hkU);rw [w] at I;have hCk:=oM (by omega) o hu2 hku;refine AE (cl Z Z (cl Z Z (cl Z Z (V (Y0 ((Vv n f (AY U u 0) k I g (by omega)).by [(930,3),(931,2)] Z) Z [3,2] ⟨Z,Z,trivial⟩ Z Z Z Z Z Z Z Z Z) (AD ?_)))));exact ⟨(seen++ [b70],O++ [(u,v70)],U,_),⟨IB hP H,A.join (λ_ _ _=>Cn.trans) (λ_ _=>Cn.symm) I g hCk,y.join hkU Q⟩,by show (Bh L B (seen++ [b70])).length<(Bh L B seen).length;rw [H.length_eq];exact gA _,A0 v [5,2,3,50,51,40] Z (Z) ⟨Z,Z,Z,Z,Z,Z,Z,Z,Z,Z,trivial⟩⟩
     .refine AE (cl Z Z (J (B1 Z Z CL Z Z Z) (cl Z Z (V (Tc (U) (u) (k) Z Z Z lh Bv Z Z) (AD ?_)))));exact ⟨(seen++ [b70],O++ [(u,v70)],BA U u k,f),⟨IB hP H,A,y.new (λz=>by rw [Ez.2 z] at h80;cases h80) o hku Q⟩,by show (Bh L B (seen++ [b70])).length<(Bh L B seen).length;rw [H.length_eq];exact gA _,A0 v [5,2,3,50,51,40] Z (Z) ⟨Z,Z,Z,Z,Z,Z,Z,Z,Z,Z,trivial⟩⟩
   .refine BL (AC (AC ?_));have W:k=n:=by have:=h58;omega
    rw [W]
    have hS':O3 (dX p) E (λi r=>i<E.length/\r∈Wb (dX p) E i) U f:=y.mono λi r ⟨h1,h2⟩=>⟨by omega,h2⟩
    refine AE (cl Z Z (J (JB Z R T1 Z) (cl Z Z (AD (A2 (Bb (α:=Nat×(Nat ->Nat)) (λq=>⟨154,[(7,(.d (.sl none (E.map C5)))),(8,(.ptr 3 0 0)),(10,(.fn 100 [.ptr 3 0 0])),(12,(.map 51 0)),(89,(.d (.sl none (E.map C5)))),(90,(.d (AL n))),(91,(.d (AL q.1)))],[(2,[.rowD 3 1 (rowN n q.2)]),(3,[.blk 33 [.own 2 0 n]]),(51,[BD AF AL (Lc E n)])]⟩) (λq=>q.1<=n/\UF n (Cn (dX p) E) q.2/\O3 (dX p) E (λi r=>i<E.length/\r∈Wb (dX p) E i) U q.2/\∀i,i<q.1 ->∀j,j<n ->(Cx E j).id∈(Cx E i).af ->q.2 j=q.2 i) (λq=>n - q.1) ((0,f)) (⟨ϱ _,A,hS',λi hi=>by omega⟩) (A0 v [2,3,51] Z Z ⟨Z,Z,Z,Z,Z,Z,Z,trivial⟩) ?_))))));rintro ⟨k,f⟩ ⟨hk,A,y,hA⟩;dsimp only at hk A y hA⊢;refine AC (AE (J (BW Z Z Z) (AD (AC (Ah Z (λh92=>?_) (λh92=>?_))))))
    .refine AZ (AC (A2 (AC ?_)));have g:k<n:=Bi h92;have o:k<E.length:=by omega
     have hek:=θ o;have hIk:=hIt k g;rw [DP o] at hIk;have haf:=(hf.x _ (hxm _ hIk)).2.2;refine AE (cl Z Z (J (Bq (k) Z Z (Z) (Aq o) T1 Z Gu Z) (J (IX Z Z LC Z) (V (CE 4 MD Z Z Z Z) (AB Z Z (V (Bk Z Z Z Z Z Z Z Gu) (AD (AC ?_))))))));refine AE (J (A1 Z IM Z Z Z) (J (A1 Z FE Z Z Z) (J (A5 Z Z Z BI Z) (J (CV Z E0 Z) (cl Z Z (AD (A2 (Bb (α:=Nat×(Nat ->Nat)) (λq=>⟨154,[(7,(.d (.sl none (E.map C5)))),(8,(.ptr 3 0 0)),(10,(.fn 100 [.ptr 3 0 0])),(12,(.map 51 0)),(18,(.d (AL k))),(89,(.d (.sl none (E.map C5)))),(90,(.d (AL n))),(91,(.d (AL k))),(98,(.d (Qp (E[k]).1.af))),(99,(.d (AL (E[k]).1.af.length))),(100,(.d (AL q.1)))],[(2,[.rowD 3 1 (rowN n q.2)]),(3,[.blk 33 [.own 2 0 n]]),(51,[BD AF AL (Lc E n)])]⟩) (λq=>q.1<=(E[k]).1.af.length/\UF n (Cn (dX p) E) q.2/\O3 (dX p) E (λi r=>i<E.length/\r∈Wb (dX p) E i) U q.2/\(∀i,i<k ->∀j,j<n ->(Cx E j).id∈(Cx E i).af ->q.2 j=q.2 i)/\∀j,j<n ->(Cx E j).id∈(E[k]).1.af.take q.1 ->q.2 j=q.2 k) (λq=>(E[k]).1.af.length - q.1) ((0,f)) (⟨ϱ _,A,y,hA,λj K z=>by simp at z⟩) (A0 v [2,3,51] Z Z ⟨Z,Z,Z,Z,Z,Z,Z,Z,Z,Z,Z,trivial⟩) ?_))))))));rintro ⟨C,f⟩ ⟨hj8,A,y,hA,hD⟩;dsimp only at hj8 A y hA hD⊢;refine AC (AE (J (BW Z Z Z) (AD (AC (Ah Z (λh101=>?_) (λh101=>?_))))))
     .refine AZ (AC (A2 (AC ?_)));have t:C<(E[k]).1.af.length:=Bi h101;refine AE (J (Bq (C) Z Z (Z) (Aq t) E0 Z B4 Z) (J (EJ Z Z BE Z) ?_));refine AB Z Z (AD (AC (AE (cl Z Z (cl Z Z (J (Oe (Lc E n) ((E[k]).1.af[C]) (0) Z Z Z lg HI sU Z) (cl Z Z (J (C8 Z Z Z) ?_))))))));refine J (C8 Z Z Z) (AB Z Z (AB Z Z (AD (AC (AE (cl Z Z (AD (KH Z (λh110=>?_) (λh110=>?_)))))))))
      .have hkP:=Ez.1 h110;have hpg:=VY hId (x:=(E[k]).1.af[C]) (by rw [w];exact hkP);rw [w] at hpg;obtain ⟨I,hu2⟩:=hpg;have hCk:=oN (rs:=dX p) (i:=AY (Lc E n) (E[k]).1.af[C] 0) (j:=k) (by omega) o (by rw [hu2,DP o];exact θ t);refine AE ?_;refine cl Z Z (cl Z Z (cl Z Z (V (Y0 ((Vv n f (AY (Lc E n) (E[k]).1.af[C] 0) k I g (by omega)).by [(930,3),(931,2)] Z) Z [3,2] ⟨Z,Z,trivial⟩ Z Z Z Z Z Z Z Z Z) (AD (AE (J (Aw Z Z (AQ (C+1) (by omega)) Z) (cl Z Z (AD ?_))))))));exact ⟨(C+1,_),⟨t,A.join (λ_ _ _=>Cn.trans) (λ_ _=>Cn.symm) I g hCk,y.keep λ_ _ h=>Gb h,λi hi j K z=>Gb (hA i hi j K z),λj K z=>by rw [φ t,ν] at z;exact z.elim (λh=>Gb (hD j K h)) λh=>by have h3:=(Zo hId (show j<E.length by omega)).2;rw [ξ.1 h,w] at h3;rw [<-h3];exact PO⟩,by show (E[k]).1.af.length - (C+1)<(E[k]).1.af.length - C;omega,A0 v [2,3,51] Z (Z) ⟨Z,Z,Z,Z,Z,Z,Z,Z,Z,Z,Z,trivial⟩⟩
      .refine AZ (AE (J (Aw Z Z (AQ (C+1) (by omega)) Z) (cl Z Z (AD ?_))));exact ⟨(C+1,f),⟨t,A,y,hA,λj K z=>by rw [φ t,ν] at z;exact z.elim (hD j K) λh=>absurd (Ez.2 (by have h3:=(Zo hId (show j<E.length by omega)).1;rw [ξ.1 h,w] at h3;exact h3)) (by rw [h110];decide)⟩,by show (E[k]).1.af.length - (C+1)<(E[k]).1.af.length - C;omega,A0 v [2,3,51] Z (Z) ⟨Z,Z,Z,Z,Z,Z,Z,Z,Z,Z,Z,trivial⟩⟩
     .refine BL (AE (J (Aw Z Z (AQ (k+1) (by omega)) Z) (cl Z Z (AD ?_))));exact ⟨(k+1,f),⟨g,A,y,λi hi j K z=>(Nat.decEq i k).byCases (λe=>by subst e;exact hD j K (by rw [DP o] at z;have hje:C=(E[i]).1.af.length:=(by have:=h101;omega);rw [hje,eo];exact z)) λe=>hA i (by omega) j K z⟩,by show n - (k+1)<n - k;omega,A0 v [2,3,51] Z (Z) ⟨Z,Z,Z,Z,Z,Z,Z,trivial⟩⟩
    .refine BL (AC ?_);have W:k=n:=by have:=h92;omega
     have hall:oe (dX p) E f:=⟨by rw [w];exact A,⟨U,y⟩,λi hi j K z=>hA i (by omega) j (by omega) z⟩
     have hcls:(J9 n n f).map (EF E)=eC (dX p) E:=by unfold eC;rw [<-j7 hall.uf hall.full,w]
     refine AE (AB Z Z (AD (AC ?_)));refine AC (AE (cl Z Z (J (JB Z R T1 Z) (cl Z Z (AD (A2 (O0 24 10 R1 Z Z Z Z (Bb (α:=Nat×List (List Int)) (λq=>⟨154,[(7,(.d (.sl none (E.map C5)))),(8,(.ptr 3 0 0)),(24,(.own 10 0 q.2.length)),(117,(.d (.sl none (E.map C5)))),(118,(.d (AL n))),(119,(.d (AL q.1)))],[(10,[.rowD 33 1 (q.2.map Qp)]),(2,[.rowD 3 1 (rowN n f)]),(3,[.blk 33 [.own 2 0 n]])]⟩) (λq=>q.1<=n/\q.2=(J9 n q.1 f).map (EF E)) (λq=>n - q.1) ((0,[])) (⟨ϱ _,Z⟩) (A0 v [10,2,3] Z Z ⟨Z,Z,Z,Z,Z,Z,trivial⟩) ?_))))))));rintro ⟨k,T⟩ ⟨hk,hT⟩;dsimp only at hk hT⊢;refine AC (AE (J (BW Z Z Z) (AD (AC (Ah Z (λh120=>?_) (λh120=>?_))))))
     .refine AZ (AC (A2 (AC ?_)));have g:k<n:=Bi h120;have hTl:T.length<=30:=by have:=ap n k f;rw [hT,ψ];omega
      refine AE (cl Z Z (AB Z Z (AD (AC (AC ?_)))));refine AE (J (A5 Z Z Z BI Z) (cl Z Z (J (C7 (k) Z Z (Z) (g) Z E0 B4 Z) (J (DX Z Z (Lz g) Z BE Z) (cl Z Z (J (EO Z Z Z) (AD (Ah Z (λh127=>?_) (λh127=>?_)))))))))
      .refine BL (AE (J (Aw Z Z (AQ (k+1) (by omega)) Z) (cl Z Z (AD ?_))));exact ⟨(k+1,T),⟨g,by show _=(J9 n (k+1) f).map _;rw [X7 (by omega),hT]⟩,by show n - (k+1)<n - k;omega,A0 v [10,2,3] Z (Z) ⟨Z,Z,Z,Z,Z,Z,trivial⟩⟩
      .refine AZ (AC (AE (AB Z Z (AD (AC ?_)))));refine AC (AE (cl Z Z (J (JB Z R T1 Z) (cl Z Z (AD (A2 (O0 26 11 BX Z Z Z Z (Bb (α:=Nat×List Int) (λq=>⟨154,[(7,(.d (.sl none (E.map C5)))),(8,(.ptr 3 0 0)),(24,(.own 10 0 T.length)),(25,(.d (AL k))),(26,(.own 11 0 q.2.length)),(117,(.d (.sl none (E.map C5)))),(118,(.d (AL n))),(119,(.d (AL k))),(128,(.d (.sl none (E.map C5)))),(129,(.d (AL n))),(130,(.d (AL q.1)))],[(11,[.rowD 3 1 (q.2.map AF)]),(10,[.rowD 33 1 (T.map Qp)]),(2,[.rowD 3 1 (rowN n f)]),(3,[.blk 33 [.own 2 0 n]])]⟩) (λq=>q.1<=n/\q.2=EF E (OM f k q.1)) (λq=>n - q.1) ((0,[])) (⟨ϱ _,Z⟩) (A0 v [11,10,2,3] Z Z ⟨Z,Z,Z,Z,Z,Z,Z,Z,Z,Z,Z,trivial⟩) ?_))))))));rintro ⟨j,S⟩ ⟨K,X⟩;dsimp only at K X⊢;refine AC (AE (J (BW Z Z Z) (AD (AC (Ah Z (λY=>?_) (λY=>?_))))))
       .refine AZ (AC (A2 (AC ?_)));have t:j<n:=Bi Y;have hjE:j<E.length:=by omega
        have hSl:S.length<=30:=by have:=ar f k j;rw [X];unfold EF;rw [ψ];omega
        refine AE (cl Z Z (J (Bq (j) Z Z (Z) (Aq hjE) T1 Z Gu Z) (J (IX Z Z LC Z) (V (CE 4 MD Z Z Z Z) (AB Z Z (V (Bk Z Z Z Z Z Z Z Gu) (AD (AC ?_))))))));refine AE (J (A5 Z Z Z BI Z) (cl Z Z (J (C7 (j) Z Z (Z) (t) Z E0 B4 Z) (J (DX Z Z (Lz t) Z BE Z) (cl Z Z (J (MB Z Z Z) (AD (Ah Z (λh140=>?_) (λh140=>?_)))))))))
        .refine AE (cl Z Z (J (A1 Z IM Z Z Z) (J (A1 Z Ny Z Z Z) ?_)));refine J (A5 Z Z Z BE Z) (V (EH 30 BX Z Z Z Z Z Z Z Z) (V (Ic (S) ([(E[j]).1.id]) Z Z Z Z Z Z Z Z BX (by simp only [Φ];omega) Z Z Z Z) (AB Z Z (AD (AE (J (Aw Z Z (AQ (j+1) (by omega)) Z) (cl Z Z (AD ?_))))))));exact ⟨(j+1,S++ [(E[j]).1.id]),⟨t,by show _=EF E (OM f k (j+1));rw [au (by omega),X];unfold EF;rw [du,List.map_singleton,DP hjE]⟩,by show n - (j+1)<n - j;omega,A0 v [11,10,2,3] Z (Z) ⟨Z,Z,Z,Z,Z,Z,Z,Z,Z,Z,Z,trivial⟩⟩
        .refine AZ (AE (J (Aw Z Z (AQ (j+1) (by omega)) Z) (cl Z Z (AD ?_))));exact ⟨(j+1,S),⟨t,by show _=EF E (OM f k (j+1));rw [X9 (by omega),X]⟩,by show n - (j+1)<n - j;omega,A0 v [11,10,2,3] Z (Z) ⟨Z,Z,Z,Z,Z,Z,Z,Z,Z,Z,Z,trivial⟩⟩
       .refine BL ?_;have hje:j=n:=by have:=Y;omega
        refine L6 (emb:=AF) 26 11 S Z Z Z Z Z Z Z ?_;rw [show S=EF E (X8 n f k) by rw [X,hje];rfl];refine AE (cl Z Z ?_);refine cl Z Z (V (EH 31 R1 Z Z Z Z Z Z Z Z) (V (Ic (T) ([EF E (X8 n f k)]) Z Z Z Z Z Z Z Z R1 (by simp only [Φ];omega) Z Z Z Z) (AB Z Z (AD (AE (J (Aw Z Z (AQ (k+1) (by omega)) Z) (cl Z Z (AD ?_))))))));exact ⟨(k+1,T++ [EF E (X8 n f k)]),⟨g,by show _=(J9 n (k+1) f).map _;rw [aq (by omega),du,hT];rfl⟩,by show n - (k+1)<n - k;omega,A0 v [10,2,3] Z (Z) ⟨Z,Z,Z,Z,Z,Z,trivial⟩⟩
     .refine BL (AC ?_);have W:k=n:=by have:=h120;omega
      refine L6 (emb:=Qp) 24 10 T Z Z Z Z Z Z Z ?_;rw [show T=eC (dX p) E by rw [hT,W,hcls]];refine AE (cl Z Z (AB Z Z (AB Z Z (AD (A6 ?_)))));exact ⟨_,[],[],A4 Z,Z,Z,E,hEq,Z,Z⟩
theorem Q7 (f:Ak i=0) (b:h∈c) (a:Bj h=0) (v:Int):(h,v)∈dR c i↔v=BU i h/\v≠0:=by grind [ct,bp,BU,dR,GJ,Dv,Sq]
theorem oE (f:Ak i=0) (b:h∈c) (a:Bj h=0):h∈(dR c i).map Prod.fst↔BU i h≠0:=by simp [*,Q7]
theorem bz (f:Ak i=0) (b:h∈c) (a:Bj h=0):AY (dR c i) h 0=BU i h:=by grind [IF,oE,cc,bx,Q7]
theorem qt (a:h∈(dR c i).map Prod.fst):h∈c:=by
 obtain ⟨d,b,e⟩:=υ.1 a;rw [<-e];exact fb (Ψ.1 b).2
theorem Y5 (a:∀r∈c,Bj r=0) {x y:AG} (g:Ak x=0) (f:Ak y=0):YS c x y↔y.id∈x.af\/∃r∈c,BU x r<0/\0<BU y r:=by
 constructor
 .grind [qt,Q7,bz,YS]
 .rintro (h | ⟨r,b,j,i⟩)
  .exact .inr h
  .exact .inl ⟨(r,BU x r),(Q7 g b (a r b) _).2 ⟨Z,by omega⟩,j,by rw [bz f b (a r b)];exact i⟩
theorem Xd {id:Int} (h:id∈a.it.map AG.id):dF a id∈a.it/\(dF a id).id=id:=by
 obtain ⟨c,_,b,f⟩:=FA h
 grind
end Go.Proofs.YtnkkaeblokdifaaGreat
