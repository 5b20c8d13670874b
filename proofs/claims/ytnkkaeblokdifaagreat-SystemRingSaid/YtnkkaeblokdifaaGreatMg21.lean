import Derived.Test.YtnkkaeblokdifaaGreatMg20
open Go.Proofs.Tryz
set_option maxHeartbeats 4000000
namespace Go.Proofs.YtnkkaeblokdifaaGreat
open Go.RowKit
variable {g:List (List Nat)} {a:List AG} {w:List Nat} {c:dG} {f:List Nat} {h:List AO} {i:List cw} {j:Nat} {K:Nat ->Nat} {E:List (AG×Nat)} {k:Nat} {o:List Int} {s:Nat} {M:MF} {t:Nat} {u:Type} {x:List Nat} {y:List Int} {z A:AG} {B:Nat} {C:cw} {F:KG} {G:Nat} {H:Type} {I:A7}
set_option maxRecDepth 100000
theorem S7 {b:Type} (p:b ->Bool):∀(A:List b),A.find? p=A[A.findIdx p]?
 | []=>rfl
 | a::A=>by
  rw [List.find?_cons,List.findIdx_cons]
  cases hp:p a with
  | true=>rfl
  | false=>rw [S7 p A];rfl
theorem jx (X:AG):(ct X).Pairwise λa b=>Ba a.1 b.1<0:=by
 unfold ct
 split
 .exact Jy (dq X)
 .exact List.Pairwise.nil
theorem lZ (h:gJ c i a) (k:List (List (AO×Int))) (X:AG):fJ (i.map cw.r) k (ct X)=(i.filter λx=>decide (Cs (ct X) x.r<0)).map λx=>((i.map cw.r).idxOf x.r,(dH k x.r).length):=by
 have l:((ct X).filter λd=>decide (d.1∈i.map cw.r) && decide (d.2<0)).map Prod.fst=(i.filter λx=>decide (Cs (ct X) x.r<0)).map cw.r:=by
  refine lx (R:=λf b=>Ba f b<0) (λx=>by rw [Ly.refl];omega) (λx y z=>Ly.trans x y z) ?_ ?_ λr=>?_
  .rw [ep];exact List.Pairwise.filter _ (jx X)
  .rw [ep];exact List.Pairwise.filter _ h.up
  .constructor
   .intro s;obtain ⟨d,j,rfl⟩:=υ.1 s;obtain ⟨t,g⟩:=Ψ.1 j;rw [eA,fI,fI] at g;obtain ⟨x,o,e⟩:=υ.1 g.1;refine υ.2 ⟨x,Ψ.2 ⟨o,?_⟩,e⟩;have:Cs (ct X) d.1=d.2:=cc (YW X) t;rw [e,this];exact dm g.2
   .intro s;obtain ⟨x,o,rfl⟩:=υ.1 s;obtain ⟨t,g⟩:=Ψ.1 o;have g:=fb g
    have v:x.r∈(ct X).map Prod.fst:=Classical.byContradiction λu=>by
     have:Cs (ct X) x.r=0:=DO u;omega
    obtain ⟨d,j,e⟩:=υ.1 v;have:Cs (ct X) d.1=d.2:=cc (YW X) j;rw [e] at this;refine υ.2 ⟨d,Ψ.2 ⟨j,?_⟩,e⟩;rw [eA,fI,fI];exact ⟨by rw [e];exact υ.2 ⟨x,t,Z⟩,by omega⟩
 have w:fJ (i.map cw.r) k (ct X)=(((ct X).filter λd=>decide (d.1∈i.map cw.r) && decide (d.2<0)).map Prod.fst).map λr=>((i.map cw.r).idxOf r,(dH k r).length):=by
  unfold fJ;rw [dl];rfl
 rw [w,l,dl];rfl
theorem Zk (h:gJ c i a) (f:Nat ->Bool) (g:C∈i):(dD i a f).po.getD ((i.map cw.r).idxOf C.r) Br=Zl (a.map ct) f C:=by
 obtain ⟨j,k,rfl⟩:=eQ g;have b:j<(i.map cw.r).length:=by simpa using k
 have e:(i.map cw.r).idxOf i[j].r=j:=by
  have:=GC h.s.r b
  grind
 rw [e];show (i.map _).getD j Br=_
 grind
theorem Kg (f:(a.map AG.id).Nodup) {i j:Nat} (c:i<a.length) (b:j<a.length) (h:(a.getD i cv).id=(a.getD j cv).id):i=j:=by
 rw [DW cv c,DW cv b] at h
 have g:(a.map AG.id)[i]'(by simpa using c)=(a.map AG.id)[j]'(by simpa using b):=by
  grind
 exact (List.getElem_inj f).1 g
theorem WR (h:gJ c i a) (g:Nat ->Bool) (D:j<a.length) (z:C∈i):
  Nb a (BG a g a.length) (a.getD j cv).id C=if Cs (ct (a.getD j cv)) C.r<0 then (if eZ (dD i a g) ((i.map cw.r).idxOf C.r,(dH ((a.map ct).take j) C.r).length)=true then some (Q4 (dD i a g) (ID (i.map cw.r) a g j) ((i.map cw.r).idxOf C.r,(dH ((a.map ct).take j) C.r).length)) else none) else none:=by
 have dr:j<(a.map ct).length:=by simpa using D
 have N:(a.map ct).getD j []=ct (a.getD j cv):=by rw [DW [] dr,DW cv D,eP]
 have M:=Zd h.v (h.w C z);obtain ⟨B,t,E,S⟩:=J0 dr C.r;rw [N] at t
 have y:(a.getD j cv).id∈dO a C.r↔Cs (ct (a.getD j cv)) C.r<0:=by
  rw [M,υ]
  constructor
  .rintro ⟨b,u,e⟩;have k:=Lh u;rw [ψ] at k;have:=Kg h.s.i k D e;subst this;have:=(Ψ.1 u).2;rw [N] at this;exact fb this
  .intro l;refine ⟨j,?_,Z⟩;rw [t,ϖ l];simp
 unfold Nb
 by_cases l:Cs (ct (a.getD j cv)) C.r<0
 .rw [ϖ (y.2 l),ϖ l];rw [ϖ l] at t
  obtain ⟨A,P⟩:∃A,dH ((a.map ct).take j) C.r=A:=⟨_,Z⟩
  rw [P] at t E⊢
  have L:dO a C.r=A.map (λb=>(a.getD b cv).id)++((a.getD j cv).id::B.map λb=>(a.getD b cv).id):=by
   rw [M,t,du,List.singleton_append,dz]
  have s:(A.map λb=>(a.getD b cv).id).length=A.length:=ψ _;have w:A.length<(dO a C.r).length:=by rw [L,Ω,s];simp
  have v:(dO a C.r).take A.length=A.map λb=>(a.getD b cv).id:=by rw [L,<-s,List.take_left'];rfl
  have K:(dO a C.r)[A.length]=(a.getD j cv).id:=by
   have:(dO a C.r)[A.length]? =some (a.getD j cv).id:=by
    rw [L,mH (by omega),s,Nat.sub_self];rfl
   rw [ω w] at this;exact Option.some.inj this
  rw [Pk w (λf l=>by
   rw [v] at l;obtain ⟨b,u,rfl⟩:=υ.1 l;have:=E b u
   exact dm λe=>by have:=Kg h.s.i (by omega) D e;omega) (by rw [K];simp),v,List.find?_map]
  have R:A.find? ((λf=>decide (f∉BG a g a.length))∘λb=>(a.getD b cv).id)=A.find? λb=>!g b:=FC λb u=>by
   have k:b<a.length:=by have:=E b u;omega
   have:=K4 h.s.i g k;show decide ((a.getD b cv).id∉_)=!g b
   cases ho:g b with
   | true=>exact dw λH=>H (this.2 ho)
   | false=>exact dm λH=>by rw [this.1 H] at ho;cases ho
  rw [R,S7]
  have I:((dD i a g).po.getD ((i.map cw.r).idxOf C.r) Br).mi=if A.findIdx (λb=>!g b)<A.length then A.findIdx λb=>!g b else (([j]:List Nat)++B).findIdx (λb=>!g b)+A.length:=by
   rw [Zk h g z];show ab g (dH (a.map ct) C.r)=_;unfold ab;rw [t,Sa]
  have G:((dD i a g).po.getD ((i.map cw.r).idxOf C.r) Br).q=dH (a.map ct) C.r:=by rw [Zk h g z];rfl
  have F:((dD i a g).po.getD ((i.map cw.r).idxOf C.r) Br).r=C.r:=by rw [Zk h g z];rfl
  unfold eZ Q4;dsimp only;rw [I,G,F]
  by_cases o:A.findIdx (λb=>!g b)<A.length
  .rw [ϖ o,ϖ (dm o),ω o];have J:=θ o;have k:A[A.findIdx λb=>!g b]<a.length:=by have:=E _ J;omega
   have Q:(dH (a.map ct) C.r).getD (A.findIdx λb=>!g b) 0=A[A.findIdx λb=>!g b]:=by
    rw [t,Δ,mG o,ω o];rfl
   rw [Q,Qn k];rfl
  .rw [η o,η (by simp),fw (by omega)];rfl
 .rw [η (λO=>l (y.1 O)),η l]
theorem cQ (h:gJ c i a) (g:Nat ->Bool) (t:j<a.length):Cf c (BG a g a.length) (a.getD j cv).id=F6 (dD i a g) (ID (i.map cw.r) a g j):=by
 have k:a.getD j cv∈a:=by rw [DW cv t];exact θ t
 have r:a.getD j cv∈c.it:=by rw [<-h.hi] at k;rw [<-h.hi];exact (KD c.it).mem_iff.1 k
 have E:i.findSome? (Nb a (BG a g a.length) (a.getD j cv).id)=((fJ (i.map cw.r) ((a.map ct).take j) (ct (a.getD j cv))).find? (eZ (dD i a g))).map (Q4 (dD i a g) (ID (i.map cw.r) a g j)):=by
  rw [lZ h,LO,<-Kl (p:=λx=>decide (Cs (ct (a.getD j cv)) x.r<0)) (λx u v=>by rw [WR h g t u,η (of_decide_eq_false v)])]
  grind [Je,WR]
 have D:dF c (a.getD j cv).id=a.getD j cv:=by
  obtain ⟨y,_,B,A⟩:=FA (p:=c) (id:=(a.getD j cv).id) (υ.2 ⟨_,r,Z⟩);refine QR (WY (JA h.e).2.1) (by rw [B];exact θ y) r A
 have C:(a.getD j cv).af.find? (λf=>decide (f∉BG a g a.length))=(a.getD j cv).af.find? (dP (dD i a g)):=FC λf z=>by
  have w:=h.s.a _ k f z;have s:=gi w;have l:=iA s;unfold dP;rw [Nq]
  generalize (a.map AG.id).idxOf f=b at s l⊢
  have o:b<a.length:=by simpa using s
  rw [eP] at l;rw [Qn o];show _=!g b;have:=K4 h.s.i g o
  grind
 unfold Cf;rw [h.hr,h.hi,E,D,C];unfold F6
 show _=match (fJ (i.map cw.r) ((a.map ct).take j) (ct (a.getD j cv))).find? (eZ (dD i a g)) with
  | some e=>some (Q4 (dD i a g) (ID (i.map cw.r) a g j) e)
  | none=>match (a.getD j cv).af.find? (dP (dD i a g)) with
   | some id=>some ⟨(a.getD j cv).id,2,Er,id⟩
   | none=>none
 cases (fJ (i.map cw.r) ((a.map ct).take j) (ct (a.getD j cv))).find? (eZ (dD i a g)) with
 | some e=>rfl
 | none=>
  show ((a.getD j cv).af.find? (dP (dD i a g))).map _=_
  cases (a.getD j cv).af.find? (dP (dD i a g))<;>rfl
theorem Vj (h:gJ c i a) (g:Nat ->Bool):Mi c (BG a g a.length)=CG (dD i a g):=by
 have u:(BG a g a.length).findSome? (Cf c (BG a g a.length))=(dD i a g).nd.findSome? (PH (dD i a g)):=by
  show (((List.range a.length).filter g).map λb=>(a.getD b cv).id).findSome? _=((List.range a.length).map _).findSome? _;rw [List.findSome?_map,List.findSome?_map]
  rw [<-Kl (p:=g) (l:=List.range a.length) (f:=PH (dD i a g)∘ID (i.map cw.r) a g) (λb _ k=>by
   show PH _ (ID _ _ _ b)=none;unfold PH;rw [η];show ¬(g b=true)
   rw [k];simp)]
  refine Je λb o=>?_;obtain ⟨s,r⟩:=Ψ.1 o;show Cf c _ (a.getD b cv).id=PH _ (ID _ _ _ b);rw [cQ h g (Γ.1 s)];unfold PH;rw [ϖ];exact r
 have t:i.findSome? (Ox a c.it (BG a g a.length))=(dD i a g).po.findSome? (T6 (dD i a g)):=by
  show _=(i.map _).findSome? _;rw [List.findSome?_map];exact Je λx j=>jC h g j
 unfold Mi CG;rw [h.hr,h.hi,u,t]
 grind
theorem Qz (c:(a.map AG.id).Nodup) (b:Nat ->Bool) (f:j<a.length):GP (BG a b a.length) (a.getD j cv).id=BG a (Af b j) a.length:=by
 unfold GP BG;rw [List.filter_map,List.filter_filter]
 grind [fZ,Hz,Kg,Fv]
def sT (p:dG) (n:Nat):Prop:=p.it.length<=n/\p.ro.length<=30/\∀i∈p.it,i.po.length<=8/\i.pa.length<=8/\i.af.length<=8
instance (p:dG) (n:Nat):Decidable (sT p n):=inferInstanceAs (Decidable (_/\_/\∀i∈p.it,_))
def DZ (p:dG) (l:List Int):Prop:=(∀id∈l,Cf p l id=none)/\∀x∈p.ro,¬EQ p.it x l<0
noncomputable instance (p:dG) (l:List Int):Decidable (DZ p l):=Classical.propDecidable _
theorem aR (a:List cw) (b:List AG) (c:Nat ->Bool):Am (dD a b c)=dD a b c:=by
 unfold Am dD;dsimp only;rw [dl,dl];rfl
theorem QK {b:List cw} {a:List AG} (s:(a.map AG.id).Nodup) {c:Nat ->Bool} {e:KG} (h:CG (dD b a c)=some e):∃i,i<a.length/\c i=true/\(a.getD i cv).id=e.id/\(a.map AG.id).idxOf e.id=i:=by
 obtain ⟨i,x,o,f,j⟩:=QJ h;obtain ⟨l,r,g⟩:=MC (aR b a c) o;have k:(a.getD i cv).id=e.id:=by rw [j,g]
 refine ⟨i,l,by rw [<-r];exact f,k,?_⟩;have t:=GC s (i:=i) (by simpa using l)
 grind
theorem VT {b:List cw} {a:List AG} (j:(a.map AG.id).Nodup):∀(f:Nat) (c:Nat ->Bool),Cq a.length c<=f ->CG (dD b a (EY b a f c).2)=none
 | 0,c,h=>by
  show CG (dD b a c)=none
  cases hne:CG (dD b a c) with
  | none=>rfl
  | some e=>
   obtain ⟨i,k,g,_,_⟩:=QK j hne;have:=Dj k g;omega
 | f+1,c,h=>by
  cases hne:CG (dD b a c) with
  | none=>rw [JN hne];exact hne
  | some e=>
   obtain ⟨i,k,g,_,l⟩:=QK j hne;have:=Dj k g;rw [JM hne,l];exact VT j f (Af c i) (by omega)
theorem TA (n:Nat) (a:Nat ->Bool):Cq n a<=n:=by grind [Cq]
theorem U0 (a:Ai c=0) (b:E9 c):Mi c (dE c)=none:=by
 have h:=Ze a b;have f:dC c=dA c.it:=ϖ a;unfold dE Ia;rw [f,Vj h];exact VT h.s.i _ _ (TA _ _)
theorem QE {its:List AG} {x:cw} {l:List Int} (h:∀i∈its,i.id∈l ->0<=BU i x.r):0<=EQ its x l:=by
 have f:(0:Int)<=max x.n 0:=Int.le_max_right _ _
 have c:∀m:List AG,(∀i∈m,0<=BU i x.r) ->0<=(m.map λi=>BU i x.r).sum:=λm=>by
  induction m with
  | nil=>intro _;simp
  | cons a m b=>
   grind
 grind [EQ]
theorem Xu (h:Mi c o=none):DZ c o:=by
 unfold Mi at h
 cases h1:o.findSome? (Cf c o) with
 | some e=>rw [h1] at h;cases h
 | none=>
  rw [h1] at h;refine ⟨λid b=>List.findSome?_eq_none_iff.1 h1 id b,λx j k=>?_⟩;have g:=List.findSome?_eq_none_iff.1 h x ((Ec c).mem_iff.2 j);unfold Ox at g;rw [ϖ k] at g
  have r:(dO (dA c.it) x.r).reverse.find? (λa=>decide (a∈o))=none:=by
   simp_all
  have u:=List.find?_eq_none.1 r
  have:=QE (its:=c.it) (x:=x) (l:=o) λi t s=>Classical.byContradiction λf=>by
   grind [dO,KD]
  omega
theorem U1 (b:Ai c=0) (a:E9 c):DZ c (dE c):=Xu (U0 b a)
theorem Un {id:Int} (g:∀x∈y,x∈o) (h:Cf c y id=none):Cf c o id=none:=by
 unfold Cf at h⊢
 cases h1:(Bu c).findSome? (Nb (dA c.it) y id) with
 | some e=>rw [h1] at h;cases h
 | none=>
  rw [h1] at h
  have f:(Bu c).findSome? (Nb (dA c.it) o id)=none:=He λx a=>by
   have b:=List.findSome?_eq_none_iff.1 h1 x a;unfold Nb at b⊢
   simp_all
  rw [f]
  simp_all
theorem Rl {x:cw} {l t:List Int} (g:∀y∈t,y∈l):∀{its:List AG},(∀i∈its,i.id∈l ->i.id∉t ->0<=BU i x.r) ->EQ its x t<=EQ its x l
 | [],_=>Int.le_refl _
 | a::its,h=>by
  have f:=Rl g (its:=its) λi j=>h i (er _ j);have k:=h a (eI ..);unfold EQ at f⊢;rw [fY,fY]
  by_cases b:a.id∈t
  .rw [ϖ (dm b),ϖ (dm (g _ b))];simp only [dz,eW];omega
  .rw [η (by simpa using b)]
   by_cases c:a.id∈l
   .rw [ϖ (dm c)];have:=k c b;simp only [dz,eW];omega
   .rw [η (by simpa using c)];exact f
theorem aL (X:Ai c=0) (J:DZ c y) (N:∀f∈y,f∈o) (z:Mi c o=some F):F.id∉y:=λj=>by
 unfold Mi at z
 split at z
 .rename_i e' s
  injection z with z;subst z
  obtain ⟨id,S,h⟩:=List.exists_of_findSome?_eq_some s;have w:=YI h;rw [w] at j;rw [Un N (J.1 id j)] at h;cases h
 .obtain ⟨x,M,h⟩:=List.exists_of_findSome?_eq_some z;have H:=(Ec c).mem_iff.1 M;unfold Ox at h
  split at h
  .rename_i ho
   obtain ⟨a,W,rfl⟩:=Option.map_eq_some_iff.1 h;dsimp only at j;obtain ⟨V,u,v,I,P⟩:=List.find?_eq_some_iff_append.1 W
   have A:dO (dA c.it) x.r=v.reverse++a::u.reverse:=by
    have:=dc List.reverse I;rw [List.reverse_reverse,List.reverse_append,List.reverse_cons,gn] at this;exact this
   have G:(dO (dA c.it) x.r).Nodup:=by
    have s:((dA c.it).map AG.id).Nodup:=((KD c.it).map AG.id).nodup_iff.2 (WY (JA X).2.1);unfold dO;exact s.sublist ((fv).map AG.id)
   have K:a∉v.reverse:=λQ=>by
    rw [A,gY] at G;exact G.2.2 _ Q _ (eI ..) rfl
   have k:=J.1 a j
   have E:∀b∈v.reverse,b∈y:=λb U=>by
    unfold Cf at k
    cases s:(Bu c).findSome? (Nb (dA c.it) y a) with
    | some F=>rw [s] at k;cases k
    | none=>
     have w:=List.findSome?_eq_none_iff.1 s x M;unfold Nb at w;rw [ϖ (by rw [A];simp)] at w;have D:v.reverse.length<(dO (dA c.it) x.r).length:=by rw [A,Ω];simp
     have B:(dO (dA c.it) x.r).take v.reverse.length=v.reverse:=by rw [A,List.take_left'];rfl
     have L:(dO (dA c.it) x.r)[v.reverse.length]=a:=by
      have:(dO (dA c.it) x.r)[v.reverse.length]? =some a:=by
       rw [A,mH (κ _),Nat.sub_self];rfl
      rw [ω D] at this;exact Option.some.inj this
     rw [Pk D (λg O=>by rw [B] at O;exact dm λF=>K (F▸O)) (by rw [L];simp),B] at w
     have Y:v.reverse.find? (λa=>decide (a∉y))=none:=by
      cases hf:v.reverse.find? (λa=>decide (a∉y)) with
      | none=>rfl
      | some g=>rw [hf] at w;cases w
     have:=List.find?_eq_none.1 Y b U
     simpa using this
   have R:=Rl (x:=x) N (its:=c.it) λi T s h=>Classical.byContradiction λC=>by
    have r:i.id∈dO (dA c.it) x.r:=υ.2 ⟨i,Ψ.2 ⟨(KD c.it).mem_iff.2 T,by simpa using C⟩,Z⟩;rw [A] at r;rcases ν.1 r with r | r
    .exact h (E _ r)
    .rcases di.1 r with r | r
     .rw [r] at h;exact h j
     .have:=P _ (List.mem_reverse.1 r)
      simp at this
      exact this s
   exact J.2 x H (by omega)
  .cases h
theorem X5 (l:Ai c=0) (x:E9 c) (v:DZ c y) (A:∀a∈y,a∈c.it.map AG.id):∀a∈y,a∈dE c:=by
 have h:=Ze l x;have B:dC c=dA c.it:=ϖ l
 have r:∀(f:Nat) (b:Nat ->Bool),(∀a∈y,a∈BG (dA c.it) b (dA c.it).length) ->∀a∈y,a∈BG (dA c.it) (EY (Bu c) (dA c.it) f b).2 (dA c.it).length:=by
  intro f
  induction f with
  | zero=>intro b g;exact g
  | succ f s=>
   intro b g
   cases hne:CG (dD (Bu c) (dA c.it) b) with
   | none=>rw [JN hne];exact g
   | some e=>
    obtain ⟨i,w,_,k,u⟩:=QK h.s.i hne;rw [JM hne,u];refine s (Af b i) λa o=>?_;have j:=aL l v g (by rw [Vj h];exact hne);rw [<-Qz h.s.i b w,k];exact Ψ.2 ⟨g a o,dm λz=>j (z▸o)⟩
 grind [dE,Ia,BG,IH,KD]
def dX (p:dG):List AO:=p.ro.map cw.r
def dR (rs:List AO) (i:AG):List (AO×Int):=(ct i).filter λd=>decide (d.1∈rs)
theorem bx (a:List AO) (i:AG):((dR a i).map Prod.fst).Nodup:=List.Nodup.sublist (List.Sublist.map _ fv) (YW i)
theorem D9 [DecidableEq u] {O:List (u×H)} {x:u} {v:H} (h:x∉O.map Prod.fst):BA O x v=O++ [(x,v)]:=by
 induction O with
 | nil=>rfl
 | cons a l b=>
  grind [BA]
theorem G7 {y:A7}:BM (BM M s I) s y=BM M s y:=by grind [GM,Gz]
theorem PJ (h:M s=some I):BM M s I=M:=by grind [GM,Gz]
theorem Li {l:List u} (a:l.Nodup) (b:t<l.length):l[t]∉l.take t:=by grind [List.take_append_drop]
abbrev WF:FuncId:=150
structure I3 (N:MF) (b:Nat) (l:List Int):Prop where
 ex:∃m,N b=some (.cells 173 [mD m])/\N m=some (.map none (BK AF Ac (BB l)))
abbrev W8 (b:Nat):D:= .fn WF [] [pD b 0]
theorem Fo (l:List Int) (j:l.Nodup) (v:l.length<=1000000):AK prog 99 [.d (.sl none (l.map AF))] [] λr t=>∃b N,r= .d (W8 b)/\t=[(41,[.multi N])]/\I3 N b l:=by
 refine Av func99 Z Z ntmps99 Z Z Z λF h=>(AC (AE (AB Z Z (AD ?_))));refine AC (IS 41 Z Z Z (AE (V (Pd 1 Z Z Z Z) (PB 6 1 41 h Z Z Z Z Z Z Z Z Z Z (λ_=>rfl) λm u=>(Lg 41 m Z (GM _ _ _) Z (V (CE 2 lF Z Z Z Z) (V (Bk Z Z Z Z Z Z Z lN) (AD ?_))))))));refine AC (AC (AE (cl Z Z (J (CV Z E0 Z) (cl Z Z (AD (A2 (Bb (α:=Nat×MF) (λq=>⟨17,[(3,(.ptr 2 0 0)),(7,(.d (.sl none (l.map AF)))),(8,(.d (AF (l.length:Int)))),(9,(.d (AF (q.1:Int))))],[(2,[.blk 173 [.d (mD m)]]),(41,[.multi q.2])]⟩) (λq=>q.1<=l.length/\q.2 m=some (.map none (BK AF Ac (BB (l.take q.1))))) (λq=>l.length - q.1) ((0,_)) (⟨ϱ _,GM _ _ _⟩) (A0 h [2,41] Z Z ⟨Z,Z,Z,Z,trivial⟩) ?_))))))));rintro ⟨k,N⟩ ⟨o,g⟩;dsimp only at o g⊢;refine AC (AE (J (BW Z Z Z) (AD (AC (Ah Z (λc=>?_) (λc=>?_))))))
 .refine AZ (AC (A2 (AC ?_)));have a:k<l.length:=Bi c;refine AE (J (Bq (k) Z Z (Z) (Aq a) E0 Z B4 Z) (J (EJ Z Z BE Z) (AB Z Z (AD ?_))));refine AE (J (A5 Z Z Z Rq Z) (cl Z Z (V (RU (f:=41) (BB (l.take k)) l[k] true Z Z g Z ET HI Z Z) (AD (AE (J (Aw Z Z (AQ (k+1) (by omega)) Z) (cl Z Z (AD ?_))))))));exact ⟨(k+1,_),⟨a,by show BM _ _ _ _=_;rw [GM,φ a,cb (Li j a)]⟩,by show l.length - (k+1)<l.length - k;omega,A0 h [2,41] Z (Z) ⟨Z,Z,Z,Z,trivial⟩⟩
 .refine BL (AC ?_);have i:k=l.length:=by have:=c;omega
  rw [i,eo] at g;refine DR (ds:=[mD m]) 3 2 41 h Z Z Z Z Z Z Z Z Z Z Z (λ_=>rfl) λb s=>(AE (J (YZ (ds:=[]) (es:=[pD b 0]) Z Z Z Z Z) (AB Z Z (AD (A6 ?_)))));exact ⟨_,[41],_,A4 Z,Z,Z,b,_,Z,Z,⟨m,GM _ _ _,by rw [Gz (λe=>by rw [e,s] at g;cases g)];exact g⟩⟩
theorem Hu {N:MF} (h:I3 N s o) (id:Int):AK prog WF [.d (AF id),.d (pD s 0)] [(41,[.multi N])] λr g=>r= .d (Ac (decide (id∈o)))/\g=[(41,[.multi N])]:=by
 obtain ⟨m,c,a⟩:=h;refine Av func150 Z Z ntmps150 Z Z Z λF i=>(AC (AE (AB Z Z ?_)));refine AD (AC (AE (J (EI (f:=41) Z Z c Z Rq Z) (cl Z Z (J (RX (f:=41) (BB o) id false _ Z Z a Z ET HI T5 (W4 o id) Z) (AB Z Z (AD (A6 ?_))))))));exact ⟨_,[41],_,A4 Z,Z,Z,Z,Z⟩
theorem YF (p:dG) (l:List Int) (c:EP p) (b:l.length<=100000) (a:p.it.length<=1000):AM prog 97 [.d (CM p),.d (.sl none (l.map AF))] (AF (DQ p l)):=by
 refine Av func97 Z Z ntmps97 Z Z Z λF f=>(AC (AE (V (CQ 1 Z Z Z Z Z Z Z) (AB Z Z ?_))));refine AD (AC (AE (J (B1 Z Z Bc Z Z Z) (cl Z Z (J (B5 (Ye p l c b a) Z Z) (cl Z Z (J (Ds Z Z Z) (J (Ds Z Z Z) ?_))))))));refine AB Z Z (AB Z Z (AD (AC (AE (cl Z Z (AB Z Z (AD (A6 ?_))))))));exact ⟨_,[],[],A4 Z,Z,Z,Z,Z⟩
abbrev C5 (e:AG×Nat):D:= .agg [AF e.1.id,AF e.1.pr,AF e.1.sq,.sl none (e.1.po.map Ck),.sl none (e.1.pa.map I0),.sl none (e.1.af.map AF),mD e.2]
abbrev L5 (m:List (AO×Int)):List (D×D):=BK C4 AF m
def Uu (rs:List AO) (M:MF) (E:List (AG×Nat)):Prop:=∀e∈E,M e.2=some (.map none (L5 (dR rs e.1)))
theorem Uu.add (a:Uu h M E) (c:M s=none):Uu h (BM M s (.map none (L5 (dR h z)))) (E++ [(z,s)]):=by grind [Uu,BM]
def dK (rs:List AO) (i:AG) (j:Nat):List (AO×Int):=((ct i).take j).filter λd=>decide (d.1∈rs)
theorem oG (a:List AO) (i:AG):dK a i (ct i).length=dR a i:=by unfold dK dR;rw [eo]
theorem oF (k:t<(ct z).length) (a:((ct z)[t]).1∈h):BA (dK h z t) ((ct z)[t]).1 ((ct z)[t]).2=dK h z (t+1):=by
 have g:=YW z
 have l:((ct z)[t]).1∉(dK h z t).map Prod.fst:=λb=>by
  obtain ⟨d,c,e⟩:=υ.1 b;have f:d∈(ct z).take t:=(Ψ.1 c).1;have o:((ct z)[t]).1∈((ct z).map Prod.fst).take t:=by rw [<-List.map_take,<-e];exact gp f
  grind [Li]
 grind [D9,dK,φ]
theorem jz (b:t<(ct z).length) (a:((ct z)[t]).1∉h):dK h z (t+1)=dK h z t:=by
 unfold dK;rw [φ b,fy]
 simp [a]
def Sh (a b:AG):Int:=if HE a b<0 then -1 else 1
theorem Sg {b:AG}:Sh A b<0↔HE A b<0:=by grind [Sh]
theorem ba:Go.Sort.SWO (ltOf Sh):=by
 have e:ltOf Sh=ltOf HE:=by
  funext a b
  exact decide_eq_decide.2 Sg
 rw [e];exact DI.swo
theorem Ud (a b:AG):AM prog 148 [.d (Ap a),.d (Ap b)] (AF (Sh a b)):=by
 refine Av func148 Z Z ntmps148 Z Z Z λF f=>(AC (AE (V (CQ 1 Z Z Z Z Z Z Z) (V (CQ 2 Z Z Z Z Z Z Z) (AB Z Z ?_)))));refine AD (AC (AC (AE (J (B1 Z Z Bs Z Z Z) (J (B1 Z Z Bs Z Z Z) (J (B5 (cS a b) Z Z) (AD (Ah Z (λc=>?_) (λc=>?_)))))))))
 .refine AC (AE (AB Z Z (AD (A6 ?_))));exact ⟨_,[],[],A4 Z,Z,Z,Ay (by unfold Sh;rw [ϖ c]),Z⟩
 .refine AZ (AC (AE (AB Z Z (AD (A6 ?_)))));exact ⟨_,[],[],A4 Z,Z,Z,Ay (by unfold Sh;rw [η c]),Z⟩
theorem YB (l:List AG) (c:l.length<=1000000):AK prog 146 [.d (.sl none (l.map Ap))] [] λr b=>r= .own 20 0 l.length/\b=[(20,[.rowD 49 6 (l.map Ap)])]:=by
 refine Av func146 Z Z ntmps146 Z Z Z λF f=>(AC (AE (AB Z Z ?_)));skip;refine AD (AC (AC (AE (cl Z Z (Ey 3 Z (λa=>?_) ?_)))))
 .refine J (Do F0 Z Z) (AD (Dt Z (Z) (AC (AE (AB Z Z (Ve 2 20 OB Z Z Z Z (AD (A6 ?_))))))));exact ⟨_,[20],_,A4 Z,Z,Z,by rw [List.map_eq_nil_iff.1 a];rfl,by rw [List.map_eq_nil_iff.1 a];rfl⟩
 .refine J (Do F0 Z Z) ?_;refine AD (EV Z (Z) (AZ (AC (AE (V (EH 20 OB Z Z Z Z Z Z Z Z) (cl Z Z (V (Fu (([]:List AG)) (l) Z Z Z Z Z Z (λ_=>rfl) OB (by simp only [List.length_nil];omega) Z Z Z Z) (AB Z Z ?_))))))));skip;refine AD (A6 ?_);exact ⟨_,[20],_,A4 Z,Z,Z,by simp,Z⟩
theorem me (a:(dX c).Nodup) (b:k<c.ro.length):BA (BB ((dX c).take k)) c.ro[k].r true=BB ((dX c).take (k+1)):=by grind [dX,cb,Li,φ]
theorem P0 (p:dG) (hE:Ai p=0) (Y:E9 p) (g:FuncId) (o:List D) (N:MF) (I:Int ->Bool) (hq:∀id,AK prog g (.d (AF id)::dL o) [(41,[.multi N])] λr H'=>r= .d (Ac (I id))/\H'=[(41,[.multi N])]):
  AK prog 98 [.d (CM p),.d (.fn g [] o)] [(41,[.multi N])] λr H'=>∃E M,r= .d (.sl none (E.map C5))/\H'=[(41,[.multi N]),(40,[.multi M])]/\Uu (dX p) M E/\E.map Prod.fst=(dC p).filter λi=>I i.id:=by
 have hO:dC p=dA p.it:=ϖ hE;rw [hO]
 obtain ⟨c,s⟩:∃c,dA p.it=c:=⟨_,Z⟩
 have X:c.length=p.it.length:=by rw [<-s];exact kj p.it
 have K:∀i∈c,i∈p.it:=λi hi=>by rw [<-s] at hi;exact (KD p.it).mem_iff.1 hi
 have hi30:=Y.i;have S:=Y.r;have Q:(dX p).Nodup:=G3 hE;have R:(dX p).length=p.ro.length:=ψ _;have P:=Hb (JA hE).2.1;rw [s];refine Av func98 Z Z ntmps98 Z Z Z λF w=>(AC (AE ?_));refine V (CQ 1 Z Z Z Z Z Z Z) (AB Z Z (AD (AC (AE (V (Pd 50 Z Z Z Z) (AB Z Z (AD (AC ?_))))))));refine AC (AE (J (A1 Z Fj Z Z Z) (J (A5 Z Z Z Ro Z) (J (CV Z an Z) (cl Z Z (AD (A2 (Bb (α:=Nat) (λk=>⟨76,[(1,.d (.fn g [] o)),(2,(.ptr 1 0 0)),(5,(.map 50 0)),(19,(.d (.sl none (p.ro.map Cv)))),(20,(.d (AF (p.ro.length:Int)))),(21,(.d (AF (k:Int))))],[(1,[.blk 31 [.d (.sl none (p.ro.map Cv)),.d (.sl none (p.it.map Ap))]]),(50,[BD C4 Ac (BB ((dX p).take k))]),(41,[.multi N])]⟩) (λk=>k<=p.ro.length) (λk=>p.ro.length - k) (0) (ϱ _) (A0 w [1,50,41] Z Z ⟨Z,Z,Z,Z,Z,Z,trivial⟩) ?_))))))));rintro k hk;refine AC (AE (J (BW Z Z Z) (AD (AC (Ah Z (λH=>?_) (λH=>?_))))))
 .refine AZ (AC (A2 (AC ?_)));have l:k<p.ro.length:=Bi H;refine AE (J (Bq (k) Z Z (Z) (Aq l) an Z OA Z) ?_);refine J (IX Z Z ZR Z) (V (CE 2 Qv Z Z Z Z) (V (Bk Z Z Z Z Z Z Z OA) (AD (AE (cl Z Z (J (A1 Z FD Z Z Z) (J (B1 Z Z CL Z Z Z) (V (Tc (BB ((dX p).take k)) (p.ro[k].r) (true) Z Z Z Vk Bv Z Z) ?_))))))));rw [me Q l];refine AD (AE (J (Aw Z Z (AQ (k+1) (by omega)) Z) (cl Z Z (AD ?_))));exact ⟨k+1,l,by omega,A0 w [1,50,41] Z (Z) ⟨Z,Z,Z,Z,Z,Z,trivial⟩⟩
 .refine BL (AC ?_);have z:k=p.ro.length:=by have:=H;omega
  rw [z,<-R,eo];refine AE (AB Z Z (AD (AC (AE (J (A1 Z EM Z Z Z) (J (A5 Z Z Z K6 Z) (V (Eh (YB p.it (by omega)) Z [20] ⟨Z,trivial⟩ Z Z Z Z Z Z Z Z Z) (AB Z Z ?_))))))));refine AD (AC (AE (cl Z Z (V (La lj (k:=6) (by decide) isAgg49 sizeOf49 func148 Z Z SO Sh ba p.it c (by omega) (λx _ y _=>Ud x y) (λys g1 g2=>by rw [<-s];exact QF P g1 (g2.imp λ{a b} h h2=>h (Sg.2 h2))) Z Z Z Kq Z Z Z Z Z) (AD (AC (AC (L6 (emb:=Ap) 9 20 c Z Z Z X.symm Z Z Z ?_))))))));refine IS 40 Z Z Z (AE (cl Z Z (J (CV Z F0 Z) (cl Z Z (AD (A2 (O0 8 30 ZM Z Z Z Z (Bb (α:=Nat×List (AG×Nat)×MF) (λq=>⟨76,[(1,.d (.fn g [] o)),(2,(.ptr 1 0 0)),(5,(.map 50 0)),(8,(.own 30 0 q.2.1.length)),(34,(.d (.sl none (c.map Ap)))),(35,(.d (AF (c.length:Int)))),(36,(.d (AF (q.1:Int))))],[(50,[BD C4 Ac (BB (dX p))]),(41,[.multi N]),(30,[.rowD 190 7 (q.2.1.map C5)]),(40,[.multi q.2.2])]⟩) (λq=>q.1<=c.length/\Uu (dX p) q.2.2 q.2.1/\q.2.1.map Prod.fst=(c.take q.1).filter λi=>I i.id) (λq=>c.length - q.1) ((0,[],_)) (⟨ϱ _,(λe he=>by cases he),Z⟩) (A0 w [50,41,30,40] Z Z ⟨Z,Z,Z,Z,Z,Z,Z,trivial⟩) ?_))))))));rintro ⟨k,E,M⟩ ⟨hk,O,t⟩;dsimp only at hk O t⊢;refine AC (AE (J (BW Z Z Z) (AD (AC (Ah Z (λG=>?_) (λG=>?_))))))
  .refine AZ (AC (A2 (AC ?_)));have l:k<c.length:=Bi G;have U:=K _ (θ l);have T:=Y.x _ U;have hEl:E.length<=30:=by have h1:(E.map Prod.fst).length<=c.length:=(by rw [t];exact dh (fx _ _) (by rw [Θ];omega));rw [ψ] at h1;omega
   refine AE (J (Bq (k) Z Z (Z) (Aq l) F0 Z Cu Z) (J (IX Z Z Bs Z) (V (CE 2 Fc Z Z Z Z) (V (Bk Z Z Z Z Z Z Z Cu) (AD (AC ?_))))));refine AC (AE (cl Z Z (J (A1 Z Ny Z Z Z) (J (A5 Z Z Z BE Z) (V (Y0 (hq c[k].id) Z [41] ⟨Z,trivial⟩ Z Z Z Z Z Z Z Z Z) (J (CF Z Z) (AD (KH Z (λC=>?_) (λC=>?_)))))))))
   .have u:¬I c[k].id=true:=by simpa using C
    refine BL (AE (J (Aw Z Z (AQ (k+1) (by omega)) Z) (cl Z Z (AD ?_))));exact ⟨(k+1,E,M),⟨l,O,by show _=(c.take (k+1)).filter _;rw [φ l,fy,t,fY,η u];simp⟩,by show c.length - (k+1)<c.length - k;omega,A0 w [50,41,30,40] Z (Z) ⟨Z,Z,Z,Z,Z,Z,Z,trivial⟩⟩
   .have u:I c[k].id=true:=by simpa using C
    refine AZ (AC (AE (J (B1 Z Z Bs Z Z Z) (V (Pd 51 Z Z Z Z) (PB 46 51 40 w Z Z Z Z Z Z Z Z Z Z (λ_=>rfl) λL hb=>(Lg 40 L Z (GM _ _ _) Z ?_))))));rw [G7];refine J (FU MD qG Z Z Z) (V (CE 3 MD Z Z Z Z) (V (Bk Z Z Z Z Z Z Z Gu) (AD (AC ?_))));refine AE (J (B1 Z Z Bs Z Z Z) (J (B5 (So c[k] (by omega) (by omega) (by omega)) Z Z) (cl Z Z (J (Ds Z Z Z) (J (Ds Z Z Z) (AB Z Z (AB Z Z (AD ?_))))))));refine AC (AC (AE (cl Z Z (J (CV Z underlying44 Z) (cl Z Z (AD (A2 (Bb (α:=Nat) (λj=>⟨76,[(1,.d (.fn g [] o)),(2,(.ptr 1 0 0)),(5,(.map 50 0)),(8,(.own 30 0 E.length)),(12,(.ptr 3 0 0)),(34,(.d (.sl none (c.map Ap)))),(35,(.d (AF (c.length:Int)))),(36,(.d (AF (k:Int)))),(53,(.d (.sl none ((ct c[k]).map OR)))),(54,(.d (AF ((ct c[k]).length:Int)))),(55,(.d (AF (j:Int))))],[(3,[.blk 190 [.d (AF c[k].id),.d (AF c[k].pr),.d (AF c[k].sq),.d (.sl none (c[k].po.map Ck)),.d (.sl none (c[k].pa.map I0)),.d (.sl none (c[k].af.map AF)),.d (mD L)]]),(50,[BD C4 Ac (BB (dX p))]),(41,[.multi N]),(30,[.rowD 190 7 (E.map C5)]),(40,[.multi (BM M L (.map none (L5 (dK (dX p) c[k] j))))])]⟩) (λj=>j<=(ct c[k]).length) (λj=>(ct c[k]).length - j) (0) (ϱ _) (A0 w [3,50,41,30,40] Z Z ⟨Z,Z,Z,Z,Z,Z,Z,Z,Z,Z,Z,trivial⟩) ?_))))))));rintro j hj;refine AC (AE (J (BW Z Z Z) (AD (AC (Ah Z (λB=>?_) (λB=>?_))))))
    .refine AZ (AC (A2 (AC ?_)));have hdl:=Lt (x:=c[k]) T;have v:j<(ct c[k]).length:=Bi B;refine AE (J (Bq (j) Z Z (Z) (Aq v) underlying44 Z iS Z) (J (IX Z Z p9 Z) (V (CE 4 mI Z Z Z Z) (V (Bk Z Z Z Z Z Z Z iS) ?_))));refine AD (AC (AE (cl Z Z (J (A1 Z NK Z Z Z) (J (B1 Z Z CL Z Z Z) (J (HO (BB (dX p)) ((ct c[k])[j]).1 false _ Z Z Z Vk Bv T5 (W4 _ _) Z) (AD (Ah Z (λA=>?_) (λA=>?_)))))))))
     .refine AE (J (A1 Z Lo Z Z Z) (J (A5 Z Z Z jH Z) (J (A1 Z NK Z Z Z) (J (B1 Z Z CL Z Z Z) (J (A1 Z bU Z Z Z) (J (A5 Z Z Z L3 Z) (V (RU (f:=40) (dK (dX p) c[k] j) ((ct c[k])[j]).1 ((ct c[k])[j]).2 Z Z (GM _ _ _) Z D8 Bv Z Z) ?_)))))));rw [G7,oF v A];refine AD (AE (J (Aw Z Z (AQ (j+1) (by omega)) Z) (cl Z Z (AD ?_))));exact ⟨j+1,v,by omega,A0 w [3,50,41,30,40] Z (Z) ⟨Z,Z,Z,Z,Z,Z,Z,Z,Z,Z,Z,trivial⟩⟩
     .refine AZ (AE (J (Aw Z Z (AQ (j+1) (by omega)) Z) (cl Z Z (AD ?_))));exact ⟨j+1,v,by omega,A0 w [3,50,41,30,40] Z (by simp only [jz v A];rfl) ⟨Z,Z,Z,Z,Z,Z,Z,Z,Z,Z,Z,trivial⟩⟩
    .refine BL ?_;have W:j=(ct c[k]).length:=by have:=B;omega
     rw [W,oG];refine AE (cl Z Z ?_);refine J (B1 Z Z LC Z Z Z) (V (EH 31 ZM Z Z Z Z Z Z Z Z) (V (Ic (E) ([(c[k],L)]) Z Z Z Z Z Z Z Z ZM (by simp only [Φ];omega) Z Z Z Z) (AB Z Z (AD (AE (J (Aw Z Z (AQ (k+1) (by omega)) Z) (cl Z Z (AD ?_))))))));exact ⟨(k+1,E++ [(c[k],L)],_),⟨l,O.add hb,by show _=(c.take (k+1)).filter _;rw [φ l,fy,du,t,fY,ϖ u];rfl⟩,by show c.length - (k+1)<c.length - k;omega,A0 w [50,41,30,40] Z (Z) ⟨Z,Z,Z,Z,Z,Z,Z,trivial⟩⟩
  .refine BL (AC ?_);have z:k=c.length:=by have:=G;omega
   rw [z,eo] at t;refine L6 (emb:=C5) 8 30 E Z Z Z Z Z Z Z (AE (cl Z Z (AB Z Z (AD (A6 ?_)))));exact ⟨_,[41,40],_,A4 Z,Z,Z,E,M,Z,Z,O,t⟩
abbrev AL (n:Nat):D:=AF (n:Int)
abbrev dI (l:List Nat):D:= .sl none (l.map AL)
theorem NE (h:k<f.length):(f.map AL)[k]? =some (AL (cz f k)):=by rw [Aq h,O1 h]
theorem eqv {a b:D} (h:a=b):AV.d a=AV.d b:=by rw [h]
theorem rY {j:List Nat} {a:Nat} (g:a<f.length) (c:s<f.length):((f++j).set a (cz f s)).set s (cz f a)=Kz f a s++j:=by
 rw [List.set_append_left _ _ g,List.set_append_left _ _ (by simpa using c)];rfl
theorem lJ (l j:List Nat):((l++j).map AL).take l.length++ [AL B].take 1=(l++ [B]).map AL:=by
 rw [<-List.map_take,List.take_left];simp
theorem rx {j:List Nat} (h:0<f.length):f.take (f.length - 1)++([cz f (f.length - 1)]++j)=f++j:=by grind [List.take_append_drop,lC,O1]
theorem ru (j:Nat):Int.tdiv ((j:Int) - 1) 2=(((j - 1) / 2:Nat):Int):=by grind
theorem AK.top {P:Program} {f:FuncId} {a:List AV} {k j:Hp} (h:AK P f a k λr c=>(∃b:Bool,r= .d (Ac b))/\c=j):AK P f a k λr c=>r= .top/\c=j:=
 ⟨h.1,λF l o y x i w u t=>(h.2 F l o y x i w u t).mono λe B ⟨v,r,c,g,A,⟨_,z⟩,_,s⟩=>⟨v,.top,c,g,A,⟨Z,z⟩,.top,s⟩⟩
theorem sM {p q:Prop} [Decidable p] [Decidable q] (h:p↔q):AV.d (Ac (decide p))=AV.d (Ac (decide q)):=by rw [decide_eq_decide.2 h]
theorem py:E2 prog 3=true:=by kernel_rfl
theorem Zf:E2 prog 324=true:=by kernel_rfl
theorem qX:JC prog 324 "Len" 222:=λb w=>by kernel_rfl
theorem ae:JC prog 324 "Less" 268:=λb w=>by kernel_rfl
theorem ac:JC prog 324 "Swap" 271:=λb w=>by kernel_rfl
theorem qW:JC prog 324 "Push" 270:=λb w=>by kernel_rfl
theorem sB:JC prog 324 "Pop" 269:=λb w=>by kernel_rfl
abbrev LM (g:List (List Nat)):D:= .sl none (g.map dI)
structure GB (g:List (List Nat)):Prop where
 n:g.length<=65536
 e:∀l∈g,l.length<=1048576
 lt:∀l∈g,∀x∈l,x<g.length
theorem Eo (h:j<g.length):cx g j=g[j]:=by simp [cx,h]
theorem Xr (h:j<g.length):(g.map dI)[j]? =some (dI (cx g j)):=by rw [Aq h,Eo h]
theorem GB.len (h:GB g) {i:Nat} (a:i<g.length):(cx g i).length<=1048576:=by rw [Eo a];exact h.e _ (θ a)
theorem GB.suc (h:GB g) (b:j<g.length) (a:B∈cx g j):B<g.length:=by rw [Eo b] at a;exact h.lt _ (θ b) B a
def Qa (g:List (List Nat)) (i j:Nat):Nat:=((List.range i).map λa=>(cx g a).count j).sum
theorem P4 (g:List (List Nat)) (i j:Nat):Qa g (i+1) j=Qa g i j+(cx g i).count j:=by
 unfold Qa;rw [ea,du,gV];simp
theorem WN {g:List (List Nat)} (h:GB g) (j:Nat):∀i,i<=g.length ->Qa g i j<=i*1048576
 | 0,_=>by simp [Qa]
 | i+1,b=>by
  have:=WN h j i (by omega);have:=List.count_le_length (a:=j) (l:=cx g i);have:=h.len (i:=i) (by omega);rw [P4];omega
theorem cC (g:List (List Nat)) (j:Nat):Qa g g.length j=Kt g [] j:=by
 unfold Qa Kt
 congr 1
theorem Tm (h:k<f.length) (j:Nat):(f.take (k+1)).count j=(f.take k).count j+if cz f k=j then 1 else 0:=by grind [φ,O1]
theorem bk (h:k<f.length):f.drop k=cz f k::f.drop (k+1):=by rw [O1 h];exact lC h
theorem pq (n:Nat):List.replicate n (D.raw (.int .i64 0))=(List.replicate n 0).map AL:=by rw [List.map_replicate];rfl
theorem jP (n k:Nat):cz (List.replicate n 0) k=0:=by
 unfold cz;rw [Δ,List.getElem?_replicate];split<;>rfl
theorem np {v:Nat} (h:G<w.length):((w.set G v).map AL)[G]? =some (AL v):=by grind
theorem jy (h:GB g) (done:List Nat) (j:Nat):Kt g done j<=g.length*1048576:=by
 have b:∀n,n<=g.length ->((List.range n).map λi=>if i∈done then 0 else (cx g i).count j).sum<=n*1048576:=by
  intro n
  induction n with
  | zero=>intro _;exact ϱ _
  | succ n c=>
   intro s;have r:=c (by omega);have o:=List.count_le_length (a:=j) (l:=cx g n);have k:=h.len (i:=n) (by omega)
   have f:(if n∈done then 0 else (cx g n).count j)<=1048576:=by
    by_cases e:n∈done
    .rw [ϖ e];exact ϱ _
    .rw [η e];exact dh o k
   rw [ea,du,gV,List.map_singleton,List.sum_singleton,Nat.succ_mul];exact Nat.add_le_add r f
 exact b _ (κ _)
theorem mw {q b:List Nat} (c:GB g) (h:OI g K w q x (G::b)) (f:G<g.length) (j:b.length<=1048576):cz w G<=69000000000:=by
 have o:=jy c x G;have k:=c.n;have i:=List.count_le_length (a:=G) (l:=G::b);rw [h.deg G f];rw [gm] at i;omega
theorem mx {q:List Nat} (h:OI g K w q x ((cx g B).drop k)) (e:k=(cx g B).length):OI g K w q x []:=by
 rw [e,List.drop_length] at h;exact h
noncomputable def eX (g:List (List Nat)) (K:Nat ->Nat):List Nat:=Classical.epsilon λout=>Pi g K out/\∀y,¬C6 g out y
theorem jE (i:∀a b,a<g.length ->b<g.length ->K a=K b ->a=b) (f:Pi g K x) (c:∀y,¬C6 g x y):eX g K=x:=by
 have h:Pi g K (eX g K)/\∀y,¬C6 g (eX g K) y:=Classical.epsilon_spec (p:=λx=>Pi g K x/\∀y,¬C6 g x y) ⟨x,f,c⟩;exact bP i h.1 f h.2 c
structure FI (K:Nat ->Nat) (w:List Nat) (i:Nat) (l:List Nat):Prop where
 nd:l.Nodup
 mem:∀x,x∈l↔x<i/\cz w x=0
 hp:Ht K l
theorem FI.le (h:FI K w j f):f.length<=j:=by
 have:=DM h.nd (m:=List.range j) λx a=>Γ.2 ((h.mem x).1 a).1
 grind
theorem jh (K:Nat ->Nat) (w:List Nat):FI K w 0 []:=⟨.nil,λx=>by simp,λi b a=>by simp at a⟩
theorem jj (h:FI K w j f) (c:cz w j=0):FI K w (j+1) (LL K f j):=by
 have a:=My K f j;refine ⟨a.nodup_iff.2 (gj.2 ⟨λb=>gc _ ((h.mem j).1 b).1,h.nd⟩),λx=>?_,Mz h.hp j⟩;rw [a.mem_iff,di,h.mem]
 grind
theorem ji (h:FI K w j f) (a:cz w j≠0):FI K w (j+1) f:=by
 refine ⟨h.nd,λx=>?_,h.hp⟩;rw [h.mem]
 grind
structure CW (g:List (List Nat)) (i k:Nat) (w:List Nat):Prop where
 len:w.length=g.length
 val:∀j,j<g.length ->cz w j=Qa g i j+((cx g i).take k).count j
theorem kA (g:List (List Nat)):CW g 0 0 (List.replicate g.length 0):=⟨by simp,λj _=>by rw [jP];simp [Qa]⟩
theorem kB (f:GB g) (h:CW g j k w) (t:j<g.length) (r:k<(cx g j).length):
  cz (cx g j) k<w.length/\cz w (cz (cx g j) k)<=100000000000/\CW g j (k+1) (w.set (cz (cx g j) k) (cz w (cz (cx g j) k)+1)):=by
 have o:cz (cx g j) k<g.length:=f.suc t (DK r);have c:cz (cx g j) k<w.length:=by rw [h.len];exact o
 refine ⟨c,?_,⟨by simpa using h.len,λb s=>?_⟩⟩
 .rw [h.val _ o];have:=WN f (cz (cx g j) k) j (by omega);have:=List.count_le_length (a:=cz (cx g j) k) (l:=(cx g j).take k);rw [Θ] at this;have:=f.len t;have:=f.n;omega
 .rw [JW c,Tm r]
  by_cases e:cz (cx g j) k=b
  .rw [ϖ e.symm,ϖ e,e,h.val b s];omega
  .rw [η λu=>e u.symm,η e,h.val b s];omega
theorem oH (h:CW g j (cx g j).length w):CW g (j+1) 0 w:=⟨h.len,λa b=>by rw [h.val a b,eo,P4];simp⟩
theorem oI (h:CW g g.length 0 w):w.length=g.length/\∀j,j<g.length ->cz w j=Kt g [] j:=
 ⟨h.len,λj a=>by rw [h.val j a,cC];simp⟩
def YS (rs:List AO) (a b:AG):Prop:=(∃d∈dR rs a,d.2<0/\0<AY (dR rs b) d.1 0)\/b.id∈a.af
noncomputable instance (rs:List AO) (a b:AG):Decidable (YS rs a b):=Classical.propDecidable _
theorem IB {b a:List u} {x:List u} {y:u} {c:List u} (h:(b++x).Perm c) (f:x.Perm (y::a)):((b++ [y])++a).Perm c:=by
 refine List.Perm.trans ?_ h;rw [gn];exact (List.Perm.append_left b f).symm
theorem al {m:List (u×H)} {x:u×H} (h:m[t]? =some x):x∈m:=ϑ h
theorem iG (a b:AG×Nat) (H:M a.2=some (.map none (L5 (dR h a.1)))) (w:M b.2=some (.map none (L5 (dR h b.1)))) (Q:a.1.af.length<=100000):
  AK prog 153 [.d (C5 a),.d (C5 b)] [(40,[.multi M])] λr H'=>r= .d (Ac (decide (YS h a.1 b.1)))/\H'=[(40,[.multi M])]:=by
 obtain ⟨a,o⟩:=a;obtain ⟨b,O⟩:=b;dsimp only at H w Q⊢
 obtain ⟨L,S⟩:∃L,dR h a=L:=⟨_,Z⟩
 have I:YS h a b↔((∃d∈L,d.2<0/\0<AY (dR h b) d.1 0)\/b.id∈a.af):=by rw [<-S];exact Iff.rfl
 rw [S] at H;refine Av func153 Z Z ntmps153 Z Z Z λF R=>(AC (Pb 40 o Z H (λ_ _=>rfl) λB c X W=>?_))
 obtain ⟨C,s⟩:∃C,BM M o (.map (some (B,c)) (L5 L))=C:=⟨_,Z⟩
 rw [s];have j:C o=some (.map (some (B,c)) (L5 L)):=by rw [<-s,GM]
 have z:∃bs,C O=some (.map bs (L5 (dR h b))):=by
  by_cases e:O=o
  .subst e;rw [H] at w;injection w with w;injection w with _ w;exact ⟨_,by rw [j,w]⟩
  .exact ⟨none,by rw [<-s,Gz e];exact w⟩
 obtain ⟨Y,z⟩:=z;have k:BM C o (.map none (L5 L))=M:=by rw [<-s,G7];exact PJ H
 refine AE (V (CQ 20 Z Z Z Z Z Z Z) (V (CQ 21 Z Z Z Z Z Z Z) (AB Z Z (AD ?_))));refine AC (AC (AE (J (A1 Z Lo Z Z Z) (J (A5 Z Z Z jH Z) (V (Oc 22 (f:=40) Z Z (j) Z D8 Z Z Z Z) (AD (A2 (Bb (α:=List Nat×List (AO×Int)) (λq=>⟨31,[(2,(.ptr 20 0 0)),(3,(.ptr 21 0 0)),(9,(.ptr 22 0 0))],[(20,[.blk 190 [.d (AF a.id),.d (AF a.pr),.d (AF a.sq),.d (.sl none (a.po.map Ck)),.d (.sl none (a.pa.map I0)),.d (.sl none (a.af.map AF)),.d (mD o)]]),(21,[.blk 190 [.d (AF b.id),.d (AF b.pr),.d (AF b.sq),.d (.sl none (b.po.map Ck)),.d (.sl none (b.pa.map I0)),.d (.sl none (b.af.map AF)),.d (mD O)]]),(22,[.iter 40 o c q.1]),(40,[.multi C])]⟩) (λq=>(q.2++Bh L B q.1).Perm L/\∀d∈q.2,¬(d.2<0/\0<AY (dR h b) d.1 0)) (λq=>(Bh L B q.1).length) (([],[])) (⟨by show ([]++Bh L B []).Perm L;rw [Co (by simpa [BK] using X)];exact List.Perm.refl _,(λd y=>by cases y)⟩) (A0 R [20,21,22,40] Z Z ⟨Z,Z,Z,trivial⟩) ?_))))))));rintro ⟨seen,A⟩ ⟨K,N⟩;dsimp only at K N⊢;refine AC (AE (Vc (L) Z Z Z (j) Z (λE=>?_) (λP l x D v G T i=>⟨_,Z,?_⟩)))
 .rw [E] at K;refine Lg 40 o Z j Z ?_;rw [k];refine J (C8 Z Z Z) (AD (AC (EV Z Z (BL (AC (AE (J (A1 Z IM Z Z Z) ?_)))))));refine J (A1 Z FE Z Z Z) (J (A5 Z Z Z BI Z) (J (A1 Z IM Z Z Z) (J (A1 Z Ny Z Z Z) (J (A5 Z Z Z BE Z) (J (B5 (NZ a.af b.id (by omega)) Z Z) (AB Z Z (AD (A6 ?_))))))));exact ⟨_,[40],_,A4 Z,Z,Z,by rw [decide_eq_decide.2 (I.trans ⟨λg=>g.resolve_left λ⟨d,y,U⟩=>N d ((show A.Perm L by simpa using K).mem_iff.2 y) U,.inr⟩)],Z⟩
 .refine J (C8 Z Z Z) (AD (AC ?_));refine Dt Z Z (AZ (A2 (AC (AE (J (Og (L) P l Z Z Z (j) v G Z) (J (C8 Z Z Z) (J (C8 Z Z Z) (V (CE 23 LY Z Z Z Z) ?_))))))));refine V (Bk Z Z Z Z Z Z Z iT) (AB Z Z (AD (AC (AE (cl Z Z (J (BW Z Z Z) (cl Z Z (Id 17 Z (λu=>?_) (λu=>?_)))))))))
  .refine Aa Z Z Z (J (A1 Z Lo Z Z Z) (Aa Z Z Z (J (A5 Z Z Z jH Z) ?_)));refine Aa Z Z Z (J (B1 Z Z CL Z Z Z) (Aa Z Z Z (J (RX (f:=40) (dR h b) x 0 _ Z Z z Z D8 Bv Nu Z Z) (Aa Z Z Z (J (Pf Z Z Z) (J (FL Z Z Z Z) (AD (Ah Z (λt=>?_) (λt=>?_)))))))))
   .refine AC (ki 40 o Z j Z ?_);rw [k];refine AE (AB Z Z (AD (A6 ?_)));exact ⟨_,[40],_,A4 Z,Z,Z,by rw [dm (I.2 (.inl ⟨_,al v,u,t⟩))],Z⟩
   .refine AZ ?_;exact ⟨(seen++ [l],A++ [(x,D)]),⟨IB K i,λd y=>(ν.1 y).elim (N d) λe=>by rw [ξ.1 e];first | exact λg=>u g.1 | exact λg=>t g.2⟩,by show (Bh L B (seen++ [l])).length<(Bh L B seen).length;rw [i.length_eq];exact gA _,A0 R [20,21,22,40] Z (Z) ⟨Z,Z,Z,trivial⟩⟩
  .refine A8 Z Z Z Z (A8 Z Z Z Z (A8 Z Z Z Z (A8 Z Z Z Z (A8 Z Z Z Z (J (DT Z Z Z Z) (AD (EV Z Z (AZ ?_))))))));exact ⟨(seen++ [l],A++ [(x,D)]),⟨IB K i,λd y=>(ν.1 y).elim (N d) λe=>by rw [ξ.1 e];first | exact λg=>u g.1 | exact λg=>t g.2⟩,by show (Bh L B (seen++ [l])).length<(Bh L B seen).length;rw [i.length_eq];exact gA _,A0 R [20,21,22,40] Z (Z) ⟨Z,Z,Z,trivial⟩⟩
def Cx (E:List (AG×Nat)) (k:Nat):AG:=(E.getD k (cv,0)).1
noncomputable def fe (rs:List AO) (E:List (AG×Nat)) (a:AG) (k:Nat):List Nat:=(List.range k).filter λj=>decide (YS rs a (Cx E j))
noncomputable def fF (rs:List AO) (E:List (AG×Nat)):List (List Nat):=E.map λe=>fe rs E e.1 E.length
theorem iI (b:YS h A (Cx E k)):fe h E A (k+1)=fe h E A k++ [k]:=by
 unfold fe;rw [ea,fy];simp [b]
theorem Yf (b:¬YS h A (Cx E k)):fe h E A (k+1)=fe h E A k:=by
 unfold fe;rw [ea,fy];simp [b]
theorem Uz (b:List AO) (E:List (AG×Nat)) (a:AG) (k:Nat):(fe b E a k).length<=k:=by grind [fe]
theorem DP (a:k<E.length):Cx E k=(E[k]).1:=by unfold Cx;rw [Δ,ω a];rfl
theorem F7 (a:List AO) (E:List (AG×Nat)):(fF a E).length=E.length:=ψ _
theorem jf (E:List (AG×Nat)) (x:Uu h M E) (C:E.length<=1000) (w:∀e∈E,e.1.af.length<=100000):
  AK prog 103 [.d (.sl none (E.map C5))] [(40,[.multi M])] λr D=>r= .d (LM (fF h E))/\D=[(40,[.multi M])]:=by
 refine Av func103 Z Z ntmps103 Z Z Z λF o=>?_;refine AC (AE (AB Z Z (AD (AC (AE (AB Z Z (AD (AC ?_))))))));refine AC (AE (cl Z Z (J (CV Z T1 Z) (cl Z Z (AD (A2 (O0 3 10 VS Z Z Z Z (Bb (α:=Nat×List (List Nat)) (λq=>⟨36,[(0,.d (.sl none (E.map C5))),(3,(.own 10 0 q.2.length)),(9,(.d (.sl none (E.map C5)))),(10,(.d (AF (E.length:Int)))),(11,(.d (AF (q.1:Int))))],[(10,[.rowD 33 1 (q.2.map dI)]),(40,[.multi M])]⟩) (λq=>q.1<=E.length/\q.2=(fF h E).take q.1) (λq=>E.length - q.1) ((0,[])) (⟨ϱ _,Z⟩) (A0 o [10,40] Z Z ⟨Z,Z,Z,Z,Z,trivial⟩) ?_))))))));rintro ⟨i,G⟩ ⟨z,s⟩;dsimp only at z s⊢;refine AC (AE (J (BW Z Z Z) (AD (AC (Ah Z (λg=>?_) (λg=>?_))))))
 .refine AZ (AC (A2 (AC ?_)));have b:i<E.length:=Bi g;have B:G.length<=1000:=by rw [s,Θ];omega
  have l:=θ b;refine AE (J (Bq (i) Z Z (Z) (Aq b) T1 Z Gu Z) ?_);refine J (IX Z Z LC Z) (V (CE 21 MD Z Z Z Z) (V (Bk Z Z Z Z Z Z Z Gu) (AD (AC (AE (AB Z Z (AD (AC ?_))))))));refine AC (AE (cl Z Z (J (CV Z T1 Z) (cl Z Z (AD (A2 (O0 6 11 BX Z Z Z Z (Bb (α:=Nat×List Nat) (λq=>⟨36,[(0,.d (.sl none (E.map C5))),(3,(.own 10 0 G.length)),(5,(.ptr 21 0 0)),(6,(.own 11 0 q.2.length)),(9,(.d (.sl none (E.map C5)))),(10,(.d (AF (E.length:Int)))),(11,(.d (AF (i:Int)))),(15,(.d (.sl none (E.map C5)))),(16,(.d (AF (E.length:Int)))),(17,(.d (AF (q.1:Int))))],[(21,[.blk 190 [.d (AF (E[i]).1.id),.d (AF (E[i]).1.pr),.d (AF (E[i]).1.sq),.d (.sl none ((E[i]).1.po.map Ck)),.d (.sl none ((E[i]).1.pa.map I0)),.d (.sl none ((E[i]).1.af.map AF)),.d (mD (E[i]).2)]]),(11,[.rowD 3 1 (q.2.map AL)]),(10,[.rowD 33 1 (G.map dI)]),(40,[.multi M])]⟩) (λq=>q.1<=E.length/\q.2=fe h E (E[i]).1 q.1) (λq=>E.length - q.1) ((0,[])) (⟨ϱ _,Z⟩) (A0 o [21,11,10,40] Z Z ⟨Z,Z,Z,Z,Z,Z,Z,Z,Z,Z,trivial⟩) ?_))))))));rintro ⟨k,T⟩ ⟨y,j⟩;dsimp only at y j⊢;refine AC (AE (J (BW Z Z Z) (AD (AC (Ah Z (λf=>?_) (λf=>?_))))))
  .refine AZ (AC (A2 (AC ?_)));have a:k<E.length:=Bi f;have A:T.length<=1000:=by have:=Uz h E (E[i]).1 k;rw [<-j] at this;omega
   have v:=θ a;refine AE (cl Z Z (J (Bq (k) Z Z (Z) (Aq a) T1 Z Gu Z) (J (IX Z Z LC Z) (V (CE 22 MD Z Z Z Z) (AB Z Z ?_)))));refine V (Bk Z Z Z Z Z Z Z Gu) (AD (AC (AE (J (B1 Z Z LC Z Z Z) (J (B1 Z Z LC Z Z Z) (V (Eh (iG E[i] E[k] (x _ l) (x _ v) (w _ l)) Z [40] ⟨Z,trivial⟩ Z Z Z Z Z Z Z Z Z) (AD (Ah Z (λc=>?_) (λc=>?_)))))))))
   .refine AE (cl Z Z ?_);refine cl Z Z (V (EH 30 BX Z Z Z Z Z Z Z Z) (V (Ic (T) ([k]) Z Z Z Z Z Z Z Z BX (by simp only [Φ];omega) Z Z Z Z) (AB Z Z (AD (AE (J (Aw Z Z (AQ (k+1) (by omega)) Z) (cl Z Z (AD ?_))))))));exact ⟨(k+1,T++ [k]),⟨a,by show _=fe h E _ (k+1);rw [iI (by rw [DP a];exact c),j]⟩,by show E.length - (k+1)<E.length - k;omega,A0 o [21,11,10,40] Z (Z) ⟨Z,Z,Z,Z,Z,Z,Z,Z,Z,Z,trivial⟩⟩
   .refine AZ (AE (J (Aw Z Z (AQ (k+1) (by omega)) Z) (cl Z Z (AD ?_))));exact ⟨(k+1,T),⟨a,by show _=fe h E _ (k+1);rw [Yf (by rw [DP a];exact c),j]⟩,by show E.length - (k+1)<E.length - k;omega,A0 o [21,11,10,40] Z (Z) ⟨Z,Z,Z,Z,Z,Z,Z,Z,Z,Z,trivial⟩⟩
  .refine BL ?_;have t:k=E.length:=by have:=f;omega
   rw [t] at j;refine L6 (emb:=AL) 6 11 T Z Z Z Z Z Z Z ?_;rw [j];refine AE (cl Z Z ?_);refine cl Z Z (V (EH 31 VS Z Z Z Z Z Z Z Z) (V (Ic (G) ([fe h E (E[i]).1 E.length]) Z Z Z Z Z Z Z Z VS (by simp only [Φ];omega) Z Z Z Z) (AB Z Z (AD (AE (J (Aw Z Z (AQ (i+1) (by omega)) Z) (cl Z Z (AD ?_))))))));exact ⟨(i+1,G++ [fe h E (E[i]).1 E.length]),⟨b,by show _=(fF h E).take (i+1);rw [s,φ (by rw [F7];exact b)];congr 1;simp [fF]⟩,by show E.length - (i+1)<E.length - i;omega,A0 o [10,40] Z (Z) ⟨Z,Z,Z,Z,Z,trivial⟩⟩
 .refine BL (AC ?_);have u:i=E.length:=by have:=g;omega
  refine L6 (emb:=dI) 3 10 G Z Z Z Z Z Z Z ?_;rw [s,u,ς (by rw [F7];exact κ _)];refine AE (cl Z Z (AB Z Z (AD (A6 ?_))));exact ⟨_,[40],_,A4 Z,Z,Z,Z,Z⟩
def EF (E:List (AG×Nat)) (l:List Nat):List Int:=l.map λk=>(Cx E k).id
theorem qf (E:List (AG×Nat)) (l:List Nat) (r:∀k∈l,k<E.length) (o:l.length<=1000000):AM prog 108 [.d (.sl none (E.map C5)),.d (dI l)] (.sl none ((EF E l).map AF)):=by
 refine Av func108 Z Z ntmps108 Z Z Z λF j=>?_;refine AC (AE (AB Z Z (AD (AC (AE (AB Z Z (AD (AC ?_))))))));refine AC (AE (cl Z Z (J (JB Z (ψ ..) E0 Z) (cl Z Z (AD (A2 (O0 5 10 BX Z Z Z Z (Bb (α:=Nat×List Int) (λq=>⟨25,[(0,.d (.sl none (E.map C5))),(5,(.own 10 0 q.2.length)),(8,(.d (dI l))),(9,(.d (AF (l.length:Int)))),(10,(.d (AF (q.1:Int))))],[(10,[.rowD 3 1 (q.2.map AF)])]⟩) (λq=>q.1<=l.length/\q.2=EF E (l.take q.1)) (λq=>l.length - q.1) ((0,[])) (⟨ϱ _,Z⟩) (A0 j [10] Z Z ⟨Z,Z,Z,Z,Z,trivial⟩) ?_))))))));rintro ⟨k,T⟩ ⟨s,f⟩;dsimp only at s f⊢;refine AC (AE (J (BW Z Z Z) (AD (AC (Ah Z (λb=>?_) (λb=>?_))))))
 .refine AZ (AC (A2 (AC ?_)));have a:k<l.length:=Bi b;have t:T.length<=1000000:=by rw [f];unfold EF;rw [ψ,Θ];omega
  have c:l[k]<E.length:=r _ (θ a);have h:(l.map AL)[k]? =some (AL l[k]):=Aq a;have i:(E.map C5)[l[k]]? =some (C5 E[l[k]]):=Aq c;refine AE (J (Bq (k) Z Z (Z) (h) E0 Z B4 Z) (J (EJ Z Z BE Z) (AB Z Z ?_)));refine AD (AE (cl Z Z (cl Z Z (cl Z Z (J (Bq (l[k]) Z Z (Z) (i) T1 Z Gu Z) (J (GV Z IM Z Z Z) (J (GW Z Ny Z Z Z) (J (EJ Z Z BE Z) ?_))))))));rw [show ((E[l[k]]).1.id:Int)=(Cx E l[k]).id by rw [DP c]];refine V (EH 30 BX Z Z Z Z Z Z Z Z) (V (Ic (T) ([(Cx E l[k]).id]) Z Z Z Z Z Z Z Z BX (by simp only [Φ];omega) Z Z Z Z) (AB Z Z (AD (AE (J (Aw Z Z (AQ (k+1) (by omega)) Z) (cl Z Z (AD ?_)))))));exact ⟨(k+1,T++ [(Cx E l[k]).id]),⟨a,by show _=EF E (l.take (k+1));rw [f];unfold EF;rw [φ a,du];rfl⟩,by show l.length - (k+1)<l.length - k;omega,A0 j [10] Z (Z) ⟨Z,Z,Z,Z,Z,trivial⟩⟩
 .refine BL (AC ?_);have g:k=l.length:=by have:=b;omega
  rw [g,eo] at f;refine L6 (emb:=AF) 5 10 T Z Z Z Z Z Z Z ?_;rw [f];refine AE (cl Z Z (AB Z Z (AD (A6 ?_))));exact ⟨_,[],[],A4 Z,Z,Z,Z,Z⟩
end Go.Proofs.YtnkkaeblokdifaaGreat
namespace Go.Proofs.YtnkkaeblokdifaaGreat
variable {E:List (AG×Nat)} {f:Nat ->Nat} {U:List (AO×Nat)} {a:List AO} {C:Nat ->Nat ->Prop} {P c:Nat ->AO ->Prop} {g:Prop} {k h j:Nat} {i:AO} {o s t:Nat}
noncomputable def dec (p:Prop):Bool:= @decide p (Classical.propDecidable p)
theorem Gp:dec g=true↔g:= @decide_eq_true_iff g (Classical.propDecidable g)
theorem bu (h:g):dec g=true:=Gp.2 h
theorem qs (h:¬g):dec g=false:=by grind [dec]
theorem bw {q:Prop} [Decidable g] (h:g↔q):decide g=dec q:=by grind [bu,qs]
def Nt (rs:List AO) (a b:AG):Prop:=b.id∈a.af\/a.id∈b.af\/∃r,r∈(dR rs a).map Prod.fst/\r∈(dR rs b).map Prod.fst
noncomputable instance (rs:List AO) (a b:AG):Decidable (Nt rs a b):=Classical.propDecidable _
theorem Nt.symm {c b:AG} (h:Nt a c b):Nt a b c:=by grind [Nt]
noncomputable def nG (rs:List AO) (E:List (AG×Nat)) (i:Nat):List Nat:=(List.range E.length).filter λj=>decide (i<E.length/\Nt rs (Cx E i) (Cx E j))
theorem Dp:j∈nG a E t↔t<E.length/\j<E.length/\Nt a (Cx E t) (Cx E j):=by grind [nG]
def Cn (rs:List AO) (E:List (AG×Nat)):Nat ->Nat ->Prop:=Rh (nG rs E)
theorem Rh.sym {c:Nat ->List Nat} (g:∀i j,j∈c i ->i∈c j) (h:Rh c s o):Rh c o s:=by
 induction h with
 | refl=>exact .refl _
 | step _ e f=>exact (Rh.one (g _ _ e)).trans f
theorem Cn.symm (h:Cn a E t j):Cn a E j t:=
 Rh.sym (λt j h=>Dp.2 ⟨(Dp.1 h).2.1,(Dp.1 h).1,(Dp.1 h).2.2.symm⟩) h
def DY (f:Nat ->Nat) (a b:Nat):Nat ->Nat:=λk=>if f k=max (f a) (f b) then min (f a) (f b) else f k
theorem Gb (h:f t=f j):DY f s o t=DY f s o j:=by unfold DY;rw [h]
theorem PO:DY f s o s=DY f s o o:=by grind [DY]
structure UF (n:Nat) (C:Nat ->Nat ->Prop) (f:Nat ->Nat):Prop where
 le:∀k,k<n ->f k<=k
 ff:∀k,k<n ->f (f k)=f k
 snd:∀i j,i<n ->j<n ->f i=f j ->C i j
theorem UF.join (c:UF h C f) (x:∀i j k,C i j ->C j k ->C i k) (y:∀i j,C i j ->C j i) (v:s<h) (u:o<h) (r:C s o):UF h C (DY f s o):=by
 have z:min (f s) (f o)=f s\/min (f s) (f o)=f o:=by omega
 have F:max (f s) (f o)=f s\/max (f s) (f o)=f o:=by omega
 have B:f (min (f s) (f o))=min (f s) (f o):=by
  rcases z with e | e
  .rw [e];exact c.ff s v
  .rw [e];exact c.ff o u
 have E:∀i,i<h ->f i=max (f s) (f o) ->C i s:=λi l e=>by
  rcases F with g | g
  .exact c.snd i s l v (e.trans g)
  .exact x _ _ _ (c.snd i o l u (e.trans g)) (y _ _ r)
 have D:∀i,i<h ->f i=min (f s) (f o) ->C i s:=λi l e=>by
  rcases z with g | g
  .exact c.snd i s l v (e.trans g)
  .exact x _ _ _ (c.snd i o l u (e.trans g)) (y _ _ r)
 refine ⟨λk t=>?_,λk t=>?_,λi j l A e=>?_⟩
 .have:=c.le k t;unfold DY;split<;>omega
 .by_cases e:f k=max (f s) (f o)
  .grind [DY]
  .have w:DY f s o k=f k:=η e;rw [w];unfold DY;rw [c.ff k t,η e]
 .unfold DY at e
  by_cases w:f i=max (f s) (f o)<;>by_cases g:f j=max (f s) (f o)
  .grind
  .grind
  .grind
  .rw [η w,η g] at e;exact c.snd i j l A e
theorem UF.id (n:Nat) (a:∀i,C i i):UF n C (λk=>k):=⟨λ_ _=>κ _,λ_ _=>rfl,λi j _ _ (e:i=j)=>by subst e;exact a i⟩
noncomputable def gR (n:Nat) (C:Nat ->Nat ->Prop):List (List Nat):=((List.range n).filter λk=>dec (∀j,j<k ->¬C k j)).map λk=>(List.range n).filter λj=>dec (C k j)
def X8 (n:Nat) (f:Nat ->Nat) (k:Nat):List Nat:=(List.range n).filter λj=>decide (f j=k)
def J9 (n m:Nat) (f:Nat ->Nat):List (List Nat):=((List.range m).filter λk=>decide (f k=k)).map (X8 n f)
theorem aq {m:Nat} (a:f m=m):J9 h (m+1) f=J9 h m f++ [X8 h f m]:=by
 unfold J9;rw [ea,fy,du];simp [a]
theorem X7 {m:Nat} (a:¬f m=m):J9 h (m+1) f=J9 h m f:=by
 unfold J9;rw [ea,fy,du];simp [a]
theorem ap (n m:Nat) (f:Nat ->Nat):(J9 n m f).length<=m:=by grind [J9]
theorem j7 (a:UF h C f) (w:∀i j,i<h ->j<h ->C i j ->f i=f j):J9 h h f=gR h C:=by
 have g:∀k,k<h ->(f k=k↔∀j,j<k ->¬C k j):=λk b=>by
  constructor
  .intro e j v t;have y:=w k j b (by omega) t;have u:=a.le j (by omega);omega
  .intro x;have y:=a.le k b;rcases Nat.lt_or_ge (f k) k with u | u
   .exact absurd (a.snd k (f k) b (by omega) (a.ff k b).symm) (x _ u)
   .omega
 unfold J9 gR;rw [show ((List.range h).filter λk=>decide (f k=k))=(List.range h).filter λk=>dec (∀j,j<k ->¬C k j) from fZ λk b=>bw (g k (Γ.1 b))];refine eE λk b=>?_;obtain ⟨s,r⟩:=Ψ.1 b;have c:=Γ.1 s;have o:f k=k:=(g k c).2 (Gp.1 r);unfold X8;refine fZ λj v=>bw ?_;have l:=Γ.1 v;exact ⟨λe=>a.snd k j c l (by rw [o,e]),λt=>by rw [<-w k j c l t,o]⟩
structure O3 (rs:List AO) (E:List (AG×Nat)) (P:Nat ->AO ->Prop) (U:List (AO×Nat)) (f:Nat ->Nat):Prop where
 ok:∀e∈U,e.2<E.length/\e.1∈(dR rs (Cx E e.2)).map Prod.fst
 has:∀k r,P k r ->r∈U.map Prod.fst/\f (AY U r 0)=f k
theorem O3.keep {b:Nat ->Nat} (h:O3 a E P U f) (g:∀i j,f i=f j ->b i=b j):O3 a E P U b:=
 ⟨h.ok,λk r c=>⟨(h.has k r c).1,g _ _ (h.has k r c).2⟩⟩
theorem O3.mono (h:O3 a E P U f) (b:∀k r,c k r ->P k r):O3 a E c U f:=⟨h.ok,λk r g=>h.has k r (b k r g)⟩
theorem jU (h:i∈U.map Prod.fst):(i,AY U i 0)∈U:=H6 h
theorem O3.new (h:O3 a E P U f) (j:i∉U.map Prod.fst) (v:k<E.length) (u:i∈(dR a (Cx E k)).map Prod.fst) (l:∀b s,c b s ->P b s\/(b=k/\s=i)):O3 a E c (BA U i k) f:=by
 rw [D9 j];refine ⟨λe g=>?_,λb s o=>?_⟩
 .rcases ν.1 g with g | g
  .exact h.ok e g
  grind
 .rw [<-D9 j,H5];rcases l b s o with t | ⟨rfl,rfl⟩
  .obtain ⟨x,w⟩:=h.has b s t
   grind [D9]
  grind [D9]
theorem O3.join (h:O3 a E P U f) (j:i∈U.map Prod.fst) (l:∀b s,c b s ->P b s\/(b=k/\s=i)):O3 a E c U (DY f (AY U i 0) k):=
 ⟨h.ok,λb s o=>(l b s o).elim (λg=>⟨(h.has b s g).1,Gb (h.has b s g).2⟩) λ⟨u,t⟩=>by subst u t;exact ⟨j,PO⟩⟩
theorem O3.zero (a:List AO) (E:List (AG×Nat)) (f:Nat ->Nat):O3 a E (λ_ _=>False) [] f:=⟨λe b=>(by cases b),λk r h=>h.elim⟩
def Lc (E:List (AG×Nat)) (k:Nat):List (Int×Nat):=(List.range k).map λj=>((Cx E j).id,j)
theorem Zn (E:List (AG×Nat)) (k:Nat):Lc E (k+1)=Lc E k++ [((Cx E k).id,k)]:=by unfold Lc;rw [ea,du];rfl
theorem VZ {x:Int}:x∈(Lc E k).map Prod.fst↔∃j,j<k/\(Cx E j).id=x:=by grind [Lc]
def ox (E:List (AG×Nat)):Prop:=∀i j,i<E.length ->j<E.length ->(Cx E i).id=(Cx E j).id ->i=j
theorem iw (c:ox E) (b:k<E.length):BA (Lc E k) (Cx E k).id k=Lc E (k+1):=by
 rw [D9 λa=>by
  obtain ⟨j,f,e⟩:=VZ.1 a;have:=c j k (by omega) b e
  omega,Zn]
theorem VY (a:ox E) {x:Int} (h:x∈(Lc E E.length).map Prod.fst):AY (Lc E E.length) x 0<E.length/\(Cx E (AY (Lc E E.length) x 0)).id=x:=by grind [Lc,H6]
theorem Zo (b:ox E) (a:j<E.length):(Cx E j).id∈(Lc E E.length).map Prod.fst/\AY (Lc E E.length) (Cx E j).id 0=j:=by
 have c:(Cx E j).id∈(Lc E E.length).map Prod.fst:=VZ.2 ⟨j,a,Z⟩;obtain ⟨g,f⟩:=VY b c;exact ⟨c,b _ _ g a f⟩
end Go.Proofs.YtnkkaeblokdifaaGreat
namespace Go.Proofs.YtnkkaeblokdifaaGreat
open Go.RowKit
variable {a:Nat ->List Nat} {c:List (Nat×Nat)} {f:Nat} {S:TS} {g k h:Nat} {i j:Nat ->Nat} {o:Nat ->Int} {s:Nat} {x:Nat×Nat} {t:Nat}
abbrev rowN (n:Nat) (f:Nat ->Nat):List D:=(List.range n).map λv=>AL (f v)
abbrev HC (n:Nat) (f:Nat ->Int):List D:=(List.range n).map λv=>AF (f v)
theorem Lz {n i:Nat} {f:Nat ->Nat} (h:i<n):(rowN n f)[i]? =some (AL (f i)):=by simp [h]
theorem ZY (h:s<f):(HC f o)[s]? =some (AF (o s)):=by simp [h]
theorem Lb {a h:Nat ->D} (c:∀j,j<f ->j≠s ->a j=h j) {x:D} (b:x=h s):((List.range f).map a).set s x=(List.range f).map h:=by
 refine fh (by simp) λj k g=>?_
 grind
theorem DE {x:Nat}:(rowN f i).set s (AL x)=rowN f (Al i s x):=by grind [Lb,GN,KI]
theorem ZX {x:Int}:(HC f o).set s (AF x)=HC f (Al o s x):=by grind [Lb,GN,KI]
theorem DF (n:Nat) (f:Nat ->Nat):(rowN n f).length=n:=by simp
theorem R4 (n:Nat) (f:Nat ->Int):(HC n f).length=n:=by simp
theorem mg (n:Nat):List.replicate n (D.raw (.int .i64 0))=rowN n (λ_=>0):=by
 refine fh (by simp) λj b a=>?_
 simp
theorem rl (n:Nat):List.replicate n (D.raw (.int .i64 0))=HC n (λ_=>0):=by
 refine fh (by simp) λj b a=>?_
 simp
abbrev Xt (f:Nat×Nat):D:= .agg [AL f.1,AL f.2]
def pend:Option Nat ->List (Nat×Nat)
 | none=> []
 | some v=> [(v,0)]
theorem Ki {l j:List (Nat×Nat)} (h:k=l.length):((l++ [x]++j).map Xt)[k]? =some (Xt x):=by
 subst h;simp
theorem r9 {l j:List (Nat×Nat)} {y:Nat×Nat} (h:k=l.length):((l++ [x]++j).map Xt).set k (Xt y)=(l++ [y]++j).map Xt:=by
 subst h;simp
theorem pM (l j:List (Nat×Nat)) {x:Nat×Nat}:((l++j).map Xt).take l.length++ [Xt x].take 1=(l++ [x]).map Xt:=by
 rw [<-List.map_take,List.take_left];simp
theorem nH (a b:Nat):(if (b:Int)<(a:Int) then (b:Int) else (a:Int))=((min a b:Nat):Int):=by
 split<;>omega
def mu (n:Nat) (suc:Nat ->List Nat) (S:TS):Nat:=((List.range n).map λv=>if S.idx v=0 then (suc v).length+1 else 0).sum+(S.cs.map λf=>(suc f.1).length - f.2+1).sum
theorem aW {n:Nat} {a:Nat ->List Nat} {S:TS} {v:Nat} (g:v<n) (j:S.idx v=0) {l:Nat ->Nat} {st:List Nat} {c:Nat}:
  mu n a ⟨Al S.idx v (S.clk+1),l,S.of,st,S.cs++ [(v,0)],S.cnt,c⟩=mu n a S:=by
 unfold mu;dsimp only
 have:=VI (n:=n) (i:=v) (f:=λv=>if S.idx v=0 then (a v).length+1 else 0) (h:=λu=>if Al S.idx v (S.clk+1) u=0 then (a u).length+1 else 0) (c:=(a v).length+1) g
  (λk _ b=>by rw [GN b]) (by rw [KI,ϖ j,η (by omega)];omega)
 grind
theorem UU (b:S.cs=c++ [(h,k)]) (g:k<(a h).length):mu f a {S with low:=j,cs:=c++ [(h,k+1)]}<mu f a S:=by grind [mu]
theorem aX (b:S.cs=c++ [(h,k)]) {o:Nat ->Int} {i:List Nat} {g:Nat}:mu f a ⟨S.idx,j,o,i,c,g,S.clk⟩<mu f a S:=by grind [mu]
structure TH (n:Nat) (suc:Nat ->List Nat) (r:Nat) (S:TS) (p:Option Nat):Prop where
 ti:TI n suc S p
 k1:∀f∈S.cs,1<=f.2
 old:∀v,v<r ->S.idx v≠0
 rt:S.idx r≠0\/p=some r
structure TB (n:Nat) (suc:Nat ->List Nat) (r:Nat) (S:TS) (cs0:List (Nat×Nat)) (v k:Nat):Prop where
 ti:TI n suc S none
 hcs:S.cs=cs0++ [(v,k)]
 k1:∀f∈cs0,1<=f.2
 old:∀v,v<r ->S.idx v≠0
 rt:S.idx r≠0
theorem iO {p:Option Nat} (h:TH f a g S p) (c:S.cs++pend p≠ []):∃b v k,S.cs++pend p=b++ [(v,k)]/\v<f/\(k=0 ->S.cs=b/\p=some v)/\(k≠0 ->S.cs=b++ [(v,k)]/\p=none):=by
 cases p with
 | some v=>exact ⟨S.cs,v,0,Z,(h.ti.pnd v Z).1,λ_=>⟨Z,Z⟩,λh=>(h Z).elim⟩
 | none=>
  rw [pend,en] at c⊢;rcases List.eq_nil_or_concat S.cs with e | ⟨l,⟨v,k⟩,e⟩
  .grind
  .rw [List.concat_eq_append] at e;have i:(v,k)∈S.cs:=by rw [e];exact fz _ (ξ.2 Z)
   have:=h.k1 _ i;have j:=h.ti.lt v ((h.ti.st v).1 (h.ti.csm _ i)).1
   grind
theorem Yj (b:TH f a g S (some h)):
  TB f a g ⟨Al S.idx h (S.clk+1),Al S.low h (S.clk+1),S.of,S.st++ [h],S.cs++ [(h,0)],S.cnt,S.clk+1⟩ S.cs h 0:=by
 refine ⟨Yg b.ti,Z,b.k1,λw c=>?_,?_⟩
 .show Al S.idx h (S.clk+1) w≠0
  by_cases e:w=h
  .subst e;rw [KI];omega
  .rw [GN e];exact b.old w c
 .show Al S.idx h (S.clk+1) g≠0
  by_cases e:g=h
  .subst e;rw [KI];omega
  .rw [GN e];exact b.rt.resolve_right λi=>e (Option.some.inj i).symm
theorem mS (b:TH f a g S none) (j:S.cs=c++ [(h,k)]):TB f a g S c h k:=
 ⟨b.ti,j,λi l=>b.k1 i (by rw [j];exact gH _ l),b.old,b.rt.resolve_right λe=>by cases e⟩
theorem Tl (b:TB f a g S c h k):h<f/\h∈S.st/\S.idx h≠0/\k<=(a h).length:=by
 have i:(h,k)∈S.cs:=by rw [b.hcs];exact fz _ (ξ.2 Z)
 have l:=b.ti.csm _ i;have j:=((b.ti.st h).1 l).1;exact ⟨b.ti.lt h j,l,j,(b.ti.gry _ i).1⟩
theorem mT (b:TB f a g S c h k) (z:(a h)[k]? =some t) (o:t<f) (s:S.idx t=0):
  TH f a g {S with cs:=c++ [(h,k+1)]} (some t):=by
 refine ⟨Tk b.ti b.hcs z o (low':=S.low) (λw=>κ _) (λw u=>(b.ti.lw w u).2) (.inr Z) (λx e=>⟨(Option.some.inj e).symm,s⟩) (λy=>absurd s ((b.ti.st t).1 y).1),λi l=>?_,b.old,.inl b.rt⟩;rcases ν.1 l with l | l
 .exact b.k1 i l
 grind
theorem mU (b:TB f a g S c h k) (z:(a h)[k]? =some t) (s:t<f) (A:S.idx t≠0) (B:S.of t<0):
  TH f a g {S with low:=Al S.low h (min (S.low h) (S.idx t)),cs:=c++ [(h,k+1)]} none:=by
 have o:t∈S.st:=(b.ti.st t).2 ⟨A,B⟩;refine ⟨Tk b.ti b.hcs z s (λw=>?_) (λw u=>?_) (.inl A) (λx e=>by cases e) (λ_=>by rw [KI];omega),λi l=>?_,b.old,.inl b.rt⟩
 .grind [KI,GN]
 .by_cases e:w=h
  .subst e;rw [KI];rcases Nat.lt_or_ge (S.idx t) (S.low w) with C | C
   .exact ⟨t,o,by omega,Rh.one (ϑ z)⟩
   .obtain ⟨y,D,F,E⟩:=(b.ti.lw w u).2
    grind
  .rw [GN e];exact (b.ti.lw w u).2
 .rcases ν.1 l with l | l
  .exact b.k1 i l
  grind
theorem iR (b:TB f a g S c h k) (z:(a h)[k]? =some t) (o:t<f) (A:S.idx t≠0) (u:¬S.of t<0):
  TH f a g {S with cs:=c++ [(h,k+1)]} none:=by
 refine ⟨Tk b.ti b.hcs z o (low':=S.low) (λw=>κ _) (λw s=>(b.ti.lw w s).2) (.inl A) (λx e=>by cases e) (λy=>absurd ((b.ti.st t).1 y).2 u),λi l=>?_,b.old,.inl b.rt⟩;rcases ν.1 l with l | l
 .exact b.k1 i l
 grind
theorem qU (a b:Nat):(if (b:Int)>(a:Int) then (b:Int) else (a:Int))=((max a b:Nat):Int):=by split<;>omega
def Xc (f:Nat ->Nat) (a b k:Nat):Nat ->Nat:=λj=>if j<k then DY f a b j else f j
theorem bA (f:Nat ->Nat) (a b:Nat):Xc f a b 0=f:=by funext j;unfold Xc;rw [η (by omega)]
theorem nW (f:Nat ->Nat) (a b k:Nat):Xc f a b k k=f k:=η (by omega)
theorem j9 {a b:Nat} (h:i k=max (i a) (i b)):Al (Xc i a b k) k (min (i a) (i b))=Xc i a b (k+1):=by grind [KI,Xc,DY,GN]
theorem bB {a b:Nat} (h:¬i k=max (i a) (i b)):Xc i a b (k+1)=Xc i a b k:=by grind [Xc,DY]
theorem Ok {n:Nat} {f h:Nat ->Nat} (e:∀j,j<n ->f j=h j):rowN n f=rowN n h:=by simp_all
abbrev HJ (n:Nat) (f:Nat ->Nat):Hp:=[(930,[.blk 33 [.own 931 0 n]]),(931,[.rowD 3 1 (rowN n f)])]
set_option maxRecDepth 100000 in
theorem Vv (n:Nat) (f:Nat ->Nat) (a b:Nat) (s:a<n) (o:b<n) (w:n<=100000):AK prog 100 [.d (AL a),.d (AL b),.ptr 930 0 0] (HJ n f) λr v=>r= .tup []/\v=HJ n (DY f a b):=by
 refine Av func100 Z Z ntmps100 Z Z Z λF t=>(AC (Dr [[],[],[0,1],[0,1,2],[],[],[4,5],[4,5,6],rg 8,[],[],[9,10],[9,10,11],[],[],[13,14],[13,14,15],[9,10,11,12,13,14,15,16],rg 9,rg 19] mixed Z (E6 (BQ [2] Z Z (λ_=>A9 (A5 Z Z Z BI Z)) (At 0 Z Z (BQ [8,9] Z Z (λ_=>A9 (C7 (a) Z Z (Z) (s) Z E0 B4 Z)) (BQ [10] Z Z (λ_=>A9 (DX Z Z (Lz s) Z BE Z)) (BQ [2] Z Z (λ_=>A9 (A5 Z Z Z BI Z)) ?_))))))));refine At 1 Z Z (BQ [12,13] Z Z (λ_=>A9 (C7 (b) Z Z (Z) (o) Z E0 B4 Z)) (BQ [14] Z Z (λ_=>A9 (DX Z Z (Lz o) Z BE Z)) (AX [11,15] Z (Pq Z Z (qU _ _) Z) (BQ [2] Z Z (λ_=>A9 (A5 Z Z Z BI Z)) (At 0 Z Z (BQ [17,18] Z Z (λ_=>A9 (C7 (a) Z Z (Z) (s) Z E0 B4 Z)) (BQ [19] Z Z (λ_=>A9 (DX Z Z (Lz s) Z BE Z)) (BQ [2] Z Z (λ_=>A9 (A5 Z Z Z BI Z)) ?_))))))));refine At 1 Z Z (BQ [21,22] Z Z (λ_=>A9 (C7 (b) Z Z (Z) (o) Z E0 B4 Z)) (BQ [23] Z Z (λ_=>A9 (DX Z Z (Lz o) Z BE Z)) (AX [20,24] Z (Pp Z Z (nH _ _) Z) (AX [16] Z (Hy Z Z) (Dh 19 Z Z Z (An 20 Z Z (AB Z Z (AD ⟨Z,?_⟩))))))));refine Dg (AC (AE (J (A5 Z Z Z BI Z) (J (Qs Z E0 Z) (cl Z Z (AD (A2 ?_)))))));have u:rowN n f=rowN n (Xc f a b 0):=(by rw [bA]);unfold HJ;rw [u];refine Bb (α:=Nat) (λk=>⟨42,[(2,(.ptr 930 0 0)),(5,(.d (AL (max (f a) (f b))))),(6,(.d (AL (min (f a) (f b))))),(27,(.d (AL n))),(28,(.d (AL k)))],[(930,[.blk 33 [.own 931 0 n]]),(931,[.rowD 3 1 (rowN n (Xc f a b k))])]⟩) (λk=>k<=n) (λk=>n - k) (0) (ϱ _) (A0 t [930,931] Z Z ⟨Z,Z,Z,Z,Z,trivial⟩) ?_;rintro k x;refine AC (AE (J (BW Z Z Z) (AD (AC (Ah Z (λl=>?_) (λl=>?_))))))
 .refine AZ (AC (A2 (AC ?_)));have c:k<n:=Bi l;refine AE ?_;refine cl Z Z (AB Z Z (AD (AC (AE (J (A5 Z Z Z BI Z) (cl Z Z (J (C7 (k) Z Z (Z) (c) Z E0 B4 Z) (J (DX Z Z (Lz c) Z BE Z) ?_))))))));rw [nW];refine cl Z Z (J (MB Z Z Z) (AD (Ah Z (λi=>?_) (λi=>?_))))
  .have g:f k=max (f a) (f b):=Int.ofNat.inj i;refine AE (J (A5 Z Z Z BI Z) (cl Z Z (cl Z Z (J (C7 (k) Z Z (Z) (c) Z E0 B4 Z) (V (W1 Z Z Z Z Z (by rw [DF];exact c) DE Z B4) ?_)))));rw [j9 g];refine AD (AE (J (Aw Z Z (AQ (k+1) (by omega)) Z) (cl Z Z (AD ?_))));exact ⟨k+1,c,by omega,A0 t [930,931] Z (Z) ⟨Z,Z,Z,Z,Z,trivial⟩⟩
  .have g:¬f k=max (f a) (f b):=λe=>i (by rw [e]);refine AZ (AE (J (Aw Z Z (AQ (k+1) (by omega)) Z) (cl Z Z (AD ?_))));exact ⟨k+1,c,by omega,A0 t [930,931] Z (by simp only [bB g];rfl) ⟨Z,Z,Z,Z,Z,trivial⟩⟩
 .refine BL ?_;exact ⟨_,[930,931],_,A4 Z,Z,Z,Z,by rw [Ok (f:=DY f a b) (h:=Xc f a b k) λj y=>by unfold Xc;rw [ϖ (by have:=l;omega)]]⟩
end Go.Proofs.YtnkkaeblokdifaaGreat
