import Derived.Test.YteifpcnphnhaoaaGreatMg11
namespace Go.Proofs.YteifpcnphnhaoaaGreat
def sucs (g:List (List Nat)) (i:Nat):List Nat:=g.getD i []
def LB (g:List (List Nat)) (done:List Nat) (j:Nat):Nat:=((List.range g.length).map fun i=>if i∈done then 0 else (sucs g i).count j).sum
theorem Yn {l:List Nat}:l.sum=0↔∀x∈l,x=0:=by
 induction l with
 | nil=>simp
 | cons a r ih=>
  rw [φe];constructor
  ·intro h x hx;rcases Φ.1 hx with rfl | hx
   ·omega
   ·exact ih.1 (by omega) x hx
  ·intro h;have:=h a (ωo ..);have:=ih.2 fun x hx=>h x (ωn _ hx);omega
def Cf (g:List (List Nat)) (done:List Nat) (i:Nat):Prop:=i<g.length∧i∉done∧∀k,k<g.length ->k∉done ->i∉sucs g k
theorem P8 {g:List (List Nat)} {done:List Nat} {j:Nat}:LB g done j=0↔∀k,k<g.length ->k∉done ->j∉sucs g k:=by
 unfold LB;rw [Yn]
 constructor
 ·intro h k hk hd hm;have:=h _ (ϖ.2 ⟨k,ς.2 hk,Z⟩);rw [ϑ hd] at this;have:=List.count_pos_iff.2 hm;omega
 ·intro h x hx;obtain ⟨k,hk,rfl⟩:=ϖ.1 hx
  split
  ·rfl
  ·rename_i hd;exact List.count_eq_zero.2 (h k (ς.1 hk) hd)
theorem VL {n i:Nat} {f h:Nat ->Nat} {c:Nat} (hi:i<n) (he:∀k,k<n ->k≠i ->f k=h k) (hc:f i=h i+c):((List.range n).map f).sum=((List.range n).map h).sum+c:=by
 induction n with
 | zero=>omega
 | succ n ih=>
  rw [ψj,ωc,ωc,ψr,ψr];simp only [ωm,List.map_nil,φe,List.sum_nil]
  by_cases e:i=n
  ·subst e
   have:((List.range i).map f).sum=((List.range i).map h).sum:=by
    congr 1
    exact ωj fun k hk=>he k (by have:=ς.1 hk;omega) (by have:=ς.1 hk;omega)
   omega
  ·have:=ih (by omega) fun k hk hne=>he k (by omega) hne;have:=he n (by omega) (Ne.symm e);omega
theorem Xt {g:List (List Nat)} {done:List Nat} {i:Nat} (hi:i<g.length) (hd:i∉done) (j:Nat):LB g done j=LB g (done++ [i]) j+(sucs g i).count j:=by
 unfold LB;refine VL hi (fun k _ hne=>?_) ?_
 ·by_cases h:k∈done
  ·rw [κ h,κ (ν.2 (.inl h))]
  ·rw [ϑ h,ϑ fun h'=>(ν.1 h').elim h fun e=>hne (ξ.1 e)]
 ·rw [ϑ hd,κ (by simp)];omega
def Ql (g:List (List Nat)) (K:Nat ->Nat) (l:List Nat):Prop:=∀i,i<l.length ->Cf g (l.take i) (nth l i)∧∀y,Cf g (l.take i) y ->K (nth l i)≤K y
theorem S3 {g:List (List Nat)} {K:Nat ->Nat} {l:List Nat} {x:Nat} (h:Ql g K l) (h1:Cf g l x) (h2:∀y,Cf g l y ->K x≤K y):Ql g K (l++ [x]):=by
 intro i hi;rw [Θ,Ψ] at hi
 by_cases e:i=l.length
 ·subst e;rw [List.take_left,show nth (l++ [x]) l.length=x by simp [nth]];exact ⟨h1,h2⟩
 ·rw [MC (by omega),List.take_append_of_le_length (by omega)];exact h i (by omega)
theorem NX {g:List (List Nat)} {K:Nat ->Nat} (hK:∀a b,a<g.length ->b<g.length ->K a=K b ->a=b) {l m:List Nat} (hl:Ql g K l) (hm:Ql g K m):∀i,i≤l.length ->i≤m.length ->l.take i=m.take i:=by
 intro i
 induction i with
 | zero=>intro _ _;simp
 | succ i ih=>
  intro h1 h2;have e:=ih (by omega) (by omega);rw [φ (by omega),φ (by omega),e,←Ny (by omega),←Ny (by omega)];have a:=hl i (by omega);have b:=hm i (by omega);rw [e] at a;rw [hK _ _ a.1.1 b.1.1 (Nat.le_antisymm (a.2 _ b.1) (b.2 _ a.1))]
theorem bJ {g:List (List Nat)} {K:Nat ->Nat} (hK:∀a b,a<g.length ->b<g.length ->K a=K b ->a=b) {l m:List Nat} (hl:Ql g K l) (hm:Ql g K m) (el:∀y,¬Cf g l y) (em:∀y,¬Cf g m y):l=m:=by
 rcases Nat.lt_trichotomy l.length m.length with h | h | h
 ·have e:=NX hK hl hm l.length (υ _) (by omega);rw [ωt] at e;have:=(hm l.length h).1;rw [←e] at this;exact (el _ this).elim
 ·have e:=NX hK hl hm l.length (υ _) (by omega);rw [ωt,h,ωt] at e;exact e
 ·have e:=NX hK hl hm m.length (by omega) (υ _);rw [ωt] at e;have:=(hl m.length h).1;rw [e] at this;exact (em _ this).elim
theorem IU {g:List (List Nat)} {K:Nat ->Nat} {l:List Nat} (h:Ql g K l):l.Nodup∧∀x∈l,x<g.length:=by
 constructor
 ·rw [List.nodup_iff_pairwise_ne,ωq];intro i j hi hj hij e;have:=(h j hj).1.2.1;rw [Ny hj,←e] at this;exact this (χb.2 ⟨i,by rw [Ω];omega,by simp⟩)
 ·intro x hx;obtain ⟨i,hi,rfl⟩:=χb.1 hx;have:=(h i hi).1.1
  rwa [Ny hi] at this
structure OI (g:List (List Nat)) (K:Nat ->Nat) (w q out ls:List Nat):Prop where
 len:w.length=g.length
 deg:∀j,j<g.length ->nth w j=LB g out j+ls.count j
 nd:(out++q).Nodup
 lt:∀x∈out++q,x<g.length
 zer:∀x,x<g.length ->(x∈out++q↔nth w x=0)
 hp:KO K q
 grd:Ql g K out
theorem oi_le {g:List (List Nat)} {K:Nat ->Nat} {w q out ls:List Nat} (h:OI g K w q out ls):out.length+q.length≤g.length:=by
 have:=Cr h.nd (m:=List.range g.length) fun x hx=>ς.2 (h.lt x hx);rw [ωf,Θ] at this;exact this
theorem oi_pop {g:List (List Nat)} {K:Nat ->Nat} {w q out:List Nat} (h:OI g K w q out []) (hq:q≠ []):OI g K w (Kq K q) (out++ [nth q 0]) (sucs g (nth q 0)):=by
 have hp:=Xj K hq;have h0:0<q.length:=χh.2 hq;have hm:nth q 0∈q:=Ct h0;have hx:nth q 0<g.length:=h.lt _ (ν.2 (.inr hm));have hno:nth q 0∉out:=fun h1=>(χp.1 h.nd).2.2 _ h1 _ hm rfl
 have hpp:(out++ [nth q 0]++Kq K q).Perm (out++q):=by
  rw [ψm];exact hp.append_left out
 have hw:∀y,y<g.length ->(nth w y=0↔∀k,k<g.length ->k∉out ->y∉sucs g k):=fun y hy=>by
  rw [h.deg y hy,List.count_nil,χo,P8]
 refine ⟨h.len,fun j hj=>?_,hpp.nodup_iff.2 h.nd,fun x hx=>h.lt x (hpp.mem_iff.1 hx),fun x hx=>?_,Xk h.hp hq,S3 h.grd ⟨hx,hno,?_⟩ fun y hy=>?_⟩
 ·rw [h.deg j hj,List.count_nil,χo,Xt hx hno]
 ·rw [hpp.mem_iff];exact h.zer x hx
 ·exact (hw _ hx).1 ((h.zer _ hx).1 (ν.2 (.inr hm)))
 ·have:=(h.zer y hy.1).2 ((hw _ hy.1).2 hy.2.2);rcases ν.1 this with h1 | h1
  ·exact (hy.2.1 h1).elim
  ·obtain ⟨i,hi,rfl⟩:=χb.1 h1;rw [←Ny hi];exact bG h.hp i hi
theorem oi_dec {g:List (List Nat)} {K:Nat ->Nat} {w q out ls:List Nat} {j:Nat} (h:OI g K w q out (j::ls)) (hj:j<g.length):1≤nth w j∧
  (nth w j - 1=0 ->OI g K (w.set j (nth w j - 1)) (LW K q j) out ls)∧(nth w j - 1≠0 ->OI g K (w.set j (nth w j - 1)) q out ls):=by
 have h1:nth w j=LB g out j+(ls.count j+1):=by rw [h.deg j hj,List.count_cons_self]
 have hjl:j<w.length:=by rw [h.len];exact hj
 have hnm:j∉out++q:=fun hm=>by have:=(h.zer j hj).1 hm;omega
 have hdeg:∀x,x<g.length ->nth (w.set j (nth w j - 1)) x=LB g out x+ls.count x:=fun x hx=>by
  rw [Gb hjl]
  split
  ·rename_i e;subst e;omega
  ·rename_i e;rw [h.deg x hx,List.count_cons_of_ne (fun e'=>e e'.symm)]
 refine ⟨by omega,fun hz=>?_,fun hz=>?_⟩
 ·have hpp:(out++LW K q j).Perm (j::(out++q)):=((NQ K q j).append_left out).trans List.perm_middle;refine ⟨by simpa using h.len,hdeg,hpp.nodup_iff.2 (φa.2 ⟨hnm,h.nd⟩),fun x hx=>?_,fun x hx=>?_,NR h.hp j,h.grd⟩
  ·rcases Φ.1 (hpp.mem_iff.1 hx) with rfl | hx
   ·exact hj
   ·exact h.lt x hx
  ·rw [hpp.mem_iff,Φ,Gb hjl]
   split
   ·rename_i e;subst e;exact ⟨fun _=>hz,fun _=> .inl Z⟩
   ·rename_i e;rw [←h.zer x hx];exact ⟨fun h'=>h'.elim (fun e'=>(e e').elim) id,.inr⟩
 ·refine ⟨by simpa using h.len,hdeg,h.nd,h.lt,fun x hx=>?_,h.hp,h.grd⟩;rw [Gb hjl]
  split
  ·rename_i e;subst e;exact ⟨fun h'=>(hnm h').elim,fun h'=>(hz h').elim⟩
  ·exact h.zer x hx
theorem oi_fill {g:List (List Nat)} {K:Nat ->Nat} {w:List Nat} (hlen:w.length=g.length) (hdeg:∀j,j<g.length ->nth w j=LB g [] j)
  {q:List Nat} (hn:q.Nodup) (hq:∀x,x∈q↔x<g.length∧nth w x=0) (hh:KO K q):OI g K w q [] []:=
 ⟨hlen,fun j hj=>by rw [hdeg j hj];rfl,hn,fun x hx=>((hq x).1 hx).1,fun x hx=>⟨fun h=>((hq x).1 h).2,fun h=>(hq x).2 ⟨hx,h⟩⟩,hh,fun i hi=>by simp at hi⟩
theorem oi_end {g:List (List Nat)} {K:Nat ->Nat} {w out:List Nat} (h:OI g K w [] out []):Ql g K out∧∀y,¬Cf g out y:=by
 refine ⟨h.grd,fun y hy=>?_⟩;have:=(h.zer y hy.1).2 (by rw [h.deg y hy.1,List.count_nil,χo];exact P8.2 hy.2.2);rw [ωk] at this;exact hy.2.1 this
end Go.Proofs.YteifpcnphnhaoaaGreat
namespace Go.Proofs.YteifpcnphnhaoaaGreat
open Go.RowKit
section
variable {P:Program} {F:Fr} {ops:Array Oper} {pre:List (List Nat)} {Q:Exit ->AS ->Prop} {lo:Nat} {rest:List Oper} {s:AS} {A B C:Oper}
theorem FO {o:Oper} {R:AS ->Prop} {Q':Exit ->Act ->World ->Prop} (h:Ab P F ops [o] (fun e s'=>e= .normal∧R s') s) {ρ:Nat ->Nat ->Value} {act:Act} {w:World} (hs:SR F s ρ act w):EC P F.rnd ops o Q' (fun a w=>∃s' ρ',R s'∧SR F s' ρ' a w) act w:=by
 have hrun:=h ρ act w hs;unfold wpListIn at hrun;unfold EC
 split
 ·rename_i hw
  rw [κ hw] at hrun;refine Ew ?_ ?_ hrun
  ·rintro a w ⟨s',ρ',⟨_,h1⟩,h2⟩;exact ⟨s',ρ',h1,h2⟩
  ·rintro e a w hne ⟨s',ρ',⟨he,h1⟩,h2⟩;exact absurd he hne
 ·rename_i hw
  rw [ϑ hw] at hrun;obtain ⟨_,s',ρ',⟨_,h1⟩,h2⟩:=hrun;exact ⟨s',ρ',h1,h2⟩
theorem Zch {r:Option Nat} {o:Oper} {Q':Exit ->Act ->World ->Prop} {K K':Act ->World ->Prop} {a:Act} {w:World} (hk:∀a w,K a w ->K' a w) (h:EC P r ops o Q' K a w):EC P r ops o Q' K' a w:=by
 unfold EC at h⊢
 split
 ·rename_i hw;rw [κ hw] at h;exact Ew hk (fun _ _ _ _ h=>h) h
 ·rename_i hw;rw [ϑ hw] at h;exact hk _ _ h
abbrev KeP {γ:Type} (F:Fr) (σ:γ ->AS) (I:γ ->Prop) (s':AS):Prop:=∃a,I a∧s'.LeP F (σ a)
theorem dwx3 {γ:Type} (hi:Nat) (σ:γ ->AS) (I:γ ->Prop) (hhi:Nat.beq (lo+3) hi=true) (hc:Sm pre (hi+rest.length) lo hi=true) (hpB:memB (lo+1) (preAt pre (lo+2))=true)
  (h1:Ab P F ops [A] (fun e s1=>e= .normal∧Ab P F ops [B] (fun e s2=>e= .normal∧Ab P F ops [C] (fun e s3=>e= .normal∧KeP F σ I s3) s2) s1) s)
  (h2:Ab P F ops [B] (fun e s1=>e= .normal∧Ab P F ops [A] (fun e s2=>e= .normal∧Ab P F ops [C] (fun e s3=>e= .normal∧KeP F σ I s3) s2) s1∧Ab P F ops [C] (fun e s2=>e= .normal∧Ab P F ops [A] (fun e s3=>e= .normal∧KeP F σ I s3) s2) s1) s)
  (h:∀a,I a ->Dw P F ops pre hi rest Q (σ a)):Dw P F ops pre lo (A::B::C::rest) Q s:=fun hps hr ρ act w listed hs hsz hL=>by
 have hhi':=ωg hhi;subst hhi';have oA:ops[lo]? =some A:=by have:=hr 0;simpa using this.symm
 have oB:ops[lo+1]? =some B:=by have:=hr 1;simpa using this.symm
 have oC:ops[lo+2]? =some C:=by have:=hr 2;simpa using this.symm
 have hsz2:ops.size=lo+3+rest.length:=by
  have e1:=hr (rest.length+3);have e2:=hr (rest.length+2);have e3:(A::B::C::rest)[rest.length+2]?≠none:=by simp
  rw [e2] at e3;have e4:lo+(rest.length+2)<ops.size:=Nat.lt_of_not_le fun hh=>e3 (φl hh);have e5:ops[lo+(rest.length+3)]? =none:=by rw [←e1];simp
  have:=Array.getElem?_eq_none_iff.1 e5;omega
 obtain ⟨_,c2,c3⟩:=LC hc;have hpB':lo+1∈preAt pre (lo+2):=FZ.1 hpB;have hL0:∀k,lo≤k ->Lf listed k=false:=fun k hk=>by rw [hL];exact ωp (by omega)
 refine KS hps lo (lo+3) (by omega) (fun j hj hjs x h1 h2=>c3 j hj (by omega) x h1 h2) (fun L act' w'=>
  (L lo=false∧L (lo+1)=false∧L (lo+2)=false∧act'=act∧w'=w)∨
  (L lo=true∧L (lo+1)=false∧L (lo+2)=false∧∃s' ρ',Ab P F ops [B] (fun e s2=>e= .normal∧Ab P F ops [C] (fun e s3=>e= .normal∧KeP F σ I s3) s2) s'∧SR F s' ρ' act' w')∨
  (L lo=false∧L (lo+1)=true∧L (lo+2)=false∧∃s' ρ',(Ab P F ops [A] (fun e s2=>e= .normal∧Ab P F ops [C] (fun e s3=>e= .normal∧KeP F σ I s3) s2) s'∧Ab P F ops [C] (fun e s2=>e= .normal∧Ab P F ops [A] (fun e s3=>e= .normal∧KeP F σ I s3) s2) s')∧SR F s' ρ' act' w')∨
  (L lo=true∧L (lo+1)=true∧L (lo+2)=false∧∃s' ρ',Ab P F ops [C] (fun e s3=>e= .normal∧KeP F σ I s3) s'∧SR F s' ρ' act' w')∨
  (L lo=false∧L (lo+1)=true∧L (lo+2)=true∧∃s' ρ',Ab P F ops [A] (fun e s3=>e= .normal∧KeP F σ I s3) s'∧SR F s' ρ' act' w')∨
  (L lo=true∧L (lo+1)=true∧L (lo+2)=true∧∃s' ρ',KeP F σ I s'∧SR F s' ρ' act' w')) ?_ ?_ _ listed act w hsz Z (Fj hps hL) (fun k hk=>by rw [hL];exact ωi hk) (fun k hk=>by rw [hL];exact ωp (by omega)) (.inl ⟨hL0 _ (by omega),hL0 _ (by omega),hL0 _ (by omega),Z,Z⟩)
 ·intro L act' w' i hi1 hi2 hLi hpre _ hI;have hcase:i=lo∨i=lo+1∨i=lo+2:=by omega
  rcases hcase with rfl | rfl | rfl
  ·refine ⟨A,oA,?_⟩;have e0:(if i=i then true else L i)=true:=κ rfl;have e1:(if i+1=i then true else L (i+1))=L (i+1):=ϑ (by omega);have e2:(if i+2=i then true else L (i+2))=L (i+2):=ϑ (by omega);rcases hI with ⟨_,g1,g2,rfl,rfl⟩ | ⟨g0,_⟩ | ⟨_,g1,g2,s',ρ',⟨q1,_⟩,hs'⟩ | ⟨g0,_⟩ | ⟨_,g1,g2,s',ρ',q1,hs'⟩ | ⟨g0,_⟩
   ·refine Zch (fun a w hh=> .inr (.inl ⟨e0,e1.trans g1,e2.trans g2,hh⟩)) (FO h1 hs)
   ·rw [hLi] at g0;cases g0
   ·refine Zch (fun a w hh=> .inr (.inr (.inr (.inl ⟨e0,e1.trans g1,e2.trans g2,hh⟩)))) (FO q1 hs')
   ·rw [hLi] at g0;cases g0
   ·refine Zch (fun a w hh=> .inr (.inr (.inr (.inr (.inr ⟨e0,e1.trans g1,e2.trans g2,hh⟩))))) (FO q1 hs')
   ·rw [hLi] at g0;cases g0
  ·refine ⟨B,oB,?_⟩;have e0:(if lo=lo+1 then true else L lo)=L lo:=ϑ (by omega);have e1:(if lo+1=lo+1 then true else L (lo+1))=true:=κ rfl;have e2:(if lo+2=lo+1 then true else L (lo+2))=L (lo+2):=ϑ (by omega);rcases hI with ⟨g0,_,g2,rfl,rfl⟩ | ⟨g0,_,g2,s',ρ',q1,hs'⟩ | ⟨_,g1,_⟩ | ⟨_,g1,_⟩ | ⟨_,g1,_⟩ | ⟨_,g1,_⟩
   ·refine Zch (fun a w hh=> .inr (.inr (.inl ⟨e0.trans g0,e1,e2.trans g2,hh⟩))) (FO h2 hs)
   ·refine Zch (fun a w hh=> .inr (.inr (.inr (.inl ⟨e0.trans g0,e1,e2.trans g2,hh⟩)))) (FO q1 hs')
   all_goals (rw [hLi] at g1;cases g1)
  ·refine ⟨C,oC,?_⟩;have hB:=hpre _ hpB';have e0:(if lo=lo+2 then true else L lo)=L lo:=ϑ (by omega);have e1:(if lo+1=lo+2 then true else L (lo+1))=L (lo+1):=ϑ (by omega);have e2:(if lo+2=lo+2 then true else L (lo+2))=true:=κ rfl;rcases hI with ⟨_,g1,_⟩ | ⟨_,g1,_⟩ | ⟨g0,g1,_,s',ρ',⟨_,q1⟩,hs'⟩ | ⟨g0,g1,_,s',ρ',q1,hs'⟩ | ⟨_,_,g2,_⟩ | ⟨_,_,g2,_⟩
   ·rw [hB] at g1;cases g1
   ·rw [hB] at g1;cases g1
   ·refine Zch (fun a w hh=> .inr (.inr (.inr (.inr (.inl ⟨e0.trans g0,e1.trans g1,e2,hh⟩))))) (FO q1 hs')
   ·refine Zch (fun a w hh=> .inr (.inr (.inr (.inr (.inr ⟨e0.trans g0,e1.trans g1,e2,hh⟩))))) (FO q1 hs')
   all_goals (rw [hLi] at g2;cases g2)
 ·intro listed' act' w' hsz' hL' hI;have t0:Lf listed' lo=true:=by rw [hL'];exact ωi (by omega)
  have t2:Lf listed' (lo+2)=true:=by rw [hL'];exact ωi (by omega)
  rcases hI with ⟨g0,_⟩ | ⟨_,_,g2,_⟩ | ⟨g0,_⟩ | ⟨_,_,g2,_⟩ | ⟨g0,_⟩ | ⟨_,_,_,s',ρ',⟨a,ha,hle⟩,hs'⟩
  ·rw [t0] at g0;cases g0
  ·rw [t2] at g2;cases g2
  ·rw [t0] at g0;cases g0
  ·rw [t2] at g2;cases g2
  ·rw [t0] at g0;cases g0
  ·exact h a ha hps (fun k=>by have:=hr (k+3);rw [χy,χy,χy] at this;rw [this];congr 1;omega) ρ' act' w' listed' (hs'.leP hle) hsz' hL'
end
end Go.Proofs.YteifpcnphnhaoaaGreat
namespace Go.Proofs.YteifpcnphnhaoaaGreat
def anU (a b:Nat):Nat:=(BitVec.ofNat 32 a &&& ~~~(BitVec.ofNat 32 b)).toNat
end Go.Proofs.YteifpcnphnhaoaaGreat
namespace Go.Proofs.YteifpcnphnhaoaaGreat
open Go.RowKit
theorem st_boxC {P:Program} {F:Fr} {s:AS} {d:Nat} {ty T:TypeId} {pos:String} {aft:Array Edge} {g:Option (Nat×Bool)} {x:Operand} (f:Nat) {A:AV} {env':List (Nat×AV)} {hp1 hp':List (Nat×List AL)} {cs:List AV} (hx:s.ev x=some A) (hc:A.cells? =some cs) (hA:okC (BW f) cs=true) (hE:A0 f s.env=some env') (hH:AX f s.hp=some hp1) (hn:CX hp1 f (.blk T cs)=some hp') (hd:Nat.blt d s.n=true):
  AJ P F ⟨some d,.box T x,ty,pos,aft,g⟩ s ⟨s.n,(d,.ptr f 0 0)::env',hp'⟩ (BW f):=fun ρ act w hs=>by
 have hrun:(execOp act.eval ⟨some d,.box T x,ty,pos,aft,g⟩).run P w= .ok (.value (.pointer (some ⟨w.heap.size,0,none⟩))) (w.alloc (.cells (act.eval x).cells T)):=by
  simp [execOp,Instr.box,newVar,newRow]
 unfold Oper.wp;rw [hrun];obtain ⟨h4,h5⟩:=(hs.ev hx).cells hc
 have hsr:=hs.new f (.blk T cs) (.pointer (some ⟨w.heap.size,0,none⟩)) (.cells (act.eval x).cells T) hE hH hn Z (fun hrep=>by
  refine Pt (us:=(act.eval x).cells.toList) (by simpa using heap_alloc_new w (.cells (act.eval x).cells T)) h4 fun j c u hc hu=>?_;obtain ⟨h6,h7⟩:=h5 j c u hc hu
  exact ⟨hrep c u (fun i hr=>Qd (Mz hA (ζ hc) hr) Z) h6,h7⟩)
 exact ⟨_,hsr.put (IC hd) (.ptr O1),fun f i h=>MU fun e=>Qd h e.1⟩
end Go.Proofs.YteifpcnphnhaoaaGreat
