/- Layer 30: what holds of the network in closed form. Plain laws. -/
import Derived.Test.YtnkkaeblokdifaaGreatMg23
namespace Go.Proofs.YtnkkaeblokdifaaGreat
open Go.RowKit
set_option maxRecDepth 100000
theorem Jr (N:Net) (i:Nat):(BI N).nd.getD i Bo=GB (N.nd.getD i Bo):=by
 show (N.nd.map GB).getD i Bo=_;rw [List.getD_eq_getElem?_getD,List.getD_eq_getElem?_getD,List.getElem?_map]
 cases N.nd[i]?<;>rfl
theorem Mo (N:Net) (j:Nat):(BI N).po.getD j Cy=Cf (N.po.getD j Cy):=by
 show (N.po.map Cf).getD j Cy=_;rw [List.getD_eq_getElem?_getD,List.getD_eq_getElem?_getD,List.getElem?_map]
 cases N.po[j]?<;>rfl
theorem Jq (N:Net):DR (BI N)=DR N:=by
 unfold DR BI;rw [List.map_map];rfl
theorem VX (N:Net) (x:Nd):F1 (BI N) (GB x)=F1 N x:=by
 have h1:badP (BI N)=badP N:=funext fun e=>by unfold badP;rw [Mo];rfl
 have h2:∀e,Mn (BI N) (GB x) e=Mn N x e:=fun e=>by unfold Mn;rw [Mo,Jr];rfl
 have h3:offOf (BI N)=offOf N:=funext fun e=>by unfold offOf;rw [Jr,Jq];rfl
 unfold F1;rw [h1,h3];show (match x.pl.find? (badP N) with | some e=>_ | none=>match x.it.af.find? (offOf N) with | some id=>_ | none=>_)=_
 cases x.pl.find? (badP N) with
 | some e=>show some (Mn (BI N) (GB x) e)=some (Mn N x e);rw [h2]
 | none=>rfl
theorem Qg (N:Net):C9 (BI N)=C9 N:=by
 have h1:(BI N).nd.findSome? (ndX (BI N))=N.nd.findSome? (ndX N):=by
  show (N.nd.map GB).findSome? _=_;rw [List.findSome?_map]
  congr 1
  funext x
  show ndX (BI N) (GB x)=ndX N x;unfold ndX;rw [VX];rfl
 have h2:(BI N).po.findSome? (Rl (BI N))=N.po.findSome? (Rl N):=by
  show (N.po.map Cf).findSome? _=_;rw [List.findSome?_map]
  congr 1
  funext y
  show Rl (BI N) (Cf y)=Rl N y;have h3:onN (BI N)=onN N:=funext fun i=>by unfold onN;rw [Jr];rfl
  have h4:∀i,((BI N).nd.getD i Bo).it.id=(N.nd.getD i Bo).it.id:=fun i=>by rw [Jr];rfl
  unfold Rl;rw [h3];show (if ovP y y.sum=true then (y.q.reverse.find? (onN N)).map fun i=>(⟨((BI N).nd.getD i Bo).it.id,0,y.r,-1⟩:Exc) else none)=_;rw [show (fun i=>(⟨((BI N).nd.getD i Bo).it.id,0,y.r,-1⟩:Exc))=fun i=>⟨(N.nd.getD i Bo).it.id,0,y.r,-1⟩ from funext fun i=>by rw [h4]]
 unfold C9;rw [h1,h2]
theorem Xi {N:Net} {x:Nd} {e:Exc} (h:F1 N x=some e):e.id=x.it.id:=by
 unfold F1 at h
 split at h
 ·injection h with h;subst h;rfl
 ·split at h
  ·injection h with h;subst h;rfl
  ·cases h
theorem Tr {N:Net} {e:Exc} (h:C9 N=some e):∃(i:Nat) (x:Nd),N.nd[i]?=some x∧x.on=true∧e.id=x.it.id:=by
 unfold C9 at h
 split at h
 ·rename_i e' h1
  injection h with h;subst h
  obtain ⟨x,hx,h2⟩:=List.exists_of_findSome?_eq_some h1;obtain ⟨i,hi,e1⟩:=List.getElem_of_mem hx;unfold ndX at h2
  split at h2
  ·rename_i ho
   exact ⟨i,x,by rw [List.getElem?_eq_getElem hi,e1],ho,Xi h2⟩
  ·cases h2
 ·obtain ⟨y,hy,h2⟩:=List.exists_of_findSome?_eq_some h;unfold Rl at h2
  split at h2
  ·cases hf:y.q.reverse.find? (onN N) with
   | none=>rw [hf] at h2;cases h2
   | some i=>
    rw [hf] at h2;injection h2 with h2;subst h2
    have ho:=List.find?_some hf;unfold onN at ho
    by_cases hi:i<N.nd.length
    ·rw [Bh Bo hi] at ho;exact ⟨i,N.nd[i],List.getElem?_eq_getElem hi,ho,by show (N.nd.getD i Bo).it.id=_;rw [Bh Bo hi]⟩
    ·rw [List.getD_eq_getElem?_getD,List.getElem?_eq_none (by omega)] at ho
     cases ho
  ·cases h2
structure SmO (ros:List Roo) (its:List AU):Prop where
 l:its.length≤30
 x:∀x∈its,Y7 x
 i:(its.map AU.id).Nodup
 a:∀x∈its,∀id∈x.af,id∈its.map AU.id
 r:(ros.map Roo.r).Nodup
 n:∀x∈ros,-4000000000000000≤x.n∧x.n≤4000000000000000
 o:ros.length≤100
theorem S_nd {ros:List Roo} {its:List AU} {on:Nat ->Bool} {x:Nd} (h:x∈(netS ros its on).nd):∃i,i<its.length∧x=Pr (ros.map Roo.r) its on i:=by
 obtain ⟨i,hi,e⟩:=List.mem_map.1 h;exact ⟨i,List.mem_range.1 hi,e.symm⟩
theorem Rg (ros:List Roo) (its:List AU) (on:Nat ->Bool):DR (netS ros its on)=its.map AU.id:=by
 unfold DR netS;rw [List.map_map]
 apply List.ext_getElem (by simp)
 intro i a b;simp only [List.getElem_map,List.getElem_range,Function.comp];show (its.getD i itm0).id=_;rw [Bh itm0 (by simpa using b)]
theorem efK_mem {rs:List A5} {D:List (A5×Int)} {e:Nat×Int} (h:e∈V4 rs D):∃d∈D,e.2=d.2:=by
 obtain ⟨d,hd,rfl⟩:=List.mem_map.1 h;exact ⟨d,(List.mem_filter.1 hd).1,rfl⟩
theorem plK_mem {rs:List A5} {ds:List (List (A5×Int))} {D:List (A5×Int)} {e:Nat×Nat} (h:e∈plK rs ds D):∃d∈D,d.1∈rs∧d.2<0∧e=(rs.idxOf d.1,(negQ ds d.1).length):=by
 obtain ⟨d,hd,rfl⟩:=List.mem_map.1 h;have h1:=List.mem_filter.1 hd;have h2:=h1.2;simp only [Bool.and_eq_true,decide_eq_true_eq] at h2;exact ⟨d,h1.1,h2.1,h2.2,rfl⟩
theorem S_sum {ros:List Roo} {its:List AU} (h:SmO ros its) (on:Nat ->Bool) (r:A5): -30000000000000000≤JS (its.map dltS) on r∧JS (its.map dltS) on r≤30000000000000000:=by
 have key:∀l:List Nat,-(l.length*1000000000000000)≤(l.map fun i=>if on i=true then Cw ((its.map dltS).getD i []) r else 0).sum∧(l.map fun i=>if on i=true then Cw ((its.map dltS).getD i []) r else 0).sum≤l.length*1000000000000000:=by
  intro l
  induction l with
  | nil=>simp
  | cons i l ih=>
   simp only [List.map_cons,List.sum_cons,List.length_cons]
   have hb:Pv ((its.map dltS).getD i []):=by
    rcases getD_mem (l:=its.map dltS) (d:=[]) i with hm | hm
    ·obtain ⟨x,_,e⟩:=List.mem_map.1 hm;rw [←e];exact Jt x
    ·rw [hm];intro x hx;cases hx
   have h1:=UT hb r
   split<;>omega
 have h1:=key (List.range (its.map dltS).length);have h2:=h.l;unfold JS;rw [List.length_range,List.length_map] at h1;rw [List.length_map] at*;omega
theorem S_w {ros:List Roo} {its:List AU} (h:SmO ros its) (on:Nat ->Bool):NetW (netS ros its on):=by
 have hl:=h.l
 have hmi:∀y∈(netS ros its on).po,y.q.length≤30∧y.mi≤30∧∃x∈ros,y=poS (its.map dltS) on x:=fun y hy=>by
  obtain ⟨x,hx,e⟩:=List.mem_map.1 hy;subst e;have h1:=MS (its.map dltS) x.r;rw [List.length_map] at h1;have h2:XZ on (negQ (its.map dltS) x.r)≤(negQ (its.map dltS) x.r).length:=List.findIdx_le_length;exact ⟨by show (negQ _ _).length≤_;omega,by show XZ _ _≤_;omega,x,hx,rfl⟩
 refine ⟨by rw [Rg];exact h.i,fun x hx id hid=>?_,fun x hx=>?_,fun x hx e he=>?_,fun x hx e he=>?_,fun y hy=>?_,fun y hy=>?_,?_,fun y hy=>?_⟩
 ·obtain ⟨i,hi,rfl⟩:=S_nd hx;rw [Rg];refine h.a (its.getD i itm0) (by rw [Bh itm0 hi];exact List.getElem_mem hi) id hid
 ·obtain ⟨i,hi,rfl⟩:=S_nd hx;have hm:its.getD i itm0∈its:=by rw [Bh itm0 hi];exact List.getElem_mem hi
  have h1:=Pa (h.x _ hm);have h2:=UJ (ros.map Roo.r) (dltS (its.getD i itm0));have h3:=Tg (ros.map Roo.r) ((its.map dltS).take i) (dltS (its.getD i itm0));have h4:=(h.x _ hm).2.2;exact ⟨by show (V4 _ _).length≤_;omega,by show (plK _ _ _).length≤_;omega,by show (its.getD i itm0).af.length≤_;omega⟩
 ·obtain ⟨i,hi,rfl⟩:=S_nd hx;obtain ⟨d,hd,e1⟩:=efK_mem he;have:=Jt _ d hd;rw [e1];omega
 ·obtain ⟨i,hi,rfl⟩:=S_nd hx;obtain ⟨d,hd,hm,hneg,rfl⟩:=plK_mem he;obtain ⟨hj,hr⟩:=P2 hm;have hdi:i<(its.map dltS).length:=by simpa using hi
  have hgi:(its.map dltS).getD i []=dltS (its.getD i itm0):=by rw [Bh [] hdi,Bh itm0 hi,List.getElem_map]
  have hamt:Cw ((its.map dltS).getD i []) d.1=d.2:=by rw [hgi];exact Zc3 (DB _) hd
  obtain ⟨B,c1,c2,c3⟩:=MT hdi d.1
  have hq:((netS ros its on).po.getD ((ros.map Roo.r).idxOf d.1) Cy).q=negQ (its.map dltS) d.1:=by
   show ((ros.map _).getD _ Cy).q=_;rw [Bh Cy (by simpa using hj),List.getElem_map];show negQ _ (ros[(ros.map Roo.r).idxOf d.1]).r=_;rw [hr]
  rw [hq];dsimp only;have hlen:=congrArg List.length c1;rw [if_pos (by rw [hamt];exact hneg),List.length_append,List.length_append,List.length_singleton] at hlen;have h1:=MS ((its.map dltS).take i) d.1;rw [List.length_take,List.length_map] at h1;omega
 ·have:=hmi y hy;omega
 ·obtain ⟨_,_,x,hx,rfl⟩:=hmi y hy;have:=h.n x hx;show -1000000000000000000≤x.n∧x.n≤1000000000000000000;omega
 ·have h1:(netS ros its on).nd.length=its.length:=by unfold netS;simp
  have h2:(netS ros its on).po.length=ros.length:=by unfold netS;simp
  have:=h.o;omega
 ·have:=hmi y hy;omega
theorem W_ers {N:Net} (h:NetW (BI N)):NetW N:=by
 have hn:∀x∈N.nd,GB x∈(BI N).nd:=fun x hx=>List.mem_map.2 ⟨x,hx,rfl⟩;have hp:∀y∈N.po,Cf y∈(BI N).po:=fun y hy=>List.mem_map.2 ⟨y,hy,rfl⟩;refine ⟨by rw [←Jq];exact h.i,fun x hx id hid=>by rw [←Jq];exact h.a _ (hn x hx) id hid,fun x hx=>h.l (GB x) (hn x hx),fun x hx=>h.e (GB x) (hn x hx),fun x hx e he=>?_,fun y hy=>h.m (Cf y) (hp y hy),fun y hy=>h.rm (Cf y) (hp y hy),?_,fun y hy=>h.ql (Cf y) (hp y hy)⟩
 ·have:=h.p _ (hn x hx) e he;rw [Mo] at this;exact this
 ·have:=h.n;have h1:(BI N).nd.length=N.nd.length:=by unfold BI;simp
  have h2:(BI N).po.length=N.po.length:=by unfold BI;simp
  omega
theorem S_sumB {N:Net} {ros:List Roo} {its:List AU} (h:SmO ros its) {on:Nat ->Bool} (hN:BI N=netS ros its on):QH N.po 1000000000000000000:=fun y hy=>by
 have h1:Cf y∈(BI N).po:=List.mem_map.2 ⟨y,hy,rfl⟩;rw [hN] at h1;obtain ⟨x,hx,e⟩:=List.mem_map.1 h1;have h2:=S_sum h on x.r;have h3:y.sum=JS (its.map dltS) on x.r:=congrArg Po.sum e.symm;rw [h3];omega
def Fm (ros:List Roo) (its:List AU):Nat ->(Nat ->Bool) ->List Exc×(Nat ->Bool)
 | 0,on=>([],on)
 | f+1,on=>match C9 (netS ros its on) with
  | none=>([],on)
  | some e=>(e::(Fm ros its f (Ax on ((its.map AU.id).idxOf e.id))).1,(Fm ros its f (Ax on ((its.map AU.id).idxOf e.id))).2)
def LN (n:Nat) (on:Nat ->Bool):Nat:=((List.range n).filter on).length
def Mm (p:Prb):List Exc×(Nat ->Bool):=Fm (rosS p) (ordP p) (ordP p).length fun _=>true
def Ba (its:List AU) (on:Nat ->Bool) (k:Nat):List Int:=((List.range k).filter on).map fun i=>(its.getD i itm0).id
theorem Km {n i:Nat} (hi:i<n) {on:Nat ->Bool} (ho:on i=true):LN n (Ax on i)+1=LN n on:=by
 obtain ⟨B,h1,h3⟩:=KY hi;unfold LN;rw [h1,List.filter_append,List.filter_append,List.length_append,List.length_append,List.filter_cons,List.filter_cons,Hn,ho];have e1:(List.range i).filter (Ax on i)=(List.range i).filter on:=List.filter_congr fun j hj=>D0 (by have:=List.mem_range.1 hj;omega);have e2:B.filter (Ax on i)=B.filter on:=List.filter_congr fun j hj=>D0 (by have:=h3 j hj;omega);rw [e1,e2]
 simp
 omega
theorem Ka {α:Type} [BEq α] [LawfulBEq α] {l:List α} (hn:l.Nodup) {i:Nat} (hi:i<l.length):l.idxOf l[i]=i:=by
 have h1:l.idxOf l[i]<l.length:=List.idxOf_lt_length_of_mem (List.getElem_mem hi);have h2:=List.getElem_idxOf h1;exact (List.getElem_inj hn).1 h2
theorem Ly {ros:List Roo} {its:List AU} {f:Nat} {on:Nat ->Bool} (h:C9 (netS ros its on)=none):Fm ros its f on=([],on):=by
 cases f with
 | zero=>rfl
 | succ f=>unfold Fm;rw [h]
theorem Lx {ros:List Roo} {its:List AU} {f:Nat} {on:Nat ->Bool} {e:Exc} (h:C9 (netS ros its on)=some e):Fm ros its (f+1) on=(e::(Fm ros its f (Ax on ((its.map AU.id).idxOf e.id))).1,(Fm ros its f (Ax on ((its.map AU.id).idxOf e.id))).2):=by
 show (match C9 (netS ros its on) with | none=>_ | some e=>_)=_;rw [h]
theorem Pn {ros:List Roo} {its:List AU} {on:Nat ->Bool} {N:Net} (h:BI N=netS ros its on) {i:Nat} {x:Nd} (hx:N.nd[i]?=some x):i<its.length∧x.on=on i∧x.it=its.getD i itm0:=by
 have h1:(N.nd.map GB)[i]?=some (GB x):=by rw [List.getElem?_map,hx];rfl
 rw [show N.nd.map GB=(List.range its.length).map (Pr (ros.map Roo.r) its on) from congrArg Net.nd h] at h1;have hi:i<its.length:=by have:=(List.getElem?_eq_some_iff.1 h1).1;simpa using this
 rw [List.getElem?_map,List.getElem?_range hi] at h1;have h2:GB x=Pr (ros.map Roo.r) its on i:=(Option.some.inj h1).symm;exact ⟨hi,congrArg Nd.on h2,congrArg Nd.it h2⟩
theorem MM (its:List AU) (on:Nat ->Bool) (k:Nat):Ba its on (k+1)=Ba its on k++if on k=true then [(its.getD k itm0).id] else []:=by
 unfold Ba;rw [List.range_succ,List.filter_append,List.map_append,OX]
 split<;>rfl
theorem VC (its:List AU) (on:Nat ->Bool) (k:Nat):(Ba its on k).length≤k:=by
 unfold Ba;rw [List.length_map];exact Nat.le_trans (List.length_filter_le _ _) (by simp)
theorem S_len {ros:List Roo} {its:List AU} {on:Nat ->Bool} {N:Net} (h:BI N=netS ros its on):N.nd.length=its.length:=by
 have h1:=congrArg (fun N=>N.nd.length) h;have h2:(N.nd.map GB).length=((List.range its.length).map _).length:=h1
 rwa [List.length_map,List.length_map,List.length_range] at h2
theorem sml_P {p:Prb} (hf:Gu p) (hE:Ab p=0):SmO (rosS p) (ordP p):=by
 refine ⟨Nat.le_trans (Ey p) hf.i,fun x hx=>hf.x x (HJ hx),PN hE,fun x hx id hid=>?_,MA hE,fun x hx=>?_,?_⟩
 ·have h1:ordP p=sortO p.it:=if_pos hE;have h2:Sp (p.it.map AU.id) x=0:=Jm (N8 hE).2.2 _ (List.mem_map.2 ⟨x,HJ hx,rfl⟩)
  have h3:id∈p.it.map AU.id:=by
   unfold Sp at h2
   split at h2
   ·cases h2
   ·rename_i h4
    by_cases h5:id∈p.it.map AU.id
    ·exact h5
    ·exact absurd (List.any_eq_true.2 ⟨id,hid,by unfold Jd;simpa using h5⟩) h4
  rw [h1];exact ((TD p.it).map AU.id).mem_iff.2 h3
 ·have h1:x∈p.ro:=by
   obtain ⟨i,hi,rfl⟩:=List.mem_map.1 hx;have hi':=List.mem_range.1 ((Vm (p.ro.map Roo.r)).mem_iff.1 hi);rw [Bh DH (by simpa using hi')];exact List.getElem_mem _
  exact Ns (N8 hE).1 x h1
 ·unfold rosS;rw [List.length_map,(Vm _).length_eq,List.length_range,List.length_map];exact hf.r
theorem RO (p:Prb) (hf:Gu p) (hE:Ab p≠0):AT Tryz.prog 28 [.d (CT p)] (.tup [.sl (some true) [],.sl (some true) [],AF (Ab p)]):=by
 have hbu:=Va p hf hE;refine B6 Tryz.func28 Z Z Tryz.ntmps28 Z Z Z fun F hF=>(AG ?_);refine AJ (G (CV 1 Z Z Z Z Z Z Z) (AD Z Z (AD Z Z (AD Z Z (AI (UW (AG (AJ ?_))))))))
 first | refine J (At Z Z A2 rfl) ?_ | refine J (Au Z Z A2 Z Z Z) ?_ | refine J (Av Z Z (rfl) rfl A2 rfl) ?_
 refine G (IL hbu rfl [] trivial Z Z Z Z Z Z Z Z Z) (AC Z Z ?_)
 first | refine J (BU Z Z Z) ?_ | refine J (BV Z Z Z) ?_
 first | refine J (BU Z Z Z) ?_ | refine J (BV Z Z Z) ?_
 refine AD Z Z (AD Z Z (AI (AG (AG (AJ (AC Z Z ?_))))))
 first | refine J (Ec Z Z Z) ?_ | refine J (Eb Z Z Z) ?_ | refine J (EV Z Z Z) ?_ | refine J (E8 Tryz.underlying34 Z Z Z) ?_ | refine J (Ea Tryz.underlying34 Z Z Z) ?_ | refine J (st_neqN Tryz.underlying34 Z Z) ?_ | refine J (E9 Tryz.underlying34 Z Z Z) ?_ | refine J (st_neqFN Tryz.underlying34 Z Z) ?_
 refine AI ?_;refine EL rfl ((by simpa using hE)) (AG (AJ (AC Z Z (AD Z Z (AD Z Z (AD Z Z (AI (Af ?_))))))));exact ⟨_,[],[],Ae rfl,rfl,rfl,rfl,rfl⟩
set_option maxHeartbeats 1000000 in
theorem Sq (p:Prb) (hf:Gu p) (hE:Ab p=0):AT Tryz.prog 28 [.d (CT p)] (.tup [.sl none ((Ba (ordP p) (Mm p).2 (ordP p).length).map AF),.sl none ((Mm p).1.map Xs),AF 0]):=by
 have hbu:=YG p hf hE;have hsm:=sml_P hf hE;unfold Mm;rw [netP_S] at hbu
 obtain ⟨its,hits⟩:∃its,ordP p=its:=⟨_,rfl⟩
 obtain ⟨ros,hros⟩:∃ros,rosS p=ros:=⟨_,rfl⟩
 rw [hits,hros] at hbu hsm⊢;have hl:=hsm.l;refine B6 Tryz.func28 Z Z Tryz.ntmps28 Z Z Z fun F hF=>(AG ?_);refine AJ (G (CV 1 Z Z Z Z Z Z Z) (AD Z Z (AD Z Z (AD Z Z (AI (UW (AG (AJ ?_))))))))
 first | refine J (At Z Z A2 rfl) ?_ | refine J (Au Z Z A2 Z Z Z) ?_ | refine J (Av Z Z (rfl) rfl A2 rfl) ?_
 refine PP (Lt hbu rfl [40,50,51] ⟨rfl,rfl,rfl,trivial⟩ Z Z Z Z (fun r H' ⟨_,_,_,_,_,_,_,e1,e2,_⟩=>by subst e1 e2;exact ⟨rfl,rfl,rfl⟩) rfl) rfl ?_;rintro _ ⟨r,H',⟨wb,mv,nb,pb,N,M,bs,rfl,rfl,hR,hN⟩,rfl⟩;refine AC Z Z ?_
 first | refine J (BU Z Z Z) ?_ | refine J (BV Z Z Z) ?_
 first | refine J (BU Z Z Z) ?_ | refine J (BV Z Z Z) ?_
 refine AD Z Z (AD Z Z (AI (AG (AG (AJ (AC Z Z ?_))))))
 first | refine J (Ec Z Z Z) ?_ | refine J (Eb Z Z Z) ?_ | refine J (EV Z Z Z) ?_ | refine J (E8 Tryz.underlying34 Z Z Z) ?_ | refine J (Ea Tryz.underlying34 Z Z Z) ?_ | refine J (st_neqN Tryz.underlying34 Z Z) ?_ | refine J (E9 Tryz.underlying34 Z Z Z) ?_ | refine J (st_neqFN Tryz.underlying34 Z Z) ?_
 refine AI (F4 rfl (rfl) (An (AG ?_)));have hids:DR N=its.map AU.id:=by rw [←Jq,hN,Rg]
 rw [hids];refine AJ (AD Z Z (AI (AG (a_label (AG (Aw (Du 7 900 sl85 Z Z Z Z (EN (α:=(Nat ->Bool)×Net×MF×List Exc×Nat) (fun q=>⟨64,[(5,(.d (pD wb 0))),(7,(.own 900 0 q.2.2.2.1.length))],(900,[.rowD 148 9 (q.2.2.2.1.map Xs)])::HW mv bs (L0 nb (its.map AU.id)) q.2.2.1⟩) (fun q=>Cm wb mv nb pb q.2.1 q.2.2.1∧BI q.2.1=netS ros its q.1∧LN its.length q.1≤q.2.2.2.2∧q.2.2.2.1.length+q.2.2.2.2≤its.length∧q.2.2.2.1++(Fm ros its q.2.2.2.2 q.1).1=(Fm ros its its.length fun _=>true).1∧(Fm ros its q.2.2.2.2 q.1).2=(Fm ros its its.length fun _=>true).2) (fun q=>q.2.2.2.2) ((fun _=>true,N,M,[],its.length)) (⟨hR,hN,by show ((List.range its.length).filter _).length≤_;exact Nat.le_trans (List.length_filter_le _ _) (by simp),by simp,rfl,rfl⟩) (BS hF [900,40,50,51] Z Z ⟨rfl,rfl,trivial⟩) ?_))))))));rintro ⟨on,N,M,acc,f⟩ ⟨hR,hN,hc,hal,hr1,hr2⟩;dsimp only at hR hN hc hal hr1 hr2⊢;refine Aw (AG ?_);have hw:=W_ers (N:=N) (by rw [hN];exact S_w hsm on);have hsb:=S_sumB hsm hN;have hids:DR N=its.map AU.id:=by rw [←Jq,hN,Rg]
 have hnx:=next_c bs hR hw hsb;rw [hids] at hnx;refine AJ (AC Z Z (G (IL hnx rfl [40,50,51] ⟨rfl,rfl,rfl,trivial⟩ Z Z Z Z Z Z Z Z Z) (AC Z Z ?_)))
 cases hne:C9 N
 ·first | refine J (BU Z Z Z) ?_ | refine J (BV Z Z Z) ?_
  first | refine J (BU Z Z Z) ?_ | refine J (BV Z Z Z) ?_
  refine G (DT 2 IM Z Z Z Z) (G (CC Z Z Z Z Z Z Z JQ) (AD Z Z (AI (AG (AG (AJ (AC Z Z ?_)))))))
  first | refine J (G9 Z Z) ?_ | refine J (GJ Z Z) ?_
  refine AI (EL rfl (rfl) (Ct (AG ?_)));have hro:Fm ros its f on=([],on):=Ly (by rw [←hN,Qg,hne]);rw [hro] at hr1 hr2;rw [List.append_nil] at hr1;dsimp only at hr2;have hwb:=hR.w;have hnr:BW M N.nh pnT 1 ((List.range N.nd.length).map fun i=>BQ (nb i)):=hR.rs.1 .n;have hnz:=Vq hnr;rw [List.length_range] at hnz;have hNl:=S_len hN;refine AJ (AD Z Z (AI (AG (AG (AJ (AC Z Z ?_))))))
  first | refine J (B1 Z Z) ?_ | refine J (BY Z Z) ?_ | refine J (B2 Z Z) ?_ | refine J (BZ Z Z) ?_
  first | refine J (AO rfl JI Z Z Z) ?_ | refine J (AQ rfl JI Z Z Z) ?_ | refine J (AR rfl JI Z Z Z) ?_ | refine J (AP rfl JI Z Z Z) ?_ | refine J (AN rfl JI Z Z Z) ?_
  refine J (He (f:=40) Z Z (hwb) rfl IH rfl) (J (DO hnz rfl Tryz.underlying98 rfl) (AC Z Z (AI (Aw (Du 10 901 CS Z Z Z Z (EN (α:=Nat×List Int) (fun q=>⟨64,[(7,(.own 900 0 acc.length)),(10,(.own 901 0 q.2.length)),(43,(.d (hdr N.nh N.nd.length))),(44,(.d (AF (N.nd.length:Int)))),(45,(.d (AF (q.1:Int))))],(901,[.rowD 3 1 (q.2.map AF)])::(900,[.rowD 148 9 (acc.map Xs)])::HW mv bs (L0 nb (its.map AU.id)) M⟩) (fun q=>q.1≤N.nd.length∧q.2=Ba its on q.1) (fun q=>N.nd.length - q.1) ((0,[])) (⟨Nat.zero_le _,rfl⟩) (BS hF [901,900,40,50,51] Z Z ⟨rfl,rfl,rfl,rfl,rfl,trivial⟩) ?_))))));rintro ⟨k,ids⟩ ⟨hk0,hI⟩;dsimp only at hk0 hI⊢;refine AG (AJ ?_)
  first | refine J (Cc Z Z Z) ?_ | refine J (Cb Z Z Z) ?_
  refine AI (AG ?_)
  first | refine BP rfl (fun h46=>?_) (fun h46=>?_) | refine BK rfl (fun h46=>?_) (fun h46=>?_)
  ·have hk1:k<N.nd.length:=EF h46;refine An (AG (Aw (AG ?_)))
   obtain ⟨x,hx⟩:∃x,N.nd[k]?=some x:=⟨_,List.getElem?_eq_getElem hk1⟩
   obtain ⟨hiN,hoi,hit⟩:=Pn hN hx;have hxb:=hR.n k x hx;obtain ⟨rb,rc,hre⟩:=ZcX hnr (j:=k) (by rw [List.length_range];exact hk1);have hrow:=Vp hnr hre;have hidl:ids.length≤k:=by rw [hI];exact VC its on k
   refine AJ (J (Zc0 hre (k) Z Z Z hk1 Tryz.underlying98 WF rfl) (J (Eh (f:=40) (e:=k) (off:=0) rfl (by omega) rfl (hrow) ((by rw [List.getElem?_map,List.getElem?_range hk1];rfl)) rfl on99 rfl) ?_));refine AD Z Z (AI (AG (AJ (AC Z Z ?_))))
   first | refine J (B1 Z Z) ?_ | refine J (BY Z Z) ?_ | refine J (B2 Z Z) ?_ | refine J (BZ Z Z) ?_
   first | refine J (AO rfl L6 Z Z Z) ?_ | refine J (AQ rfl L6 Z Z Z) ?_ | refine J (AR rfl L6 Z Z Z) ?_ | refine J (AP rfl L6 Z Z Z) ?_ | refine J (AN rfl L6 Z Z Z) ?_
   refine J (He (f:=40) Z Z (hxb) rfl on4 rfl) (AI ?_)
   first | refine BP rfl (fun h52=>?_) (fun h52=>?_) | refine BK rfl (fun h52=>?_) (fun h52=>?_)
   ·refine AJ (AC Z Z (AC Z Z ?_))
    first | refine J (B1 Z Z) ?_ | refine J (BY Z Z) ?_ | refine J (B2 Z Z) ?_ | refine J (BZ Z Z) ?_
    first | refine J (AO rfl FK Z Z Z) ?_ | refine J (AQ rfl FK Z Z Z) ?_ | refine J (AR rfl FK Z Z Z) ?_ | refine J (AP rfl FK Z Z Z) ?_ | refine J (AN rfl FK Z Z Z) ?_
    first | refine J (AO rfl Bq Z Z Z) ?_ | refine J (AQ rfl Bq Z Z Z) ?_ | refine J (AR rfl Bq Z Z Z) ?_ | refine J (AP rfl Bq Z Z Z) ?_ | refine J (AN rfl Bq Z Z Z) ?_
    refine J (He (f:=40) Z Z (hxb) rfl Aa rfl) (G (Fg 3 CS Z Z Z Z Z Z Z Z) ?_)
    first | refine G (IX (ids) ([x.it.id]) Z Z Z Z Z Z Z Z CS (by simp only [List.length_singleton];omega) Z Z Z Z) ?_ | refine G (Kp (ids) ([x.it.id]) Z Z Z Z Z Z (fun _=>rfl) CS (by simp only [List.length_singleton];omega) Z Z Z Z) ?_
    refine AD Z Z (AI (AJ (J (By Z Z (Ad (k+1) (by omega)) rfl) (AC Z Z (AI ?_)))));exact ⟨(k+1,_),⟨by show k+1≤_;omega,by show _=Ba its on (k+1);rw [MM,if_pos (by rw [←hoi];simpa using h52),←hI,←hit]⟩,by show N.nd.length - (k+1)<N.nd.length - k;omega,BS hF [901,900,40,50,51] rfl (rfl) ⟨rfl,rfl,rfl,rfl,rfl,trivial⟩⟩
   ·refine An (AJ (J (By Z Z (Ad (k+1) (by omega)) rfl) (AC Z Z (AI ?_))));exact ⟨(k+1,_),⟨by show k+1≤_;omega,by show _=Ba its on (k+1);rw [MM,if_neg (by rw [←hoi];simpa using h52),List.append_nil,←hI]⟩,by show N.nd.length - (k+1)<N.nd.length - k;omega,BS hF [901,900,40,50,51] rfl (rfl) ⟨rfl,rfl,rfl,rfl,rfl,trivial⟩⟩
  ·refine Ct (AG ?_);have hke:k=its.length:=by have h:=h46;omega
   refine Vn (emb:=Xs) 7 900 acc Z Z Z Z Z Z Z ?_;refine Vn (emb:=AF) 10 901 ids Z Z Z Z Z Z Z (AJ (AC Z Z (AC Z Z (AD Z Z (AD Z Z (AD Z Z (AI (Af ?_))))))));exact ⟨_,[],[],Ae rfl,rfl,rfl,by rw [←hr2,←hr1,hI,hke],rfl⟩
 ·first | refine J (BU Z Z Z) ?_ | refine J (BV Z Z Z) ?_
  first | refine J (BU Z Z Z) ?_ | refine J (BV Z Z Z) ?_
  refine G (DT 4 IM Z Z Z Z) (G (CC Z Z Z Z Z Z Z JQ) (AD Z Z (AI (AG (AG (AJ (AC Z Z ?_)))))))
  first | refine J (G9 Z Z) ?_ | refine J (GJ Z Z) ?_
  refine AI (F4 rfl (rfl) (An (AG ?_)))
  rename_i e
  obtain ⟨i,x,hx,hon,hid⟩:=Tr hne;obtain ⟨hiN,hoi,hit⟩:=Pn hN hx;rw [hon] at hoi;have hoi:=hoi.symm;have hil:i<(its.map AU.id).length:=by rw [List.length_map];exact hiN
  have hei:(its.map AU.id)[i]=e.id:=by rw [hid,hit,List.getElem_map,Bh itm0 hiN]
  have hby:=UL (nb:=nb) hsm.i hil;rw [hei] at hby;have hcn:=Km hiN hoi
  obtain ⟨f2,rfl⟩:∃f2,f=f2+1:=⟨f - 1,by omega⟩
  have hrs:Fm ros its (f2+1) on=(e::(Fm ros its f2 (Ax on i)).1,(Fm ros its f2 (Ax on i)).2):=by rw [Lx (by rw [←hN,Qg,hne]),←hei,Ka hsm.i hil]
  have hxm:=List.mem_of_getElem? hx;have hrm:=Wg hR hx hsb (hw.e x hxm) (hw.l x hxm).1 (hw.l x hxm).2.1 (fun e he=>(hw.p x hxm e he).2) hw.m;refine Gs [[],[0],[0,1],[0,1,2],[],[4],[0,1,2,3,4,5],[0,1,2,3,4,5,6]] BF rfl (IK ?_)
  first | refine AE [5] [] Z Z (fun _=>AB (Bb Z Z)) ?_ | refine AH [5] Z Z (fun _=>AB (Bb Z Z)) ?_
  first | refine AE [28] [] Z Z (fun _=>AB (B1 Z Z)) ?_ | refine AH [28] Z Z (fun _=>AB (B1 Z Z)) ?_ | refine AE [28] [] Z Z (fun _=>AB (BY Z Z)) ?_ | refine AH [28] Z Z (fun _=>AB (BY Z Z)) ?_ | refine AE [28] [] Z Z (fun _=>AB (B2 Z Z)) ?_ | refine AH [28] Z Z (fun _=>AB (B2 Z Z)) ?_ | refine AE [28] [] Z Z (fun _=>AB (BZ Z Z)) ?_ | refine AH [28] Z Z (fun _=>AB (BZ Z Z)) ?_
  first | refine AE [29] [] Z Z (fun _=>AB (AO rfl L4 Z Z Z)) ?_ | refine AH [29] Z Z (fun _=>AB (AO rfl L4 Z Z Z)) ?_ | refine AE [29] [] Z Z (fun _=>AB (AQ rfl L4 Z Z Z)) ?_ | refine AH [29] Z Z (fun _=>AB (AQ rfl L4 Z Z Z)) ?_ | refine AE [29] [] Z Z (fun _=>AB (AR rfl L4 Z Z Z)) ?_ | refine AH [29] Z Z (fun _=>AB (AR rfl L4 Z Z Z)) ?_ | refine AE [29] [] Z Z (fun _=>AB (AP rfl L4 Z Z Z)) ?_ | refine AH [29] Z Z (fun _=>AB (AP rfl L4 Z Z Z)) ?_ | refine AE [29] [] Z Z (fun _=>AB (AN rfl L4 Z Z Z)) ?_ | refine AH [29] Z Z (fun _=>AB (AN rfl L4 Z Z Z)) ?_
  refine AE [30] [40] Z Z (fun _=>AB (He (f:=40) Z Z (hR.w) rfl XC rfl)) ?_
  first | refine AE [8] [] Z Z (fun _=>AB (AO rfl Dp Z Z Z)) ?_ | refine AH [8] Z Z (fun _=>AB (AO rfl Dp Z Z Z)) ?_ | refine AE [8] [] Z Z (fun _=>AB (AQ rfl Dp Z Z Z)) ?_ | refine AH [8] Z Z (fun _=>AB (AQ rfl Dp Z Z Z)) ?_ | refine AE [8] [] Z Z (fun _=>AB (AR rfl Dp Z Z Z)) ?_ | refine AH [8] Z Z (fun _=>AB (AR rfl Dp Z Z Z)) ?_ | refine AE [8] [] Z Z (fun _=>AB (AP rfl Dp Z Z Z)) ?_ | refine AH [8] Z Z (fun _=>AB (AP rfl Dp Z Z Z)) ?_ | refine AE [8] [] Z Z (fun _=>AB (AN rfl Dp Z Z Z)) ?_ | refine AH [8] Z Z (fun _=>AB (AN rfl Dp Z Z Z)) ?_
  first | refine AE [32] [4] Z Z (fun _=>AB (A0 Z Z Aa rfl)) ?_ | refine AE [32] [4] Z Z (fun _=>AB (AX Z Z Z Aa rfl)) ?_ | refine AE [32] [4] Z Z (fun _=>AB (AZ Z Z (rfl) rfl Aa rfl)) ?_
  refine Gf 6 Z Z Z (BE 7 Z Z (Ft 31 51 0 Z Z (J (LT (L0 nb (its.map AU.id)) e.id (.pointer none) (pV (nb i) 0) Z Z Z XV KI za99 hby rfl) (AI ⟨rfl,?_⟩))));refine BE 8 Z Z ?_;refine PP (Lt hrm rfl [40] ⟨rfl,trivial⟩ Z Z Z Z (fun r H' ⟨e1,M',e2,_⟩=>by subst e1 e2;exact ⟨rfl,rfl,rfl⟩) rfl) rfl ?_;rintro _ ⟨r,H',⟨rfl,M2,rfl,hR2⟩,rfl⟩;refine AI ⟨rfl,?_⟩;refine Ge (AJ (AC Z Z ?_))
  first | refine J (At Z Z Nn rfl) ?_ | refine J (Au Z Z Nn Z Z Z) ?_ | refine J (Av Z Z (rfl) rfl Nn rfl) ?_
  refine G (Fg 5 sl85 Z Z Z Z Z Z Z Z) ?_
  first | refine G (IX (acc) ([e]) Z Z Z Z Z Z Z Z sl85 (by simp only [List.length_singleton];omega) Z Z Z Z) ?_ | refine G (Kp (acc) ([e]) Z Z Z Z Z Z (fun _=>rfl) sl85 (by simp only [List.length_singleton];omega) Z Z Z Z) ?_
  refine AD Z Z (AI ?_);exact ⟨(Ax on i,rmN N i x,M2,acc++ [e],f2),⟨hR2,rm_S hsm.r hN hiN hoi hx,by show LN its.length (Ax on i)≤f2;omega,by show (acc++ [e]).length+f2≤_;rw [List.length_append];simp;omega,by show (acc++ [e])++(Fm ros its f2 (Ax on i)).1=_;rw [List.append_assoc,←hr1,hrs];rfl,by show (Fm ros its f2 (Ax on i)).2=_;rw [←hr2,hrs]⟩,by show f2<f2+1;omega,BS hF [900,40,50,51] rfl (rfl) ⟨rfl,rfl,trivial⟩⟩
theorem Oz (rs:List A5):(Fk rs).Pairwise fun a b=>¬Ix rs b a<0:=by
 have:=List.pairwise_mergeSort (le:=fun i j=>decide (Ix rs i j≤0)) (fun a b c h1 h2=>?_) (fun a b=>?_) (List.range rs.length)
 ·refine List.Pairwise.imp (fun {a b} h=>?_) this;have h1:=(Oe rs).anti a b;have h2:Ix rs a b≤0:=by simpa using h
  omega
 ·have h1':Ix rs a b≤0:=by simpa using h1
  have h2':Ix rs b c≤0:=by simpa using h2
  have:Ix rs a c≤0:=by
   by_cases e1:Ix rs a b=0
   ·rw [(Oe rs).eqv a b c e1];exact h2'
   ·by_cases e2:Ix rs b c=0
    ·have a1:=(Oe rs).anti b c;have e3:=(Oe rs).eqv c b a (by omega);have a2:=(Oe rs).anti a c;have a3:=(Oe rs).anti a b;omega
    ·have:=(Oe rs).trans a b c (by omega) (by omega);omega
  simpa using this
 ·have h1:=(Oe rs).anti a b
  by_cases h:Ix rs a b≤0
  ·simp [h]
  ·have:Ix rs b a≤0:=by omega
   simp [this]
theorem Fo (p:Prb):(rosS p).Perm p.ro:=by
 unfold rosS;refine ((Vm (p.ro.map Roo.r)).map _).trans (List.Perm.of_eq ?_);rw [List.length_map]
 apply List.ext_getElem (by simp)
 intro i h1 h2;simp only [List.getElem_map,List.getElem_range];exact Bh DH (by simpa using h2)
theorem QQ (p:Prb):(rosS p).Pairwise fun a b=>¬Bv b.r a.r<0:=by
 unfold rosS;rw [List.pairwise_map];refine List.Pairwise.imp_of_mem (fun {a b} ha hb h=>?_) (Oz (p.ro.map Roo.r));have ha':=List.mem_range.1 ((Vm (p.ro.map Roo.r)).mem_iff.1 ha);have hb':=List.mem_range.1 ((Vm (p.ro.map Roo.r)).mem_iff.1 hb);unfold Ix at h;rw [La (by simpa using hb'),La (by simpa using ha')] at h;exact h
theorem Qt (p:Prb) (hf:Gu p) (hE:Ab p≠0):AT Tryz.prog 11 [.d (CT p)] (.tup [.sl (some true) [],AF (Ab p)]):=by
 have hx:=RO p hf hE;refine B6 Tryz.func11 Z Z Tryz.ntmps11 Z Z Z fun F hF=>(AG (AJ (G (CV 1 Z Z Z Z Z Z Z) (AD Z Z (AD Z Z (AI (AG (AJ ?_))))))))
 first | refine J (At Z Z A2 rfl) ?_ | refine J (Au Z Z A2 Z Z Z) ?_ | refine J (Av Z Z (rfl) rfl A2 rfl) ?_
 refine J (BO (hx) Z Z) (AC Z Z ?_)
 first | refine J (BU Z Z Z) ?_ | refine J (BV Z Z Z) ?_
 first | refine J (BU Z Z Z) ?_ | refine J (BV Z Z Z) ?_
 first | refine J (BU Z Z Z) ?_ | refine J (BV Z Z Z) ?_
 refine AD Z Z (AD Z Z (AD Z Z ?_));refine AI (AG (AJ (AC Z Z (AC Z Z (AD Z Z (AD Z Z (AI (Af ?_))))))));exact ⟨_,[],[],Ae rfl,rfl,rfl,rfl,rfl⟩
def largeS (p:Prb):List Int:=Ba (ordP p) (Mm p).2 (ordP p).length
theorem Se (p:Prb) (hf:Gu p) (hE:Ab p=0):AT Tryz.prog 11 [.d (CT p)] (.tup [.sl none ((largeS p).map AF),AF 0]):=by
 have hx:=Sq p hf hE;refine B6 Tryz.func11 Z Z Tryz.ntmps11 Z Z Z fun F hF=>(AG (AJ (G (CV 1 Z Z Z Z Z Z Z) (AD Z Z (AD Z Z (AI (AG (AJ ?_))))))))
 first | refine J (At Z Z A2 rfl) ?_ | refine J (Au Z Z A2 Z Z Z) ?_ | refine J (Av Z Z (rfl) rfl A2 rfl) ?_
 refine J (BO (hx) Z Z) (AC Z Z ?_)
 first | refine J (BU Z Z Z) ?_ | refine J (BV Z Z Z) ?_
 first | refine J (BU Z Z Z) ?_ | refine J (BV Z Z Z) ?_
 first | refine J (BU Z Z Z) ?_ | refine J (BV Z Z Z) ?_
 refine AD Z Z (AD Z Z (AD Z Z ?_));refine AI (AG (AJ (AC Z Z (AC Z Z (AD Z Z (AD Z Z (AI (Af ?_))))))));exact ⟨_,[],[],Ae rfl,rfl,rfl,rfl,rfl⟩
def Om (l:List Int) (x:Int):List Int:=l.filter fun y=>decide (y≠x)
def HI (its:List AU) (x:Roo) (l:List Int):Int:=max x.n 0+((its.filter fun i=>decide (i.id∈l)).map fun i=>CO i x.r).sum
def blkR (its:List AU) (l:List Int) (id:Int) (x:Roo):Option Exc:=if id∈qIds its x.r then (((qIds its x.r).takeWhile fun a=>decide (a≠id)).find? fun a=>decide (a∉l)).map fun a=>⟨id,1,x.r,a⟩ else none
def CZ (p:Prb) (l:List Int) (id:Int):Option Exc:=match (rosS p).findSome? (blkR (sortO p.it) l id) with
 | some e=>some e
 | none=>((Ap p id).af.find? fun a=>decide (a∉l)).map fun a=>⟨id,2,DU,a⟩
theorem Oo {α:Type} {p:α ->Bool}:∀{l:List α} {m:Nat} (hm:m<l.length),(∀a∈l.take m,p a=true) ->p l[m]=false ->l.takeWhile p=l.take m
 | a::l,0,_,_,h=>by simp at h;simp [h]
 | a::l,m+1,hm,h0,h=>by
  have h1:p a=true:=h0 a (by simp);have ih:=Oo (l:=l) (m:=m) (by simpa using hm) (fun x hx=>h0 x (by simp [hx])) (by simpa using h);rw [List.takeWhile_cons,h1,List.take_succ_cons,←ih];rfl
def OE (its its0:List AU) (l:List Int) (x:Roo):Option Exc:=if HI its0 x l<0 then ((qIds its x.r).reverse.find? fun a=>decide (a∈l)).map fun a=>⟨a,0,x.r,-1⟩ else none
def MR (p:Prb) (l:List Int):Option Exc:=match l.findSome? (CZ p l) with
 | some e=>some e
 | none=>(rosS p).findSome? (OE (sortO p.it) p.it l)
theorem Ve {p:Prb} {l:List Int} {id:Int} {e:Exc} (h:CZ p l id=some e):e.id=id:=by
 unfold CZ at h
 split at h
 ·rename_i e' h1
  injection h with h;subst h
  obtain ⟨x,_,h2⟩:=List.exists_of_findSome?_eq_some h1;unfold blkR at h2
  split at h2
  ·obtain ⟨a,_,rfl⟩:=Option.map_eq_some_iff.1 h2;rfl
  ·cases h2
 ·obtain ⟨a,_,rfl⟩:=Option.map_eq_some_iff.1 h;rfl
theorem G3 {α:Type} {p q:α ->Bool}:∀{l:List α},(∀x∈l,p x=q x) ->l.find? p=l.find? q
 | [],_=>rfl
 | a::l,h=>by
  rw [List.find?_cons,List.find?_cons,h a (List.mem_cons_self ..),G3 fun x hx=>h x (List.mem_cons_of_mem _ hx)]
theorem Jn {α β:Type} {f g:α ->Option β}:∀{l:List α},(∀x∈l,f x=g x) ->l.findSome? f=l.findSome? g
 | [],_=>rfl
 | a::l,h=>by
  rw [List.findSome?_cons,List.findSome?_cons,h a (List.mem_cons_self ..),Jn fun x hx=>h x (List.mem_cons_of_mem _ hx)]
theorem Ke {α β:Type} {f:α ->Option β} {p:α ->Bool}:∀{l:List α},(∀x∈l,p x=false ->f x=none) ->(l.filter p).findSome? f=l.findSome? f
 | [],_=>rfl
 | a::l,h=>by
  have ih:=Ke (f:=f) (p:=p) (l:=l) fun x hx=>h x (List.mem_cons_of_mem _ hx);rw [List.filter_cons]
  cases hp:p a with
  | true=>rw [if_pos rfl,List.findSome?_cons,List.findSome?_cons,ih]
  | false=>rw [if_neg (by simp),ih,List.findSome?_cons,h a (List.mem_cons_self ..) hp]
theorem LH {α β γ:Type} {g:α ->β} {p:β ->Bool} {h:β ->γ}:∀{l:List α},((l.map g).find? p).map h=l.findSome? fun x=>if p (g x)=true then some (h (g x)) else none
 | []=>rfl
 | a::l=>by
  rw [List.map_cons,List.find?_cons,List.findSome?_cons]
  cases hp:p (g a) with
  | true=>rw [if_pos rfl];rfl
  | false=>rw [if_neg (by simp),←LH (l:=l)]
theorem US {x:AU} (h:B9 x=0) {r:A5} (hr:B7 r=0):Cw (dltS x) r=CO x r:=by
 have h1:dltS x=Kj (ctr x):=if_pos h;have h2:CO x r=B8 (ctr x) r:=if_pos ⟨h,hr⟩;rw [h1,h2]
 by_cases h0:B8 (ctr x) r=0
 ·rw [h0];refine FC fun hm=>?_;obtain ⟨d,hd,e⟩:=List.mem_map.1 hm;obtain ⟨h3,h4⟩:=(H3 _ _).1 hd;have h5:=(Gz (ctr x) d.1 d.2).1 h3;rw [e,h0] at h5;exact h4 h5.2
 ·refine Zc3 (by rw [←h1];exact DB x) ((H3 _ _).2 ⟨(Gz _ _ _).2 ⟨?_,rfl⟩,h0⟩)
  by_cases hm:r∈(ctr x).map Prod.fst
  ·exact hm
  ·exact absurd (LM hm) h0
theorem NS {l:List Roo} (h:EH l=0):∀x∈l,B7 x.r=0:=fun x hx=>by
 have h0:=YU.1 h;obtain ⟨j,hj,rfl⟩:=List.getElem_of_mem hx;have:=h0 j (List.mem_range.2 hj);unfold NT at this;rw [Bh DH hj] at this
 split at this
 ·contradiction
 ·rename_i hv
  exact Classical.byContradiction fun h=>hv h
theorem NX {l:List AU} (h:GZ l=0):∀x∈l,B9 x=0:=fun x hx=>by
 have h0:=YU.1 h;obtain ⟨j,hj,rfl⟩:=List.getElem_of_mem hx;have:=h0 j (List.mem_range.2 hj);unfold P3 at this;rw [Bh itm0 hj] at this
 split at this
 ·contradiction
 ·rename_i hv
  exact Classical.byContradiction fun h=>hv h
theorem q_ids {its:List AU} (hv:∀x∈its,B9 x=0) {r:A5} (hr:B7 r=0):qIds its r=(negQ (its.map dltS) r).map fun i=>(its.getD i itm0).id:=by
 unfold qIds negQ
 have e:its=(List.range its.length).map fun i=>its.getD i itm0:=by
  apply List.ext_getElem (by simp)
  intro i h1 h2;simp only [List.getElem_map,List.getElem_range];rw [Bh itm0 h1]
 conv=>lhs;rw [e]
 rw [List.filter_map,List.map_map,List.length_map]
 congr 1
 refine List.filter_congr fun i hi=>?_;have hi':=List.mem_range.1 hi;show decide (CO (its.getD i itm0) r<0)=_;rw [Bh [] (by simpa using hi'),List.getElem_map,Bh itm0 hi',US (hv _ (List.getElem_mem hi')) hr]
theorem PO {its:List AU} (hn:(its.map AU.id).Nodup) (on:Nat ->Bool) {i:Nat} (hi:i<its.length):(its.getD i itm0).id∈Ba its on its.length↔on i=true:=by
 unfold Ba;rw [List.mem_map]
 constructor
 ·rintro ⟨j,hj,e⟩;obtain ⟨h1,h2⟩:=List.mem_filter.1 hj;have hj':=List.mem_range.1 h1;rw [Bh itm0 hi,Bh itm0 hj'] at e
  have:j=i:=by
   have h3:(its.map AU.id)[j]'(by simpa using hj')=(its.map AU.id)[i]'(by simpa using hi):=by
    rw [List.getElem_map,List.getElem_map];exact e
   exact (List.getElem_inj hn).1 h3
  rw [←this];exact h2
 ·intro h;exact ⟨i,List.mem_filter.2 ⟨List.mem_range.2 hi,h⟩,rfl⟩
theorem psum {l m:List Int} (h:l.Perm m):l.sum=m.sum:=by
 induction h with
 | nil=>rfl
 | cons x _ ih=>rw [List.sum_cons,List.sum_cons,ih]
 | swap x y l=>simp only [List.sum_cons];omega
 | trans _ _ h1 h2=>rw [h1,h2]
theorem TT {α:Type} {p:α ->Bool} {f:α ->Int}:∀{l:List α},((l.filter p).map f).sum=(l.map fun i=>if p i=true then f i else 0).sum
 | []=>rfl
 | a::l=>by
  rw [List.filter_cons,List.map_cons,List.sum_cons,←TT (l:=l)]
  cases hp:p a with
  | true=>rw [if_pos rfl,if_pos rfl,List.map_cons,List.sum_cons]
  | false=>rw [if_neg (by simp),if_neg (by simp),Int.zero_add]
theorem Pp {ros:List Roo} {its:List AU} {on:Nat ->Bool} {i:Nat} (h:i<its.length):(netS ros its on).nd.getD i Bo=Pr (ros.map Roo.r) its on i:=by
 show ((List.range its.length).map _).getD i Bo=_;rw [Bh Bo (by simpa using h),List.getElem_map,List.getElem_range]
theorem PU {ds:List (List (A5×Int))} {r:A5} {i:Nat} (h:i∈negQ ds r):i<ds.length:=List.mem_range.1 (List.mem_filter.1 h).1
theorem K9 (its:List AU):its=(List.range its.length).map fun i=>its.getD i itm0:=by
 apply List.ext_getElem (by simp)
 intro i h1 h2;simp only [List.getElem_map,List.getElem_range];rw [Bh itm0 h1]
structure PVO (p:Prb) (ros:List Roo) (its:List AU):Prop where
 e:Ab p=0
 f:Gu p
 s:SmO ros its
 hr:rosS p=ros
 hi:sortO p.it=its
 v:∀x∈its,B9 x=0
 w:∀x∈ros,B7 x.r=0
 up:ros.Pairwise fun a b=>Bv a.r b.r<0
theorem pv_of {p:Prb} (hE:Ab p=0) (hf:Gu p):PVO p (rosS p) (sortO p.it):=by
 have h1:ordP p=sortO p.it:=if_pos hE;have hs:=sml_P hf hE;rw [h1] at hs;refine ⟨hE,hf,hs,rfl,rfl,fun x hx=>NX (N8 hE).2.1 x ((TD p.it).mem_iff.1 hx),fun x hx=>NS (N8 hE).1 x ((Fo p).mem_iff.1 hx),?_⟩;have hn:=hs.r;rw [List.Nodup,List.pairwise_map] at hn;refine ((QQ p).and hn).imp fun {a b} ⟨g1,g2⟩=>?_;have h1:=N7.anti a.r b.r;have h2:Bv a.r b.r≠0:=fun e=>g2 (Db.1 e);omega
theorem Wx {p:Prb} {ros:List Roo} {its:List AU} (h:PVO p ros its) (on:Nat ->Bool) {x:Roo} (hx:x∈ros):HI p.it x (Ba its on its.length)=max x.n 0+JS (its.map dltS) on x.r:=by
 unfold HI
 congr 1
 have hp:p.it.Perm its:=by rw [←h.hi];exact (TD p.it).symm
 rw [psum ((hp.filter _).map _)]
 obtain ⟨l,hl⟩:∃l,Ba its on its.length=l:=⟨_,rfl⟩
 rw [hl]
 have e:((its.filter fun i=>decide (i.id∈l)).map fun i=>CO i x.r).sum=((List.range its.length).map fun i=>if decide ((its.getD i itm0).id∈l)=true then CO (its.getD i itm0) x.r else 0).sum:=by
  conv=>lhs;rw [K9 its]
  rw [List.filter_map,List.map_map,TT];rfl
 have hlen:(its.map dltS).length=its.length:=by simp
 rw [e];unfold JS;rw [hlen]
 congr 1
 refine List.map_congr_left fun i hi=>?_;have hi':=List.mem_range.1 hi;have hon:=PO h.s.i on hi';rw [hl] at hon;have hv:=US (h.v (its.getD i itm0) (by rw [Bh itm0 hi'];exact List.getElem_mem hi')) (h.w x hx);have hg:(its.map dltS).getD i []=dltS (its.getD i itm0):=by rw [Bh [] (by simpa using hi'),Bh itm0 hi',List.getElem_map]
 rw [hg,hv]
 by_cases ho:on i=true
 ·rw [if_pos ho,if_pos (decide_eq_true (hon.2 ho))]
 ·rw [if_neg ho,if_neg (by simpa using fun h=>ho (hon.1 h))]
theorem over_eq {p:Prb} {ros:List Roo} {its:List AU} (h:PVO p ros its) (on:Nat ->Bool) {x:Roo} (hx:x∈ros):OE its p.it (Ba its on its.length) x=Rl (netS ros its on) (poS (its.map dltS) on x):=by
 unfold OE Rl;rw [Wx h on hx]
 have hov:(ovP (poS (its.map dltS) on x) (poS (its.map dltS) on x).sum=true)↔max x.n 0+JS (its.map dltS) on x.r<0:=by
  unfold ovP aftP poS;rw [decide_eq_true_eq];dsimp only;have:(0:Int)≤max x.n 0:=Int.le_max_right _ _;omega
 by_cases hc:max x.n 0+JS (its.map dltS) on x.r<0
 ·rw [if_pos hc,if_pos (hov.2 hc),q_ids h.v (h.w x hx),←List.map_reverse,List.find?_map];show Option.map _ (Option.map _ _)=Option.map _ ((negQ (its.map dltS) x.r).reverse.find? _)
  have e:(negQ (its.map dltS) x.r).reverse.find? ((fun a=>decide (a∈Ba its on its.length))∘fun i=>(its.getD i itm0).id)=(negQ (its.map dltS) x.r).reverse.find? (onN (netS ros its on)):=G3 fun i hi=>by
   have hl:=PU (List.mem_reverse.1 hi);rw [List.length_map] at hl;show decide ((its.getD i itm0).id∈_)=onN _ i;unfold onN;rw [Pp hl];show _=on i;have:=PO h.s.i on hl
   cases ho:on i with
   | true=>exact decide_eq_true (this.2 ho)
   | false=>exact decide_eq_false fun h=>by rw [this.1 h] at ho;cases ho
  rw [e]
  cases hf:(negQ (its.map dltS) x.r).reverse.find? (onN (netS ros its on)) with
  | none=>rfl
  | some i=>
   have hl:=PU (List.mem_reverse.1 (List.mem_of_find?_eq_some hf));rw [List.length_map] at hl;show some _=some _
   congr 1
   have hg:(netS ros its on).nd.getD i Bo=Pr (ros.map Roo.r) its on i:=Pp hl;show Exc.mk (its.getD i itm0).id 0 x.r (-1)=Exc.mk ((netS ros its on).nd.getD i Bo).it.id 0 x.r (-1);rw [hg];rfl
 ·rw [if_neg hc,if_neg fun h=>hc (hov.1 h)]
theorem RG {α:Type} (p:α ->Bool):∀(A:List α),A.find? p=A[A.findIdx p]?
 | []=>rfl
 | a::A=>by
  rw [List.find?_cons,List.findIdx_cons]
  cases hp:p a with
  | true=>rfl
  | false=>rw [RG p A];rfl
theorem dlt_ris (X:AU):(dltS X).Pairwise fun a b=>Bv a.1 b.1<0:=by
 unfold dltS
 split
 ·exact Ju (ctr X)
 ·exact List.Pairwise.nil
theorem pl_eq {p:Prb} {ros:List Roo} {its:List AU} (h:PVO p ros its) (ds:List (List (A5×Int))) (X:AU):plK (ros.map Roo.r) ds (dltS X)=(ros.filter fun x=>decide (Cw (dltS X) x.r<0)).map fun x=>((ros.map Roo.r).idxOf x.r,(negQ ds x.r).length):=by
 have key:((dltS X).filter fun d=>decide (d.1∈ros.map Roo.r) && decide (d.2<0)).map Prod.fst=(ros.filter fun x=>decide (Cw (dltS X) x.r<0)).map Roo.r:=by
  refine DY (R:=fun a b=>Bv a b<0) (fun x=>by rw [N7.refl];omega) (fun x y z=>N7.trans x y z) ?_ ?_ fun r=>?_
  ·rw [List.pairwise_map];exact List.Pairwise.filter _ (dlt_ris X)
  ·rw [List.pairwise_map];exact List.Pairwise.filter _ h.up
  ·constructor
   ·intro hr;obtain ⟨d,hd,rfl⟩:=List.mem_map.1 hr;obtain ⟨h1,h2⟩:=List.mem_filter.1 hd;rw [Bool.and_eq_true,decide_eq_true_eq,decide_eq_true_eq] at h2;obtain ⟨x,hx,e⟩:=List.mem_map.1 h2.1;refine List.mem_map.2 ⟨x,List.mem_filter.2 ⟨hx,?_⟩,e⟩;have:Cw (dltS X) d.1=d.2:=Zc3 (DB X) h1;rw [e,this];exact decide_eq_true h2.2
   ·intro hr;obtain ⟨x,hx,rfl⟩:=List.mem_map.1 hr;obtain ⟨h1,h2⟩:=List.mem_filter.1 hx;have h2:=of_decide_eq_true h2
    have hk:x.r∈(dltS X).map Prod.fst:=Classical.byContradiction fun hn=>by
     have:Cw (dltS X) x.r=0:=FC hn;omega
    obtain ⟨d,hd,e⟩:=List.mem_map.1 hk;have:Cw (dltS X) d.1=d.2:=Zc3 (DB X) hd;rw [e] at this;refine List.mem_map.2 ⟨d,List.mem_filter.2 ⟨hd,?_⟩,e⟩;rw [Bool.and_eq_true,decide_eq_true_eq,decide_eq_true_eq];exact ⟨by rw [e];exact List.mem_map.2 ⟨x,h1,rfl⟩,by omega⟩
 have e1:plK (ros.map Roo.r) ds (dltS X)=(((dltS X).filter fun d=>decide (d.1∈ros.map Roo.r) && decide (d.2<0)).map Prod.fst).map fun r=>((ros.map Roo.r).idxOf r,(negQ ds r).length):=by
  unfold plK;rw [List.map_map];rfl
 rw [e1,key,List.map_map];rfl
theorem Wm {p:Prb} {ros:List Roo} {its:List AU} (h:PVO p ros its) (on:Nat ->Bool) {x:Roo} (hx:x∈ros):(netS ros its on).po.getD ((ros.map Roo.r).idxOf x.r) Cy=poS (its.map dltS) on x:=by
 obtain ⟨j,hj,rfl⟩:=List.getElem_of_mem hx;have hj':j<(ros.map Roo.r).length:=by simpa using hj
 have e:(ros.map Roo.r).idxOf ros[j].r=j:=by
  have:=Ka h.s.r hj';rw [List.getElem_map] at this;exact this
 rw [e];show (ros.map _).getD j Cy=_;rw [Bh Cy (by simpa using hj),List.getElem_map]
theorem Sn {its:List AU} (hn:(its.map AU.id).Nodup) {i j:Nat} (hi:i<its.length) (hj:j<its.length) (h:(its.getD i itm0).id=(its.getD j itm0).id):i=j:=by
 rw [Bh itm0 hi,Bh itm0 hj] at h
 have h3:(its.map AU.id)[i]'(by simpa using hi)=(its.map AU.id)[j]'(by simpa using hj):=by
  rw [List.getElem_map,List.getElem_map];exact h
 exact (List.getElem_inj hn).1 h3
theorem UO {p:Prb} {ros:List Roo} {its:List AU} (h:PVO p ros its) (on:Nat ->Bool) {i:Nat} (hi:i<its.length) {x:Roo} (hx:x∈ros):
  blkR its (Ba its on its.length) (its.getD i itm0).id x=if Cw (dltS (its.getD i itm0)) x.r<0 then (if badP (netS ros its on) ((ros.map Roo.r).idxOf x.r,(negQ ((its.map dltS).take i) x.r).length)=true then some (Mn (netS ros its on) (Pr (ros.map Roo.r) its on i) ((ros.map Roo.r).idxOf x.r,(negQ ((its.map dltS).take i) x.r).length)) else none) else none:=by
 have hdi:i<(its.map dltS).length:=by simpa using hi
 have hg:(its.map dltS).getD i []=dltS (its.getD i itm0):=by rw [Bh [] hdi,Bh itm0 hi,List.getElem_map]
 have hq:=q_ids h.v (h.w x hx);obtain ⟨B,c1,c2,c3⟩:=MT hdi x.r;rw [hg] at c1
 have hin:(its.getD i itm0).id∈qIds its x.r↔Cw (dltS (its.getD i itm0)) x.r<0:=by
  rw [hq,List.mem_map]
  constructor
  ·rintro ⟨j,hj,e⟩;have hjl:=PU hj;rw [List.length_map] at hjl;have:=Sn h.s.i hjl hi e;subst this;have:=(List.mem_filter.1 hj).2;rw [hg] at this;exact of_decide_eq_true this
  ·intro ha;refine ⟨i,?_,rfl⟩;rw [c1,if_pos ha];simp
 unfold blkR
 by_cases ha:Cw (dltS (its.getD i itm0)) x.r<0
 ·rw [if_pos (hin.2 ha),if_pos ha];rw [if_pos ha] at c1
  obtain ⟨A,hA⟩:∃A,negQ ((its.map dltS).take i) x.r=A:=⟨_,rfl⟩
  rw [hA] at c1 c2⊢
  have hQ:qIds its x.r=A.map (fun j=>(its.getD j itm0).id)++((its.getD i itm0).id::B.map fun j=>(its.getD j itm0).id):=by
   rw [hq,c1,List.map_append,List.singleton_append,List.map_cons]
  have hAl:(A.map fun j=>(its.getD j itm0).id).length=A.length:=List.length_map _;have hlt:A.length<(qIds its x.r).length:=by rw [hQ,List.length_append,hAl];simp
  have htk:(qIds its x.r).take A.length=A.map fun j=>(its.getD j itm0).id:=by rw [hQ,←hAl,List.take_left'];rfl
  have hat:(qIds its x.r)[A.length]=(its.getD i itm0).id:=by
   have:(qIds its x.r)[A.length]?=some (its.getD i itm0).id:=by
    rw [hQ,List.getElem?_append_right (by omega),hAl,Nat.sub_self];rfl
   rw [List.getElem?_eq_getElem hlt] at this;exact Option.some.inj this
  rw [Oo hlt (fun a ha=>by
   rw [htk] at ha;obtain ⟨j,hj,rfl⟩:=List.mem_map.1 ha;have:=c2 j hj
   exact decide_eq_true fun e=>by have:=Sn h.s.i (by omega) hi e;omega) (by rw [hat];simp),htk,List.find?_map]
  have e1:A.find? ((fun a=>decide (a∉Ba its on its.length))∘fun j=>(its.getD j itm0).id)=A.find? fun j=>!on j:=G3 fun j hj=>by
   have hjl:j<its.length:=by have:=c2 j hj;omega
   have:=PO h.s.i on hjl;show decide ((its.getD j itm0).id∉_)=!on j
   cases ho:on j with
   | true=>exact decide_eq_false fun hn=>hn (this.2 ho)
   | false=>exact decide_eq_true fun hn=>by rw [this.1 hn] at ho;cases ho
  rw [e1,RG]
  have hmi:((netS ros its on).po.getD ((ros.map Roo.r).idxOf x.r) Cy).mi=if A.findIdx (fun j=>!on j)<A.length then A.findIdx fun j=>!on j else (([i]:List Nat)++B).findIdx (fun j=>!on j)+A.length:=by
   rw [Wm h on hx];show XZ on (negQ (its.map dltS) x.r)=_;unfold XZ;rw [c1,HZ]
  have hpq:((netS ros its on).po.getD ((ros.map Roo.r).idxOf x.r) Cy).q=negQ (its.map dltS) x.r:=by rw [Wm h on hx];rfl
  have hpr:((netS ros its on).po.getD ((ros.map Roo.r).idxOf x.r) Cy).r=x.r:=by rw [Wm h on hx];rfl
  unfold badP Mn;dsimp only;rw [hmi,hpq,hpr]
  by_cases hm:A.findIdx (fun j=>!on j)<A.length
  ·rw [if_pos hm,if_pos (decide_eq_true hm),List.getElem?_eq_getElem hm];have hjm:=List.getElem_mem hm;have hjl:A[A.findIdx fun j=>!on j]<its.length:=by have:=c2 _ hjm;omega
   have e2:(negQ (its.map dltS) x.r).getD (A.findIdx fun j=>!on j) 0=A[A.findIdx fun j=>!on j]:=by
    rw [c1,List.getD_eq_getElem?_getD,List.getElem?_append_left hm,List.getElem?_eq_getElem hm];rfl
   rw [e2,Pp hjl];rfl
  ·rw [if_neg hm,if_neg (by simp),List.getElem?_eq_none (by omega)];rfl
 ·rw [if_neg (fun hh=>ha (hin.1 hh)),if_neg ha]
theorem YH {p:Prb} {ros:List Roo} {its:List AU} (h:PVO p ros its) (on:Nat ->Bool) {i:Nat} (hi:i<its.length):CZ p (Ba its on its.length) (its.getD i itm0).id=F1 (netS ros its on) (Pr (ros.map Roo.r) its on i):=by
 have hXm:its.getD i itm0∈its:=by rw [Bh itm0 hi];exact List.getElem_mem hi
 have hXp:its.getD i itm0∈p.it:=by rw [←h.hi] at hXm;rw [←h.hi];exact (TD p.it).mem_iff.1 hXm
 have e1:ros.findSome? (blkR its (Ba its on its.length) (its.getD i itm0).id)=((plK (ros.map Roo.r) ((its.map dltS).take i) (dltS (its.getD i itm0))).find? (badP (netS ros its on))).map (Mn (netS ros its on) (Pr (ros.map Roo.r) its on i)):=by
  rw [pl_eq h,LH,←Ke (p:=fun x=>decide (Cw (dltS (its.getD i itm0)) x.r<0)) (fun x hx hp=>by rw [UO h on hi hx,if_neg (of_decide_eq_false hp)])];refine Jn fun x hx=>?_;obtain ⟨h1,h2⟩:=List.mem_filter.1 hx;rw [UO h on hi h1,if_pos (of_decide_eq_true h2)]
 have e2:Ap p (its.getD i itm0).id=its.getD i itm0:=by
  obtain ⟨hk,_,h2,h3⟩:=Jk (p:=p) (id:=(its.getD i itm0).id) (List.mem_map.2 ⟨_,hXp,rfl⟩);refine UA (YV (N8 h.e).2.1) (by rw [h2];exact List.getElem_mem hk) hXp h3
 have e3:(its.getD i itm0).af.find? (fun a=>decide (a∉Ba its on its.length))=(its.getD i itm0).af.find? (offOf (netS ros its on)):=G3 fun a ha=>by
  have hm:=h.s.a _ hXm a ha;have hj:=List.idxOf_lt_length_of_mem hm;have hja:=List.getElem_idxOf hj;unfold offOf;rw [Rg]
  generalize (its.map AU.id).idxOf a=j at hj hja⊢
  have hj':j<its.length:=by simpa using hj
  rw [List.getElem_map] at hja;rw [Pp hj'];show _=!on j;have:=PO h.s.i on hj';rw [Bh itm0 hj',hja] at this
  cases ho:on j with
  | true=>exact decide_eq_false fun hn=>hn (this.2 ho)
  | false=>exact decide_eq_true fun hn=>by rw [this.1 hn] at ho;cases ho
 unfold CZ;rw [h.hr,h.hi,e1,e2,e3];unfold F1
 show _=match (plK (ros.map Roo.r) ((its.map dltS).take i) (dltS (its.getD i itm0))).find? (badP (netS ros its on)) with
  | some e=>some (Mn (netS ros its on) (Pr (ros.map Roo.r) its on i) e)
  | none=>match (its.getD i itm0).af.find? (offOf (netS ros its on)) with
   | some id=>some ⟨(its.getD i itm0).id,2,DU,id⟩
   | none=>none
 cases (plK (ros.map Roo.r) ((its.map dltS).take i) (dltS (its.getD i itm0))).find? (badP (netS ros its on)) with
 | some e=>rfl
 | none=>
  show ((its.getD i itm0).af.find? (offOf (netS ros its on))).map _=_
  cases (its.getD i itm0).af.find? (offOf (netS ros its on))<;>rfl
theorem Ts {p:Prb} {ros:List Roo} {its:List AU} (h:PVO p ros its) (on:Nat ->Bool):MR p (Ba its on its.length)=C9 (netS ros its on):=by
 have e1:(Ba its on its.length).findSome? (CZ p (Ba its on its.length))=(netS ros its on).nd.findSome? (ndX (netS ros its on)):=by
  show (((List.range its.length).filter on).map fun i=>(its.getD i itm0).id).findSome? _=((List.range its.length).map _).findSome? _;rw [List.findSome?_map,List.findSome?_map]
  rw [←Ke (p:=on) (l:=List.range its.length) (f:=ndX (netS ros its on)∘Pr (ros.map Roo.r) its on) (fun i _ ho=>by
   show ndX _ (Pr _ _ _ i)=none;unfold ndX;rw [if_neg];show ¬(on i=true)
   rw [ho];simp)]
  refine Jn fun i hi=>?_;obtain ⟨h1,h2⟩:=List.mem_filter.1 hi;show CZ p _ (its.getD i itm0).id=ndX _ (Pr _ _ _ i);rw [YH h on (List.mem_range.1 h1)];unfold ndX;rw [if_pos];exact h2
 have e2:ros.findSome? (OE its p.it (Ba its on its.length))=(netS ros its on).po.findSome? (Rl (netS ros its on)):=by
  show _=(ros.map _).findSome? _;rw [List.findSome?_map];exact Jn fun x hx=>over_eq h on hx
 unfold MR C9;rw [h.hr,h.hi,e1,e2]
 cases (netS ros its on).nd.findSome? (ndX (netS ros its on))<;>rfl
theorem Pz {its:List AU} (hn:(its.map AU.id).Nodup) (on:Nat ->Bool) {i:Nat} (hi:i<its.length):Om (Ba its on its.length) (its.getD i itm0).id=Ba its (Ax on i) its.length:=by
 unfold Om Ba;rw [List.filter_map,List.filter_filter]
 congr 1
 refine List.filter_congr fun j hj=>?_;have hj':=List.mem_range.1 hj;show (decide ((its.getD j itm0).id≠(its.getD i itm0).id) && on j)=Ax on i j
 by_cases e:j=i
 ·subst e;rw [Hn];simp
 ·have hne:(its.getD j itm0).id≠(its.getD i itm0).id:=fun h=>e (Sn hn hj' hi h);rw [D0 e,decide_eq_true hne,Bool.true_and]
def FewQ (p:Prb) (n:Nat):Prop:=p.it.length≤n∧p.ro.length≤30∧∀i∈p.it,i.po.length≤8∧i.pa.length≤8∧i.af.length≤8
instance (p:Prb) (n:Nat):Decidable (FewQ p n):=inferInstanceAs (Decidable (_∧_∧∀i∈p.it,_))
def LK (p:Prb) (l:List Int):Prop:=(∀id∈l,CZ p l id=none)∧∀x∈p.ro,¬HI p.it x l<0
noncomputable instance (p:Prb) (l:List Int):Decidable (LK p l):=Classical.propDecidable _
theorem XP (ros:List Roo) (its:List AU) (on:Nat ->Bool):BI (netS ros its on)=netS ros its on:=by
 unfold BI netS;dsimp only;rw [List.map_map,List.map_map];rfl
theorem PT {ros:List Roo} {its:List AU} (hn:(its.map AU.id).Nodup) {on:Nat ->Bool} {e:Exc} (h:C9 (netS ros its on)=some e):∃i,i<its.length∧on i=true∧(its.getD i itm0).id=e.id∧(its.map AU.id).idxOf e.id=i:=by
 obtain ⟨i,x,hx,hon,hid⟩:=Tr h;obtain ⟨hi,ho,hit⟩:=Pn (XP ros its on) hx;have hei:(its.getD i itm0).id=e.id:=by rw [hid,hit]
 refine ⟨i,hi,by rw [←ho];exact hon,hei,?_⟩;have h1:=Ka hn (i:=i) (by simpa using hi);rw [List.getElem_map] at h1;rw [←hei,Bh itm0 hi];exact h1
theorem T8 {ros:List Roo} {its:List AU} (hn:(its.map AU.id).Nodup):∀(f:Nat) (on:Nat ->Bool),LN its.length on≤f ->C9 (netS ros its (Fm ros its f on).2)=none
 | 0,on,h=>by
  show C9 (netS ros its on)=none
  cases hne:C9 (netS ros its on) with
  | none=>rfl
  | some e=>
   obtain ⟨i,hi,ho,_,_⟩:=PT hn hne;have:=Km hi ho;omega
 | f+1,on,h=>by
  cases hne:C9 (netS ros its on) with
  | none=>rw [Ly hne];exact hne
  | some e=>
   obtain ⟨i,hi,ho,_,hx⟩:=PT hn hne;have:=Km hi ho;rw [Lx hne,hx];exact T8 hn f (Ax on i) (by omega)
theorem YD (n:Nat) (on:Nat ->Bool):LN n on≤n:=by
 unfold LN;exact Nat.le_trans (List.length_filter_le _ _) (by simp)
theorem Sf {p:Prb} (hE:Ab p=0) (hf:Gu p):MR p (largeS p)=none:=by
 have h:=pv_of hE hf;have h1:ordP p=sortO p.it:=if_pos hE;unfold largeS Mm;rw [h1,Ts h];exact T8 h.s.i _ _ (YD _ _)
theorem PM {its:List AU} {x:Roo} {l:List Int} (h:∀i∈its,i.id∈l ->0≤CO i x.r):0≤HI its x l:=by
 have h0:(0:Int)≤max x.n 0:=Int.le_max_right _ _
 have h1:∀m:List AU,(∀i∈m,0≤CO i x.r) ->0≤(m.map fun i=>CO i x.r).sum:=fun m=>by
  induction m with
  | nil=>intro _;simp
  | cons a m ih=>
   intro hm;have:=hm a (List.mem_cons_self ..);have:=ih fun i hi=>hm i (List.mem_cons_of_mem _ hi);simp only [List.map_cons,List.sum_cons];omega
 have:=h1 (its.filter fun i=>decide (i.id∈l)) fun i hi=>by
  obtain ⟨h2,h3⟩:=List.mem_filter.1 hi;exact h i h2 (of_decide_eq_true h3)
 unfold HI;omega
theorem V3 {p:Prb} {l:List Int} (h:MR p l=none):LK p l:=by
 unfold MR at h
 cases h1:l.findSome? (CZ p l) with
 | some e=>rw [h1] at h;cases h
 | none=>
  rw [h1] at h;refine ⟨fun id hid=>List.findSome?_eq_none_iff.1 h1 id hid,fun x hx ho=>?_⟩;have h2:=List.findSome?_eq_none_iff.1 h x ((Fo p).mem_iff.2 hx);unfold OE at h2;rw [if_pos ho] at h2
  have h3:(qIds (sortO p.it) x.r).reverse.find? (fun a=>decide (a∈l))=none:=by
   cases hf:(qIds (sortO p.it) x.r).reverse.find? (fun a=>decide (a∈l)) with
   | none=>rfl
   | some a=>rw [hf] at h2;cases h2
  have h4:=List.find?_eq_none.1 h3
  have:=PM (its:=p.it) (x:=x) (l:=l) fun i hi hl=>Classical.byContradiction fun hneg=>by
   have hq:i.id∈qIds (sortO p.it) x.r:=List.mem_map.2 ⟨i,List.mem_filter.2 ⟨(TD p.it).mem_iff.2 hi,by simpa using hneg⟩,rfl⟩;have:=h4 _ (List.mem_reverse.2 hq)
   simp at this
   exact this hl
  omega
theorem Sg {p:Prb} (hE:Ab p=0) (hf:Gu p):LK p (largeS p):=V3 (Sf hE hf)
theorem Sx {p:Prb} {l t:List Int} {id:Int} (hs:∀x∈t,x∈l) (h:CZ p t id=none):CZ p l id=none:=by
 unfold CZ at h⊢
 cases h1:(rosS p).findSome? (blkR (sortO p.it) t id) with
 | some e=>rw [h1] at h;cases h
 | none=>
  rw [h1] at h
  have h2:(rosS p).findSome? (blkR (sortO p.it) l id)=none:=HT fun x hx=>by
   have h3:=List.findSome?_eq_none_iff.1 h1 x hx;unfold blkR at h3⊢
   split
   ·rename_i hq
    rw [if_pos hq] at h3
    have h4:((qIds (sortO p.it) x.r).takeWhile fun a=>decide (a≠id)).find? (fun a=>decide (a∉t))=none:=by
     cases hf:((qIds (sortO p.it) x.r).takeWhile fun a=>decide (a≠id)).find? (fun a=>decide (a∉t)) with
     | none=>rfl
     | some a=>rw [hf] at h3;cases h3
    rw [Hy (fun a ha=>by
     have:=List.find?_eq_none.1 h4 a ha
     simp at this
     simpa using hs a this)];rfl
   ·rfl
  rw [h2];dsimp only at h⊢
  have h5:(Ap p id).af.find? (fun a=>decide (a∉t))=none:=by
   cases hf:(Ap p id).af.find? (fun a=>decide (a∉t)) with
   | none=>rfl
   | some a=>rw [hf] at h;cases h
  rw [Hy (fun a ha=>by
   have:=List.find?_eq_none.1 h5 a ha
   simp at this
   simpa using hs a this)];rfl
theorem Q8 {x:Roo} {l t:List Int} (hs:∀y∈t,y∈l):∀{its:List AU},(∀i∈its,i.id∈l ->i.id∉t ->0≤CO i x.r) ->HI its x t≤HI its x l
 | [],_=>Int.le_refl _
 | a::its,h=>by
  have ih:=Q8 hs (its:=its) fun i hi=>h i (List.mem_cons_of_mem _ hi);have ha:=h a (List.mem_cons_self ..);unfold HI at ih⊢;rw [List.filter_cons,List.filter_cons]
  by_cases h1:a.id∈t
  ·rw [if_pos (decide_eq_true h1),if_pos (decide_eq_true (hs _ h1))];simp only [List.map_cons,List.sum_cons];omega
  ·rw [if_neg (by simpa using h1)]
   by_cases h2:a.id∈l
   ·rw [if_pos (decide_eq_true h2)];have:=ha h2 h1;simp only [List.map_cons,List.sum_cons];omega
   ·rw [if_neg (by simpa using h2)];exact ih
theorem XK {p:Prb} (hE:Ab p=0) {l t:List Int} (ht:LK p t) (hs:∀y∈t,y∈l) {e:Exc} (hn:MR p l=some e):e.id∉t:=fun het=>by
 unfold MR at hn
 split at hn
 ·rename_i e' h1
  injection hn with hn;subst hn
  obtain ⟨id,hid,h2⟩:=List.exists_of_findSome?_eq_some h1;have h3:=Ve h2;rw [h3] at het;rw [Sx hs (ht.1 id het)] at h2;cases h2
 ·obtain ⟨x,hx,h2⟩:=List.exists_of_findSome?_eq_some hn;have hxp:=(Fo p).mem_iff.1 hx;unfold OE at h2
  split at h2
  ·rename_i ho
   obtain ⟨a,ha,rfl⟩:=Option.map_eq_some_iff.1 h2;dsimp only at het;obtain ⟨hal,u,v,huv,hu⟩:=List.find?_eq_some_iff_append.1 ha
   have hQ:qIds (sortO p.it) x.r=v.reverse++a::u.reverse:=by
    have:=congrArg List.reverse huv;rw [List.reverse_reverse,List.reverse_append,List.reverse_cons,List.append_assoc] at this;exact this
   have hQn:(qIds (sortO p.it) x.r).Nodup:=by
    have h1:((sortO p.it).map AU.id).Nodup:=((TD p.it).map AU.id).nodup_iff.2 (YV (N8 hE).2.1);unfold qIds;exact h1.sublist ((List.filter_sublist).map AU.id)
   have hav:a∉v.reverse:=fun hm=>by
    rw [hQ,List.nodup_append] at hQn;exact hQn.2.2 _ hm _ (List.mem_cons_self ..) rfl
   have hblk:=ht.1 a het
   have hall:∀b∈v.reverse,b∈t:=fun b hb=>by
    unfold CZ at hblk
    cases h1:(rosS p).findSome? (blkR (sortO p.it) t a) with
    | some e=>rw [h1] at hblk;cases hblk
    | none=>
     have h3:=List.findSome?_eq_none_iff.1 h1 x hx;unfold blkR at h3;rw [if_pos (by rw [hQ];simp)] at h3;have hlt:v.reverse.length<(qIds (sortO p.it) x.r).length:=by rw [hQ,List.length_append];simp
     have htk:(qIds (sortO p.it) x.r).take v.reverse.length=v.reverse:=by rw [hQ,List.take_left'];rfl
     have hat:(qIds (sortO p.it) x.r)[v.reverse.length]=a:=by
      have:(qIds (sortO p.it) x.r)[v.reverse.length]?=some a:=by
       rw [hQ,List.getElem?_append_right (Nat.le_refl _),Nat.sub_self];rfl
      rw [List.getElem?_eq_getElem hlt] at this;exact Option.some.inj this
     rw [Oo hlt (fun c hc=>by rw [htk] at hc;exact decide_eq_true fun e=>hav (e▸hc)) (by rw [hat];simp),htk] at h3
     have h4:v.reverse.find? (fun a=>decide (a∉t))=none:=by
      cases hf:v.reverse.find? (fun a=>decide (a∉t)) with
      | none=>rfl
      | some c=>rw [hf] at h3;cases h3
     have:=List.find?_eq_none.1 h4 b hb
     simpa using this
   have hle:=Q8 (x:=x) hs (its:=p.it) fun i hi h1 h2=>Classical.byContradiction fun hneg=>by
    have hq:i.id∈qIds (sortO p.it) x.r:=List.mem_map.2 ⟨i,List.mem_filter.2 ⟨(TD p.it).mem_iff.2 hi,by simpa using hneg⟩,rfl⟩;rw [hQ] at hq;rcases List.mem_append.1 hq with hq | hq
    ·exact h2 (hall _ hq)
    ·rcases List.mem_cons.1 hq with hq | hq
     ·rw [hq] at h2;exact h2 het
     ·have:=hu _ (List.mem_reverse.1 hq)
      simp at this
      exact this h1
   exact ht.2 x hxp (by omega)
  ·cases h2
theorem VR {p:Prb} (hE:Ab p=0) (hf:Gu p) {t:List Int} (ht:LK p t) (hs:∀y∈t,y∈p.it.map AU.id):∀y∈t,y∈largeS p:=by
 have h:=pv_of hE hf;have h1:ordP p=sortO p.it:=if_pos hE
 have key:∀(f:Nat) (on:Nat ->Bool),(∀y∈t,y∈Ba (sortO p.it) on (sortO p.it).length) ->∀y∈t,y∈Ba (sortO p.it) (Fm (rosS p) (sortO p.it) f on).2 (sortO p.it).length:=by
  intro f
  induction f with
  | zero=>intro on ho;exact ho
  | succ f ih=>
   intro on ho
   cases hne:C9 (netS (rosS p) (sortO p.it) on) with
   | none=>rw [Ly hne];exact ho
   | some e=>
    obtain ⟨i,hi,_,hei,hx⟩:=PT h.s.i hne;rw [Lx hne,hx];refine ih (Ax on i) fun y hy=>?_;have hnt:=XK hE ht ho (by rw [Ts h];exact hne);rw [←Pz h.s.i on hi,hei];exact List.mem_filter.2 ⟨ho y hy,decide_eq_true fun e2=>hnt (e2▸hy)⟩
 unfold largeS Mm;rw [h1];refine key _ _ fun y hy=>?_
 have h2:Ba (sortO p.it) (fun _=>true) (sortO p.it).length=(sortO p.it).map AU.id:=by
  conv=>rhs;rw [K9 (sortO p.it)]
  unfold Ba;rw [List.map_map,List.filter_eq_self.2 (fun _ _=>rfl)];rfl
 rw [h2];exact ((TD p.it).map AU.id).mem_iff.2 (hs y hy)
theorem WC {x:Int} {A B:List Int} (h:x∉A):(A++x::B).takeWhile (fun a=>decide (a≠x))=A:=by
 induction A with
 | nil=>simp
 | cons a A ih=>
  have ha:a≠x:=fun e=>h (by simp [e]);rw [List.cons_append,List.takeWhile_cons,if_pos (by simpa using ha),ih fun hm=>h (by simp [hm])]
theorem WV {x:Int} {q:List Int} (h:x∈q):∃A B,q=A++x::B∧x∉A:=by
 induction q with
 | nil=>cases h
 | cons a q ih=>
  by_cases e:a=x
  ·subst e;exact ⟨[],q,rfl,by simp⟩
  ·obtain ⟨A,B,h1,h2⟩:=ih ((List.mem_cons.1 h).resolve_left fun e2=>e e2.symm);exact ⟨a::A,B,by rw [h1];rfl,fun hm=>(List.mem_cons.1 hm).elim (fun e2=>e e2.symm) h2⟩
theorem tw_pref (x:Int) (q:List Int) (h:x∈q):q.takeWhile (fun a=>decide (a≠x))=prefQ x q:=by
 obtain ⟨A,B,rfl,hA⟩:=WV h;rw [WC hA,SW hA]
theorem UD {q S:List Int}:q.find? (fun a=>decide (a∉S))=none↔∀a∈q,a∈S:=by
 rw [List.find?_eq_none];exact ⟨fun h a ha=>Classical.byContradiction fun hn=>h a ha (decide_eq_true hn),fun h a ha hd=>of_decide_eq_true hd (h a ha)⟩
theorem UN {its:List AU} {S:List Int} {id:Int} {x:Roo}:blkR its S id x=none↔∀a∈prefQ id (qIds its x.r),a∈S:=by
 unfold blkR
 by_cases h:id∈qIds its x.r
 ·rw [if_pos h,Option.map_eq_none_iff,UD,tw_pref id _ h]
 ·rw [if_neg h,Ut h];exact ⟨fun _ a ha=>(by cases ha),fun _=>rfl⟩
theorem R6 {p:Prb} (hE:Ab p=0) {S:List Int} {id:Int}:CZ p S id=none↔∀b∈req p id,b.m∈S:=by
 have hO:ordP p=sortO p.it:=if_pos hE
 have e1:CZ p S id=none↔(rosS p).findSome? (blkR (sortO p.it) S id)=none∧(Ap p id).af.find? (fun a=>decide (a∉S))=none:=by
  unfold CZ
  cases (rosS p).findSome? (blkR (sortO p.it) S id) with
  | some e=>exact ⟨fun h=>(by cases h),fun h=>(by cases h.1)⟩
  | none=>exact ⟨fun h=>⟨rfl,Option.map_eq_none_iff.1 h⟩,fun h=>Option.map_eq_none_iff.2 h.2⟩
 rw [e1,UD,List.findSome?_eq_none_iff];unfold req ST
 constructor
 ·rintro ⟨h1,h2⟩ b hb;rcases List.mem_append.1 hb with hb | hb
  ·obtain ⟨y,hy,rfl⟩:=List.mem_map.1 hb;exact h2 y ((Zdb _).mem_iff.1 hy)
  ·obtain ⟨L,hL,hb⟩:=List.mem_flatMap.1 hb;obtain ⟨x,hx,rfl⟩:=List.mem_map.1 hL;obtain ⟨y,hy,rfl⟩:=List.mem_map.1 hb;have hxr:=(DE p.ro).mem_iff.1 hx;have:=h1 x ((Fo p).mem_iff.2 hxr);rw [←hO] at this;exact UN.1 this y hy
 ·intro h;refine ⟨fun x hx=>?_,fun a ha=>h ⟨id,a,LX⟩ (List.mem_append_left _ (List.mem_map.2 ⟨a,(Zdb _).mem_iff.2 ha,rfl⟩))⟩;rw [←hO];refine UN.2 fun a ha=>?_;have hxr:=(Fo p).mem_iff.1 hx;exact h ⟨id,a,x.r⟩ (List.mem_append_right _ (List.mem_flatMap.2 ⟨EP p x,List.mem_map.2 ⟨x,(DE p.ro).mem_iff.2 hxr,rfl⟩,List.mem_map.2 ⟨a,ha,rfl⟩⟩))
theorem blks_no {p:Prb} (hE:Ab p=0) {S:List Int} (hS:∀x∈S,x∈p.it.map AU.id):CE p (DJ S)=[]↔∀id∈S,CZ p S id=none:=by
 have e1:CE p (DJ S)=[]↔∀i∈GF p,G6 p (DJ S) i=[]:=by unfold CE;rw [List.flatMap_eq_nil_iff]
 rw [e1]
 constructor
 ·intro h id hid;have:=h id ((Fq hE).mem_iff.2 (hS id hid));unfold G6 at this;rw [if_pos (show DJ S id=true from decide_eq_true hid)] at this;refine (R6 hE).2 fun b hb=>Classical.byContradiction fun hn=>?_;have h2:=List.filter_eq_nil_iff.1 this b hb;exact h2 (by show (!decide (b.m∈S))=true;rw [decide_eq_false hn];rfl)
 ·intro h i _;unfold G6
  split
  ·rename_i hi
   have hi:i∈S:=of_decide_eq_true hi;refine List.filter_eq_nil_iff.2 fun b hb=>?_;show ¬(!decide (b.m∈S))=true;rw [decide_eq_true ((R6 hE).1 (h i hi) b hb)]
   decide
  ·rfl
theorem Q7 {p:Prb} (hE:Ab p=0) {S:List Int} (hn:S.Nodup) (hS:∀x∈S,x∈p.it.map AU.id) (x:Roo):HI p.it x S=max x.n 0+Bz p x.r (Aj S):=by
 unfold HI Bz Aj
 congr 1
 rw [List.map_map]
 have e1:(S.map ((fun e:Int×Bool=>if e.2=true then CO (Ap p e.1) x.r else 0)∘fun a=>(a,true)))=S.map fun y=>CO (Ap p y) x.r:=List.map_congr_left fun y _=>(by show (if true=true then CO (Ap p y) x.r else 0)=_;rw [if_pos rfl])
 rw [e1];have hid:=YV (N8 hE).2.1
 have e2:(p.it.filter fun i=>decide (i.id∈S)).map (fun i=>CO i x.r)=((p.it.filter fun i=>decide (i.id∈S)).map AU.id).map fun y=>CO (Ap p y) x.r:=by
  rw [List.map_map];refine List.map_congr_left fun i hi=>?_;have hi:=(List.mem_filter.1 hi).1;show CO i x.r=CO (Ap p i.id) x.r;rw [Sj hE hi]
 rw [e2];refine Q1 ?_ _;refine (List.perm_ext_iff_of_nodup (List.Nodup.sublist (List.filter_sublist.map _) hid) hn).2 fun y=>?_;rw [List.mem_map]
 constructor
 ·rintro ⟨i,hi,rfl⟩;exact of_decide_eq_true (List.mem_filter.1 hi).2
 ·intro hy;obtain ⟨i,hi,rfl⟩:=List.mem_map.1 (hS y hy);exact ⟨i,List.mem_filter.2 ⟨hi,decide_eq_true hy⟩,rfl⟩
theorem fea_R {p:Prb} (hE:Ab p=0) {S:List Int}:Lk p S↔S.Nodup∧(∀x∈S,x∈p.it.map AU.id)∧LK p S:=by
 have key:S.Nodup ->(∀x∈S,x∈p.it.map AU.id) ->((CE p (DJ S)=[]∧Eq p (Aj S)=[])↔LK p S):=fun hn hS=>by
  unfold LK;rw [blks_no hE hS,Ep];refine and_congr Iff.rfl ?_
  constructor
  ·intro h x hx;rw [Q7 hE hn hS];have:=h (EP p x) (List.mem_map.2 ⟨x,(DE p.ro).mem_iff.2 hx,rfl⟩);have e:(EP p x).n+Bz p (EP p x).r (Aj S)=max x.n 0+Bz p x.r (Aj S):=rfl;omega
  ·intro h L hL;obtain ⟨x,hx,rfl⟩:=List.mem_map.1 hL;have:=h x ((DE p.ro).mem_iff.1 hx);rw [Q7 hE hn hS] at this;have e:(EP p x).n+Bz p (EP p x).r (Aj S)=max x.n 0+Bz p x.r (Aj S):=rfl;omega
 exact ⟨fun h=>⟨h.n,h.i,(key h.n h.i).1 ⟨h.a,h.v⟩⟩,fun ⟨h1,h2,h3⟩=>⟨h1,h2,((key h1 h2).2 h3).1,((key h1 h2).2 h3).2⟩⟩
theorem XA (its:List AU) (on:Nat ->Bool):(Ba its on its.length).Sublist (its.map AU.id):=by
 have h1:its.map AU.id=(List.range its.length).map fun i=>(its.getD i itm0).id:=by
  conv=>lhs;rw [K9 its]
  rw [List.map_map];rfl
 rw [h1];exact List.filter_sublist.map _
theorem El {p:Prb} (hE:Ab p=0):(largeS p).Nodup∧∀x∈largeS p,x∈p.it.map AU.id:=by
 have hO:ordP p=sortO p.it:=if_pos hE;have h1:=XA (ordP p) (Mm p).2;refine ⟨List.Nodup.sublist h1 (PN hE),fun x hx=>?_⟩;have:=h1.subset hx;rw [hO] at this;exact ((TD p.it).map AU.id).mem_iff.1 this
theorem VT {p:Prb} (hE:Ab p=0) (hf:Gu p):Lk p (largeS p):=(fea_R hE).2 ⟨(El hE).1,(El hE).2,Sg hE hf⟩
theorem VS {p:Prb} (hE:Ab p=0) (hf:Gu p) {S:List Int} (h:Lk p S):∀y∈S,y∈largeS p:=VR hE hf ((fea_R hE).1 h).2.2 h.i
theorem U5 {p:Prb} (hE:Ab p=0) (hf:Gu p):(Lm p).length=(largeS p).length∧∀y∈largeS p,y∈Lm p:=by
 have hn:p.it.length≤31:=by have:=hf.i;omega
 have hu:=uno_Fea hE hn;have h1:∀y∈largeS p,y∈Lm p:=uno_max hE hn (VT hE hf);have h2:=VS hE hf hu;exact ⟨Nat.le_antisymm (Ou hu.n (El hE).1 h2) (Ou (El hE).1 hu.n h1),h1⟩
theorem VV:AT Tryz.prog 20 [] (.raw (.bool true)):=by
 have hk:=known_p;refine B6 Tryz.func20 Z Z Tryz.ntmps20 Z Z Z fun F hF=>(AG ?_);refine AJ (AD Z Z (AI (AG (AJ (J (BO (hk) Z Z) (AD Z Z (AI (Af ?_))))))));exact ⟨_,[],[],Ae rfl,rfl,rfl,rfl,rfl⟩
theorem Sh:AT Tryz.prog 21 [] (.raw (.bool true)):=by
 have hk:=VU;refine B6 Tryz.func21 Z Z Tryz.ntmps21 Z Z Z fun F hF=>(AG ?_);refine AJ (AD Z Z (AI (AG (AJ (J (BO (hk) Z Z) (AD Z Z (AI (Af ?_))))))));exact ⟨_,[],[],Ae rfl,rfl,rfl,rfl,rfl⟩
theorem X7:AT Tryz.prog 7 [] (.raw (.bool true)):=by
 have h1:=VV;have h2:=Sh;refine B6 Tryz.func7 Z Z Tryz.ntmps7 Z Z Z fun F hF=>(AG (AJ (AD Z Z (AI (AG (AJ ?_))))));refine J (BO (h1) Z Z) (AC Z Z (NI 2 rfl (rfl) (A9 Z Z Z (J (BO (h2) Z Z) (J (DX Z Z Z Z) (AD Z Z (AI (Af ?_))))))));exact ⟨_,[],[],Ae rfl,rfl,rfl,rfl,rfl⟩
theorem hasS_p (l:List Int) (x:Int) (hl:l.length≤2000000):AT Tryz.prog 12 [.d (.sl none (l.map AF)),.d (AF x)] (B5 (decide (x∈l))):=by
 refine B6 Tryz.func12 Z Z Tryz.ntmps12 Z Z Z fun F hF=>(AG (AJ ?_));refine AD Z Z (AI (AG (AG (AJ (AD Z Z (AI (Aw (EK (α:=Nat) (fun k=>⟨18,[(0,.d (.sl none (l.map AF))),(1,.d (AF x)),(5,(.d (AF (k:Int))))],[]⟩) (fun k=>k≤l.length∧x∉l.take k) (fun k=>l.length - k) (0) (⟨Nat.zero_le _,by simp⟩) (UX ⟨rfl,rfl,rfl,trivial⟩) ?_))))))));rintro k ⟨hk,hx⟩;refine AG (AG (AJ (AC Z Z (AC Z Z (J (C1 rfl (List.length_map ..) Tryz.underlying33 rfl) ?_)))))
 first | refine J (Cc Z Z Z) ?_ | refine J (Cb Z Z Z) ?_
 refine AI ?_
 first | refine BP rfl (fun h9=>?_) (fun h9=>?_) | refine BK rfl (fun h9=>?_) (fun h9=>?_)
 ·refine An (AG (Aw (AG ?_)));have hkl:k<l.length:=EF h9;refine AJ (AC Z Z (AC Z Z ?_))
  first | refine J (Ch (k) Z Z (rfl) (A3 hkl) Tryz.underlying33 rfl Et rfl) ?_ | refine J (Cj (k) Z Z (rfl) (A3 hkl) rfl Tryz.underlying33 Et rfl) ?_
  first | refine J (A0 Z Z Aa rfl) ?_ | refine J (AX Z Z Z Aa rfl) ?_ | refine J (AZ Z Z (rfl) rfl Aa rfl) ?_
  refine AC Z Z ?_
  first | refine J (EX Z Z Z) ?_ | refine J (EY Z Z Z) ?_ | refine J (EO Z Z Z) ?_ | refine J (ER Tryz.underlying3 Z Z Z) ?_ | refine J (EU Tryz.underlying3 Z Z Z) ?_ | refine J (ET Tryz.underlying3 Z Z) ?_ | refine J (ES Tryz.underlying3 Z Z Z) ?_ | refine J (EW Tryz.underlying3 Z Z) ?_
  refine AI ?_
  first | refine BP rfl (fun h17=>?_) (fun h17=>?_) | refine BK rfl (fun h17=>?_) (fun h17=>?_)
  ·refine AG (AJ (AD Z Z (AI (Af ?_))));exact ⟨_,[],[],Ae rfl,rfl,rfl,by rw [decide_eq_true (h17▸List.getElem_mem hkl)],rfl⟩
  ·refine An (AJ (AC Z Z (J (By Z Z (IntWalk.i64_in _ (by omega)) rfl) (AD Z Z (AI ?_)))));exact ⟨k+1,⟨hkl,fun hm=>by rw [List.take_succ_eq_append_getElem hkl] at hm;exact (List.mem_append.1 hm).elim hx fun e=>h17 (List.mem_singleton.1 e).symm⟩,by omega,⟨rfl,rfl,fun _ _=>NK.get (l:=[(0,_),(1,_),(5,_)]) ⟨rfl,rfl,rfl,trivial⟩⟩⟩
 ·refine Ct (AG (AJ (AD Z Z (AI (Af ?_)))));exact ⟨_,[],[],Ae rfl,rfl,rfl,by rw [decide_eq_false (by rw [←List.take_of_length_le (i:=k) (l:=l) (by have:=h9;omega)];exact hx)],rfl⟩
end Go.Proofs.YtnkkaeblokdifaaGreat
/- Layer 28: how the laws' arguments are opened. -/
namespace Go.Proofs.YtnkkaeblokdifaaGreat
open Go.ChangeShapes Go.WideShapes Go.ChangeAt Go.RowKit
section
variable {H:Type} {enc:TypeId×Value ->H} {w:World}
abbrev tt {α:Type}:α ->Prop:=fun _=>True
theorem oI:CM enc Tryz.prog w 3 1 AF tt:=(Tk Tryz.underlying3).asQ id (fun _ _=>rfl) (fun _ _=>trivial)
theorem oJ:CM enc Tryz.prog w 2 1 AF tt:=(Tk Tryz.underlying2).asQ id (fun _ _=>rfl) (fun _ _=>trivial)
theorem oS:CM enc Tryz.prog w 9 1 Al tt:=(Wz Tryz.underlying9).asQ id (fun _ _=>rfl) (fun _ _=>trivial)
theorem oIs:CM enc Tryz.prog w 33 1 (fun l:List Int=> .sl none (l.map AF)) tt:=(ML Tryz.underlying33 (by kernel_rfl) (by omega) (b:=8) (by kernel_rfl) oI).asQ id (fun _ _=>rfl) (fun _ _=>trivial)
theorem oAcc:CM enc Tryz.prog w 39 3 accD tt:=
 (Ig Tryz.underlying39 (by kernel_rfl) (Bn rfl (by kernel_rfl) oS (Bn rfl (by kernel_rfl) oI (Bn rfl (by kernel_rfl) oS Ih)))).asQ (fun a=>(⟨a.1,a.2.1,a.2.2.1⟩:Ok)) (fun _ _=>rfl) (fun _ _=>trivial)
theorem oPost:CM enc Tryz.prog w 133 4 C7 tt:=
 (Ig Tryz.underlying133 (by kernel_rfl) (Bn rfl (by kernel_rfl) oAcc (Bn rfl (by kernel_rfl) oJ Ih))).asQ (fun a=>(⟨a.1,a.2.1⟩:Ee)) (fun _ _=>rfl) (fun _ _=>trivial)
theorem oPay:CM enc Tryz.prog w 136 3 Gl tt:=
 (Ig Tryz.underlying136 (by kernel_rfl) (Bn rfl (by kernel_rfl) oS (Bn rfl (by kernel_rfl) oS (Bn rfl (by kernel_rfl) oJ Ih)))).asQ (fun a=>(⟨a.1,a.2.1,a.2.2.1⟩:NJ)) (fun _ _=>rfl) (fun _ _=>trivial)
theorem oRsc:CM enc Tryz.prog w 41 6 E1 tt:=
 (Ig Tryz.underlying41 (by kernel_rfl) (Bn rfl (by kernel_rfl) oI (Bn rfl (by kernel_rfl) oAcc (Bn rfl (by kernel_rfl) oS (Bn rfl (by kernel_rfl) oS Ih))))).asQ (fun a=>(⟨a.1,a.2.1,a.2.2.1,a.2.2.2.1⟩:A5)) (fun _ _=>rfl) (fun _ _=>trivial)
theorem oItm:CM enc Tryz.prog w 72 6 BC tt:=
 (Ig Tryz.underlying72 (by kernel_rfl) (Bn rfl (by kernel_rfl) oI (Bn rfl (by kernel_rfl) oI (Bn rfl (by kernel_rfl) oI
  (Bn rfl (by kernel_rfl) (ML Tryz.underlying69 (by kernel_rfl) (by omega) (b:=48) (by kernel_rfl) oPost)
  (Bn rfl (by kernel_rfl) (ML Tryz.underlying70 (by kernel_rfl) (by omega) (b:=40) (by kernel_rfl) oPay) (Bn rfl (by kernel_rfl) oIs Ih))))))).asQ
  (fun a=>(⟨a.1,a.2.1,a.2.2.1,a.2.2.2.1,a.2.2.2.2.1,a.2.2.2.2.2.1⟩:AU)) (fun _ _=>rfl) (fun _ _=>trivial)
theorem oRoo:CM enc Tryz.prog w 43 7 F6 tt:=
 (Ig Tryz.underlying43 (by kernel_rfl) (Bn rfl (by kernel_rfl) oRsc (Bn rfl (by kernel_rfl) oJ Ih))).asQ (fun a=>(⟨a.1,a.2.1⟩:Roo)) (fun _ _=>rfl) (fun _ _=>trivial)
theorem oPrb:CM enc Tryz.prog w 25 2 CT tt:=
 (Ig Tryz.underlying25 (by kernel_rfl) (Bn rfl (by kernel_rfl) (ML Tryz.underlying22 (by kernel_rfl) (by omega) (b:=88) (by kernel_rfl) oRoo) (Bn rfl (by kernel_rfl) (ML Tryz.underlying23 (by kernel_rfl) (by omega) (b:=96) (by kernel_rfl) oItm) Ih))).asQ
  (fun a=>(⟨a.1,a.2.1⟩:Prb)) (fun _ _=>rfl) (fun _ _=>trivial)
end
end Go.Proofs.YtnkkaeblokdifaaGreat
