/- Layer 30: what holds of the network in closed form. Plain laws. -/
import Derived.Test.YtnkkaeblokdifaaGreatMg23
namespace Go.Proofs.YtnkkaeblokdifaaGreat
open Go.RowKit
set_option maxRecDepth 100000
theorem FC (N:Net) (i:Nat):(Ap N).nd.getD i Bc=Dz (N.nd.getD i Bc):=by
 show (N.nd.map Dz).getD i Bc=_;rw [List.getD_eq_getElem?_getD,List.getD_eq_getElem?_getD,List.getElem?_map]
 cases N.nd[i]?<;>rfl
theorem Hf (N:Net) (j:Nat):(Ap N).po.getD j CC=CZ (N.po.getD j CC):=by
 show (N.po.map CZ).getD j CC=_;rw [List.getD_eq_getElem?_getD,List.getD_eq_getElem?_getD,List.getElem?_map]
 cases N.po[j]?<;>rfl
theorem Gj (N:Net):BY (Ap N)=BY N:=by
 unfold BY Ap;rw [List.map_map];rfl
theorem Vi (N:Net) (x:Nd):F5 (Ap N) (Dz x)=F5 N x:=by
 have h1:badP (Ap N)=badP N:=funext fun e=>by unfold badP;rw [Hf];rfl
 have h2:∀e,NI (Ap N) (Dz x) e=NI N x e:=fun e=>by unfold NI;rw [Hf,FC];rfl
 have h3:offOf (Ap N)=offOf N:=funext fun e=>by unfold offOf;rw [FC,Gj];rfl
 unfold F5;rw [h1,h3];show (match x.pl.find? (badP N) with | some e=>_ | none=>match x.it.af.find? (offOf N) with | some id=>_ | none=>_)=_
 cases x.pl.find? (badP N) with
 | some e=>show some (NI (Ap N) (Dz x) e)=some (NI N x e);rw [h2]
 | none=>rfl
theorem RC (N:Net):D3 (Ap N)=D3 N:=by
 have h1:(Ap N).nd.findSome? (ndX (Ap N))=N.nd.findSome? (ndX N):=by
  show (N.nd.map Dz).findSome? _=_;rw [List.findSome?_map]
  congr 1
  funext x
  show ndX (Ap N) (Dz x)=ndX N x;unfold ndX;rw [Vi];rfl
 have h2:(Ap N).po.findSome? (SF (Ap N))=N.po.findSome? (SF N):=by
  show (N.po.map CZ).findSome? _=_;rw [List.findSome?_map]
  congr 1
  funext y
  show SF (Ap N) (CZ y)=SF N y;have h3:onN (Ap N)=onN N:=funext fun i=>by unfold onN;rw [FC];rfl
  have h4:∀i,((Ap N).nd.getD i Bc).it.id=(N.nd.getD i Bc).it.id:=fun i=>by rw [FC];rfl
  unfold SF;rw [h3];show (if M9 y y.sum=true then (y.q.reverse.find? (onN N)).map fun i=>(⟨((Ap N).nd.getD i Bc).it.id,0,y.r,-1⟩:J0) else none)=_;rw [show (fun i=>(⟨((Ap N).nd.getD i Bc).it.id,0,y.r,-1⟩:J0))=fun i=>⟨(N.nd.getD i Bc).it.id,0,y.r,-1⟩ from funext fun i=>by rw [h4]]
 unfold D3;rw [h1,h2]
theorem YK {N:Net} {x:Nd} {e:J0} (h:F5 N x=some e):e.id=x.it.id:=by
 unfold F5 at h
 split at h
 ·injection h with h;subst h;rfl
 ·split at h
  ·injection h with h;subst h;rfl
  ·cases h
theorem UR {N:Net} {e:J0} (h:D3 N=some e):∃(i:Nat) (x:Nd),N.nd[i]?=some x∧x.on=true∧e.id=x.it.id:=by
 unfold D3 at h
 split at h
 ·rename_i e' h1
  injection h with h;subst h
  obtain ⟨x,hx,h2⟩:=List.exists_of_findSome?_eq_some h1;obtain ⟨i,hi,e1⟩:=List.getElem_of_mem hx;unfold ndX at h2
  split at h2
  ·rename_i ho
   exact ⟨i,x,by rw [List.getElem?_eq_getElem hi,e1],ho,YK h2⟩
  ·cases h2
 ·obtain ⟨y,hy,h2⟩:=List.exists_of_findSome?_eq_some h;unfold SF at h2
  split at h2
  ·cases hf:y.q.reverse.find? (onN N) with
   | none=>rw [hf] at h2;cases h2
   | some i=>
    rw [hf] at h2;injection h2 with h2;subst h2
    have ho:=List.find?_some hf;unfold onN at ho
    by_cases hi:i<N.nd.length
    ·rw [Bd Bc hi] at ho;exact ⟨i,N.nd[i],List.getElem?_eq_getElem hi,ho,by show (N.nd.getD i Bc).it.id=_;rw [Bd Bc hi]⟩
    ·rw [List.getD_eq_getElem?_getD,List.getElem?_eq_none (by omega)] at ho
     cases ho
  ·cases h2
structure SmO (ros:List Roo) (its:List AT):Prop where
 l:its.length≤30
 x:∀x∈its,ZC x
 i:(its.map AT.id).Nodup
 a:∀x∈its,∀id∈x.af,id∈its.map AT.id
 r:(ros.map Roo.r).Nodup
 n:∀x∈ros,-4000000000000000≤x.n∧x.n≤4000000000000000
 o:ros.length≤100
theorem S_nd {ros:List Roo} {its:List AT} {on:Nat ->Bool} {x:Nd} (h:x∈(netS ros its on).nd):∃i,i<its.length∧x=IH (ros.map Roo.r) its on i:=by
 obtain ⟨i,hi,e⟩:=List.mem_map.1 h;exact ⟨i,List.mem_range.1 hi,e.symm⟩
theorem N0 (ros:List Roo) (its:List AT) (on:Nat ->Bool):BY (netS ros its on)=its.map AT.id:=by
 unfold BY netS;rw [List.map_map]
 apply List.ext_getElem (by simp)
 intro i a b;simp only [List.getElem_map,List.getElem_range,Function.comp];show (its.getD i itm0).id=_;rw [Bd itm0 (by simpa using b)]
theorem efK_mem {rs:List A5} {D:List (A5×Int)} {e:Nat×Int} (h:e∈efK rs D):∃d∈D,e.2=d.2:=by
 obtain ⟨d,hd,rfl⟩:=List.mem_map.1 h;exact ⟨d,(List.mem_filter.1 hd).1,rfl⟩
theorem plK_mem {rs:List A5} {ds:List (List (A5×Int))} {D:List (A5×Int)} {e:Nat×Nat} (h:e∈plK rs ds D):∃d∈D,d.1∈rs∧d.2<0∧e=(rs.idxOf d.1,(negQ ds d.1).length):=by
 obtain ⟨d,hd,rfl⟩:=List.mem_map.1 h;have h1:=List.mem_filter.1 hd;have h2:=h1.2;simp only [Bool.and_eq_true,decide_eq_true_eq] at h2;exact ⟨d,h1.1,h2.1,h2.2,rfl⟩
theorem S_sum {ros:List Roo} {its:List AT} (h:SmO ros its) (on:Nat ->Bool) (r:A5): -30000000000000000≤DY (its.map dltS) on r∧DY (its.map dltS) on r≤30000000000000000:=by
 have key:∀l:List Nat,-(l.length*1000000000000000)≤(l.map fun i=>if on i=true then Br ((its.map dltS).getD i []) r else 0).sum∧(l.map fun i=>if on i=true then Br ((its.map dltS).getD i []) r else 0).sum≤l.length*1000000000000000:=by
  intro l
  induction l with
  | nil=>simp
  | cons i l ih=>
   simp only [List.map_cons,List.sum_cons,List.length_cons]
   have hb:QL ((its.map dltS).getD i []):=by
    rcases getD_mem (l:=its.map dltS) (d:=[]) i with hm | hm
    ·obtain ⟨x,_,e⟩:=List.mem_map.1 hm;rw [←e];exact KL x
    ·rw [hm];intro x hx;cases hx
   have h1:=Uc hb r
   split<;>omega
 have h1:=key (List.range (its.map dltS).length);have h2:=h.l;unfold DY;rw [List.length_range,List.length_map] at h1;rw [List.length_map] at*;omega
theorem S_w {ros:List Roo} {its:List AT} (h:SmO ros its) (on:Nat ->Bool):NetW (netS ros its on):=by
 have hl:=h.l
 have hmi:∀y∈(netS ros its on).po,y.q.length≤30∧y.mi≤30∧∃x∈ros,y=XM (its.map dltS) on x:=fun y hy=>by
  obtain ⟨x,hx,e⟩:=List.mem_map.1 hy;subst e;have h1:=Jx (its.map dltS) x.r;rw [List.length_map] at h1;have h2:Xq on (negQ (its.map dltS) x.r)≤(negQ (its.map dltS) x.r).length:=List.findIdx_le_length;exact ⟨by show (negQ _ _).length≤_;omega,by show Xq _ _≤_;omega,x,hx,rfl⟩
 refine ⟨by rw [N0];exact h.i,fun x hx id hid=>?_,fun x hx=>?_,fun x hx e he=>?_,fun x hx e he=>?_,fun y hy=>?_,fun y hy=>?_,?_,fun y hy=>?_⟩
 ·obtain ⟨i,hi,rfl⟩:=S_nd hx;rw [N0];refine h.a (its.getD i itm0) (by rw [Bd itm0 hi];exact List.getElem_mem hi) id hid
 ·obtain ⟨i,hi,rfl⟩:=S_nd hx;have hm:its.getD i itm0∈its:=by rw [Bd itm0 hi];exact List.getElem_mem hi
  have h1:=KK (h.x _ hm);have h2:=U5 (ros.map Roo.r) (dltS (its.getD i itm0));have h3:=UD (ros.map Roo.r) ((its.map dltS).take i) (dltS (its.getD i itm0));have h4:=(h.x _ hm).2.2;exact ⟨by show (efK _ _).length≤_;omega,by show (plK _ _ _).length≤_;omega,by show (its.getD i itm0).af.length≤_;omega⟩
 ·obtain ⟨i,hi,rfl⟩:=S_nd hx;obtain ⟨d,hd,e1⟩:=efK_mem he;have:=KL _ d hd;rw [e1];omega
 ·obtain ⟨i,hi,rfl⟩:=S_nd hx;obtain ⟨d,hd,hm,hneg,rfl⟩:=plK_mem he;obtain ⟨hj,hr⟩:=Ly hm;have hdi:i<(its.map dltS).length:=by simpa using hi
  have hgi:(its.map dltS).getD i []=dltS (its.getD i itm0):=by rw [Bd [] hdi,Bd itm0 hi,List.getElem_map]
  have hamt:Br ((its.map dltS).getD i []) d.1=d.2:=by rw [hgi];exact ZcV (Zc4 _) hd
  obtain ⟨B,c1,c2,c3⟩:=Jy hdi d.1
  have hq:((netS ros its on).po.getD ((ros.map Roo.r).idxOf d.1) CC).q=negQ (its.map dltS) d.1:=by
   show ((ros.map _).getD _ CC).q=_;rw [Bd CC (by simpa using hj),List.getElem_map];show negQ _ (ros[(ros.map Roo.r).idxOf d.1]).r=_;rw [hr]
  rw [hq];dsimp only;have hlen:=congrArg List.length c1;rw [if_pos (by rw [hamt];exact hneg),List.length_append,List.length_append,List.length_singleton] at hlen;have h1:=Jx ((its.map dltS).take i) d.1;rw [List.length_take,List.length_map] at h1;omega
 ·have:=hmi y hy;omega
 ·obtain ⟨_,_,x,hx,rfl⟩:=hmi y hy;have:=h.n x hx;show -1000000000000000000≤x.n∧x.n≤1000000000000000000;omega
 ·have h1:(netS ros its on).nd.length=its.length:=by unfold netS;simp
  have h2:(netS ros its on).po.length=ros.length:=by unfold netS;simp
  have:=h.o;omega
 ·have:=hmi y hy;omega
theorem W_ers {N:Net} (h:NetW (Ap N)):NetW N:=by
 have hn:∀x∈N.nd,Dz x∈(Ap N).nd:=fun x hx=>List.mem_map.2 ⟨x,hx,rfl⟩;have hp:∀y∈N.po,CZ y∈(Ap N).po:=fun y hy=>List.mem_map.2 ⟨y,hy,rfl⟩;refine ⟨by rw [←Gj];exact h.i,fun x hx id hid=>by rw [←Gj];exact h.a _ (hn x hx) id hid,fun x hx=>h.l (Dz x) (hn x hx),fun x hx=>h.e (Dz x) (hn x hx),fun x hx e he=>?_,fun y hy=>h.m (CZ y) (hp y hy),fun y hy=>h.rm (CZ y) (hp y hy),?_,fun y hy=>h.ql (CZ y) (hp y hy)⟩
 ·have:=h.p _ (hn x hx) e he;rw [Hf] at this;exact this
 ·have:=h.n;have h1:(Ap N).nd.length=N.nd.length:=by unfold Ap;simp
  have h2:(Ap N).po.length=N.po.length:=by unfold Ap;simp
  omega
theorem S_sumB {N:Net} {ros:List Roo} {its:List AT} (h:SmO ros its) {on:Nat ->Bool} (hN:Ap N=netS ros its on):QX N.po 1000000000000000000:=fun y hy=>by
 have h1:CZ y∈(Ap N).po:=List.mem_map.2 ⟨y,hy,rfl⟩;rw [hN] at h1;obtain ⟨x,hx,e⟩:=List.mem_map.1 h1;have h2:=S_sum h on x.r;have h3:y.sum=DY (its.map dltS) on x.r:=congrArg Po.sum e.symm;rw [h3];omega
def G9 (ros:List Roo) (its:List AT):Nat ->(Nat ->Bool) ->List J0×(Nat ->Bool)
 | 0,on=>([],on)
 | f+1,on=>match D3 (netS ros its on) with
  | none=>([],on)
  | some e=>(e::(G9 ros its f (Ag on ((its.map AT.id).idxOf e.id))).1,(G9 ros its f (Ag on ((its.map AT.id).idxOf e.id))).2)
def GN (n:Nat) (on:Nat ->Bool):Nat:=((List.range n).filter on).length
def Om (p:Prb):List J0×(Nat ->Bool):=G9 (CX p) (ordP p) (ordP p).length fun _=>true
def B3 (its:List AT) (on:Nat ->Bool) (k:Nat):List Int:=((List.range k).filter on).map fun i=>(its.getD i itm0).id
theorem IS {n i:Nat} (hi:i<n) {on:Nat ->Bool} (ho:on i=true):GN n (Ag on i)+1=GN n on:=by
 obtain ⟨B,h1,h3⟩:=ID hi;unfold GN;rw [h1,List.filter_append,List.filter_append,List.length_append,List.length_append,List.filter_cons,List.filter_cons,Eg,ho];have e1:(List.range i).filter (Ag on i)=(List.range i).filter on:=List.filter_congr fun j hj=>Zdc (by have:=List.mem_range.1 hj;omega);have e2:B.filter (Ag on i)=B.filter on:=List.filter_congr fun j hj=>Zdc (by have:=h3 j hj;omega);rw [e1,e2]
 simp
 omega
theorem iOq {α:Type} [BEq α] [LawfulBEq α] {l:List α} (hn:l.Nodup) {i:Nat} (hi:i<l.length):l.idxOf l[i]=i:=by
 have h1:l.idxOf l[i]<l.length:=List.idxOf_lt_length_of_mem (List.getElem_mem hi);have h2:=List.getElem_idxOf h1;exact (List.getElem_inj hn).1 h2
theorem Q9 {ros:List Roo} {its:List AT} {f:Nat} {on:Nat ->Bool} (h:D3 (netS ros its on)=none):G9 ros its f on=([],on):=by
 cases f with
 | zero=>rfl
 | succ f=>unfold G9;rw [h]
theorem Q8 {ros:List Roo} {its:List AT} {f:Nat} {on:Nat ->Bool} {e:J0} (h:D3 (netS ros its on)=some e):G9 ros its (f+1) on=(e::(G9 ros its f (Ag on ((its.map AT.id).idxOf e.id))).1,(G9 ros its f (Ag on ((its.map AT.id).idxOf e.id))).2):=by
 show (match D3 (netS ros its on) with | none=>_ | some e=>_)=_;rw [h]
theorem QE {ros:List Roo} {its:List AT} {on:Nat ->Bool} {N:Net} (h:Ap N=netS ros its on) {i:Nat} {x:Nd} (hx:N.nd[i]?=some x):i<its.length∧x.on=on i∧x.it=its.getD i itm0:=by
 have h1:(N.nd.map Dz)[i]?=some (Dz x):=by rw [List.getElem?_map,hx];rfl
 rw [show N.nd.map Dz=(List.range its.length).map (IH (ros.map Roo.r) its on) from congrArg Net.nd h] at h1;have hi:i<its.length:=by have:=(List.getElem?_eq_some_iff.1 h1).1;simpa using this
 rw [List.getElem?_map,List.getElem?_range hi] at h1;have h2:Dz x=IH (ros.map Roo.r) its on i:=(Option.some.inj h1).symm;exact ⟨hi,congrArg Nd.on h2,congrArg Nd.it h2⟩
theorem Mc (its:List AT) (on:Nat ->Bool) (k:Nat):B3 its on (k+1)=B3 its on k++if on k=true then [(its.getD k itm0).id] else []:=by
 unfold B3;rw [List.range_succ,List.filter_append,List.map_append,Oh]
 split<;>rfl
theorem VX (its:List AT) (on:Nat ->Bool) (k:Nat):(B3 its on k).length≤k:=by
 unfold B3;rw [List.length_map];exact Nat.le_trans (List.length_filter_le _ _) (by simp)
theorem S_len {ros:List Roo} {its:List AT} {on:Nat ->Bool} {N:Net} (h:Ap N=netS ros its on):N.nd.length=its.length:=by
 have h1:=congrArg (fun N=>N.nd.length) h;have h2:(N.nd.map Dz).length=((List.range its.length).map _).length:=h1
 rwa [List.length_map,List.length_map,List.length_range] at h2
theorem Wi {p:Prb} (hf:Gr p) (hE:Ao p=0):SmO (CX p) (ordP p):=by
 refine ⟨Nat.le_trans (EK p) hf.i,fun x hx=>hf.x x (HZ hx),P2 hE,fun x hx id hid=>?_,MT hE,fun x hx=>?_,?_⟩
 ·have h1:ordP p=sortO p.it:=if_pos hE;have h2:TM (p.it.map AT.id) x=0:=KF (KW hE).2.2 _ (List.mem_map.2 ⟨x,HZ hx,rfl⟩)
  have h3:id∈p.it.map AT.id:=by
   unfold TM at h2
   split at h2
   ·cases h2
   ·rename_i h4
    by_cases h5:id∈p.it.map AT.id
    ·exact h5
    ·exact absurd (List.any_eq_true.2 ⟨id,hid,by unfold Jv;simpa using h5⟩) h4
  rw [h1];exact ((QD p.it).map AT.id).mem_iff.2 h3
 ·have h1:x∈p.ro:=by
   obtain ⟨i,hi,rfl⟩:=List.mem_map.1 hx;have hi':=List.mem_range.1 ((WL (p.ro.map Roo.r)).mem_iff.1 hi);rw [Bd DD (by simpa using hi')];exact List.getElem_mem _
  exact OL (KW hE).1 x h1
 ·unfold CX;rw [List.length_map,(WL _).length_eq,List.length_range,List.length_map];exact hf.r
theorem R8 (p:Prb) (hf:Gr p) (hE:Ao p≠0):AU Tryz.prog 28 [.d (Cc p)] (.tup [.sl (some true) [],.sl (some true) [],AH (Ao p)]):=by
 have hbu:=Or p hf hE;refine B2 Tryz.func28 Z Z Tryz.ntmps28 Z Z Z fun F hF=>(AF ?_);refine AJ (U (C5 1 Z Z Z Z Z Z Z) (AD Z Z (AD Z Z (AD Z Z (AG (Uf (AF (AJ ?_))))))))
 first | refine J (Av Z Z A4 rfl) ?_ | refine J (Aw Z Z A4 Z Z Z) ?_ | refine J (Ax Z Z (rfl) rfl A4 rfl) ?_
 refine U (Fp hbu rfl [] trivial Z Z Z Z Z Z Z Z Z) (AC Z Z ?_)
 first | refine J (B6 Z Z Z) ?_ | refine J (B7 Z Z Z) ?_
 first | refine J (B6 Z Z Z) ?_ | refine J (B7 Z Z Z) ?_
 refine AD Z Z (AD Z Z (AG (AF (AF (AJ (AC Z Z ?_))))))
 first | refine J (Fa Z Z Z) ?_ | refine J (F9 Z Z Z) ?_ | refine J (FM Z Z Z) ?_ | refine J (Fb Tryz.underlying34 Z Z Z) ?_ | refine J (Fd Tryz.underlying34 Z Z Z) ?_ | refine J (st_neqN Tryz.underlying34 Z Z) ?_ | refine J (Fc Tryz.underlying34 Z Z Z) ?_ | refine J (st_neqFN Tryz.underlying34 Z Z) ?_
 refine AG ?_;refine EB rfl ((by simpa using hE)) (AF (AJ (AC Z Z (AD Z Z (AD Z Z (AD Z Z (AG (Ae ?_))))))));exact ⟨_,[],[],Aa rfl,rfl,rfl,rfl,rfl⟩
set_option maxHeartbeats 1000000 in
theorem TN (p:Prb) (hf:Gr p) (hE:Ao p=0):AU Tryz.prog 28 [.d (Cc p)] (.tup [.sl none ((B3 (ordP p) (Om p).2 (ordP p).length).map AH),.sl none ((Om p).1.map YU),AH 0]):=by
 have hbu:=Rn p hf hE;have hsm:=Wi hf hE;unfold Om;rw [Xg] at hbu
 obtain ⟨its,hits⟩:∃its,ordP p=its:=⟨_,rfl⟩
 obtain ⟨ros,hros⟩:∃ros,CX p=ros:=⟨_,rfl⟩
 rw [hits,hros] at hbu hsm⊢;have hl:=hsm.l;refine B2 Tryz.func28 Z Z Tryz.ntmps28 Z Z Z fun F hF=>(AF ?_);refine AJ (U (C5 1 Z Z Z Z Z Z Z) (AD Z Z (AD Z Z (AD Z Z (AG (Uf (AF (AJ ?_))))))))
 first | refine J (Av Z Z A4 rfl) ?_ | refine J (Aw Z Z A4 Z Z Z) ?_ | refine J (Ax Z Z (rfl) rfl A4 rfl) ?_
 refine Mh (Jd hbu rfl [40,50,51] ⟨rfl,rfl,rfl,trivial⟩ Z Z Z Z (fun r H' ⟨_,_,_,_,_,_,_,e1,e2,_⟩=>by subst e1 e2;exact ⟨rfl,rfl,rfl⟩) rfl) rfl ?_;rintro _ ⟨r,H',⟨wb,mv,nb,pb,N,M,bs,rfl,rfl,hR,hN⟩,rfl⟩;refine AC Z Z ?_
 first | refine J (B6 Z Z Z) ?_ | refine J (B7 Z Z Z) ?_
 first | refine J (B6 Z Z Z) ?_ | refine J (B7 Z Z Z) ?_
 refine AD Z Z (AD Z Z (AG (AF (AF (AJ (AC Z Z ?_))))))
 first | refine J (Fa Z Z Z) ?_ | refine J (F9 Z Z Z) ?_ | refine J (FM Z Z Z) ?_ | refine J (Fb Tryz.underlying34 Z Z Z) ?_ | refine J (Fd Tryz.underlying34 Z Z Z) ?_ | refine J (st_neqN Tryz.underlying34 Z Z) ?_ | refine J (Fc Tryz.underlying34 Z Z Z) ?_ | refine J (st_neqFN Tryz.underlying34 Z Z) ?_
 refine AG (Fs rfl (rfl) (Ak (AF ?_)));have hids:BY N=its.map AT.id:=by rw [←Gj,hN,N0]
 rw [hids];refine AJ (AD Z Z (AG (AF (a_label (AF (Al (EA 7 900 sl85 Z Z Z Z (DG (α:=(Nat ->Bool)×Net×MF×List J0×Nat) (fun q=>⟨64,[(5,(.d (pD wb 0))),(7,(.own 900 0 q.2.2.2.1.length))],(900,[.rowD 148 9 (q.2.2.2.1.map YU)])::HW mv bs (F8 nb (its.map AT.id)) q.2.2.1⟩) (fun q=>CK wb mv nb pb q.2.1 q.2.2.1∧Ap q.2.1=netS ros its q.1∧GN its.length q.1≤q.2.2.2.2∧q.2.2.2.1.length+q.2.2.2.2≤its.length∧q.2.2.2.1++(G9 ros its q.2.2.2.2 q.1).1=(G9 ros its its.length fun _=>true).1∧(G9 ros its q.2.2.2.2 q.1).2=(G9 ros its its.length fun _=>true).2) (fun q=>q.2.2.2.2) ((fun _=>true,N,M,[],its.length)) (⟨hR,hN,by show ((List.range its.length).filter _).length≤_;exact Nat.le_trans (List.length_filter_le _ _) (by simp),by simp,rfl,rfl⟩) (BA hF [900,40,50,51] Z Z ⟨rfl,rfl,trivial⟩) ?_))))))));rintro ⟨on,N,M,acc,f⟩ ⟨hR,hN,hc,hal,hr1,hr2⟩;dsimp only at hR hN hc hal hr1 hr2⊢;refine Al (AF ?_);have hw:=W_ers (N:=N) (by rw [hN];exact S_w hsm on);have hsb:=S_sumB hsm hN;have hids:BY N=its.map AT.id:=by rw [←Gj,hN,N0]
 have hnx:=next_c bs hR hw hsb;rw [hids] at hnx;refine AJ (AC Z Z (U (Fp hnx rfl [40,50,51] ⟨rfl,rfl,rfl,trivial⟩ Z Z Z Z Z Z Z Z Z) (AC Z Z ?_)))
 cases hne:D3 N
 ·first | refine J (B6 Z Z Z) ?_ | refine J (B7 Z Z Z) ?_
  first | refine J (B6 Z Z Z) ?_ | refine J (B7 Z Z Z) ?_
  refine U (DO 2 I6 Z Z Z Z) (U (CF Z Z Z Z Z Z Z J7) (AD Z Z (AG (AF (AF (AJ (AC Z Z ?_)))))))
  first | refine J (GZ Z Z) ?_ | refine J (GP Z Z) ?_
  refine AG (EB rfl (rfl) (CW (AF ?_)));have hro:G9 ros its f on=([],on):=Q9 (by rw [←hN,RC,hne]);rw [hro] at hr1 hr2;rw [List.append_nil] at hr1;dsimp only at hr2;have hwb:=hR.w;have hnr:BX M N.nh XN 1 ((List.range N.nd.length).map fun i=>BK (nb i)):=hR.rs.1 .n;have hnz:=SA hnr;rw [List.length_range] at hnz;have hNl:=S_len hN;refine AJ (AD Z Z (AG (AF (AF (AJ (AC Z Z ?_))))))
  first | refine J (BS Z Z) ?_ | refine J (BQ Z Z) ?_ | refine J (BT Z Z) ?_ | refine J (BR Z Z) ?_
  first | refine J (AM rfl GT Z Z Z) ?_ | refine J (AO rfl GT Z Z Z) ?_ | refine J (AP rfl GT Z Z Z) ?_ | refine J (AN rfl GT Z Z Z) ?_ | refine J (AL rfl GT Z Z Z) ?_
  refine J (Ej (f:=40) Z Z (hwb) rfl Gb rfl) (J (SK hnz rfl Tryz.underlying98 rfl) (AC Z Z (AG (Al (EA 10 901 C7 Z Z Z Z (DG (α:=Nat×List Int) (fun q=>⟨64,[(7,(.own 900 0 acc.length)),(10,(.own 901 0 q.2.length)),(43,(.d (hdr N.nh N.nd.length))),(44,(.d (AH (N.nd.length:Int)))),(45,(.d (AH (q.1:Int))))],(901,[.rowD 3 1 (q.2.map AH)])::(900,[.rowD 148 9 (acc.map YU)])::HW mv bs (F8 nb (its.map AT.id)) M⟩) (fun q=>q.1≤N.nd.length∧q.2=B3 its on q.1) (fun q=>N.nd.length - q.1) ((0,[])) (⟨Nat.zero_le _,rfl⟩) (BA hF [901,900,40,50,51] Z Z ⟨rfl,rfl,rfl,rfl,rfl,trivial⟩) ?_))))));rintro ⟨k,ids⟩ ⟨hk0,hI⟩;dsimp only at hk0 hI⊢;refine AF (AJ ?_)
  first | refine J (CD Z Z Z) ?_ | refine J (CE Z Z Z) ?_
  refine AG (AF ?_)
  first | refine Ay rfl (fun h46=>?_) (fun h46=>?_) | refine At rfl (fun h46=>?_) (fun h46=>?_)
  ·have hk1:k<N.nd.length:=DA h46;refine Ak (AF (Al (AF ?_)))
   obtain ⟨x,hx⟩:∃x,N.nd[k]?=some x:=⟨_,List.getElem?_eq_getElem hk1⟩
   obtain ⟨hiN,hoi,hit⟩:=QE hN hx;have hxb:=hR.n k x hx;obtain ⟨rb,rc,hre⟩:=SJ hnr (j:=k) (by rw [List.length_range];exact hk1);have hrow:=QK hnr hre;have hidl:ids.length≤k:=by rw [hI];exact VX its on k
   refine AJ (J (SL hre (k) Z Z Z hk1 Tryz.underlying98 PM rfl) (J (Zdk (f:=40) (e:=k) (off:=0) rfl (by omega) rfl (hrow) ((by rw [List.getElem?_map,List.getElem?_range hk1];rfl)) rfl St rfl) ?_));refine AD Z Z (AG (AF (AJ (AC Z Z ?_))))
   first | refine J (BS Z Z) ?_ | refine J (BQ Z Z) ?_ | refine J (BT Z Z) ?_ | refine J (BR Z Z) ?_
   first | refine J (AM rfl FJ Z Z Z) ?_ | refine J (AO rfl FJ Z Z Z) ?_ | refine J (AP rfl FJ Z Z Z) ?_ | refine J (AN rfl FJ Z Z Z) ?_ | refine J (AL rfl FJ Z Z Z) ?_
   refine J (Ej (f:=40) Z Z (hxb) rfl on4 rfl) (AG ?_)
   first | refine Ay rfl (fun h52=>?_) (fun h52=>?_) | refine At rfl (fun h52=>?_) (fun h52=>?_)
   ·refine AJ (AC Z Z (AC Z Z ?_))
    first | refine J (BS Z Z) ?_ | refine J (BQ Z Z) ?_ | refine J (BT Z Z) ?_ | refine J (BR Z Z) ?_
    first | refine J (AM rfl Dn Z Z Z) ?_ | refine J (AO rfl Dn Z Z Z) ?_ | refine J (AP rfl Dn Z Z Z) ?_ | refine J (AN rfl Dn Z Z Z) ?_ | refine J (AL rfl Dn Z Z Z) ?_
    first | refine J (AM rfl Bm Z Z Z) ?_ | refine J (AO rfl Bm Z Z Z) ?_ | refine J (AP rfl Bm Z Z Z) ?_ | refine J (AN rfl Bm Z Z Z) ?_ | refine J (AL rfl Bm Z Z Z) ?_
    refine J (Ej (f:=40) Z Z (hxb) rfl Ab rfl) (U (Fq 3 C7 Z Z Z Z Z Z Z Z) ?_)
    first | refine U (If (ids) ([x.it.id]) Z Z Z Z Z Z Z Z C7 (by simp only [List.length_singleton];omega) Z Z Z Z) ?_ | refine U (LD (ids) ([x.it.id]) Z Z Z Z Z Z (fun _=>rfl) C7 (by simp only [List.length_singleton];omega) Z Z Z Z) ?_
    refine AD Z Z (AG (AJ (J (Bi Z Z (Ac (k+1) (by omega)) rfl) (AC Z Z (AG ?_)))));exact ⟨(k+1,_),⟨by show k+1≤_;omega,by show _=B3 its on (k+1);rw [Mc,if_pos (by rw [←hoi];simpa using h52),←hI,←hit]⟩,by show N.nd.length - (k+1)<N.nd.length - k;omega,BA hF [901,900,40,50,51] rfl (rfl) ⟨rfl,rfl,rfl,rfl,rfl,trivial⟩⟩
   ·refine Ak (AJ (J (Bi Z Z (Ac (k+1) (by omega)) rfl) (AC Z Z (AG ?_))));exact ⟨(k+1,_),⟨by show k+1≤_;omega,by show _=B3 its on (k+1);rw [Mc,if_neg (by rw [←hoi];simpa using h52),List.append_nil,←hI]⟩,by show N.nd.length - (k+1)<N.nd.length - k;omega,BA hF [901,900,40,50,51] rfl (rfl) ⟨rfl,rfl,rfl,rfl,rfl,trivial⟩⟩
  ·refine CW (AF ?_);have hke:k=its.length:=by have h:=h46;omega
   refine WK (emb:=YU) 7 900 acc Z Z Z Z Z Z Z ?_;refine WK (emb:=AH) 10 901 ids Z Z Z Z Z Z Z (AJ (AC Z Z (AC Z Z (AD Z Z (AD Z Z (AD Z Z (AG (Ae ?_))))))));exact ⟨_,[],[],Aa rfl,rfl,rfl,by rw [←hr2,←hr1,hI,hke],rfl⟩
 ·first | refine J (B6 Z Z Z) ?_ | refine J (B7 Z Z Z) ?_
  first | refine J (B6 Z Z Z) ?_ | refine J (B7 Z Z Z) ?_
  refine U (DO 4 I6 Z Z Z Z) (U (CF Z Z Z Z Z Z Z J7) (AD Z Z (AG (AF (AF (AJ (AC Z Z ?_)))))))
  first | refine J (GZ Z Z) ?_ | refine J (GP Z Z) ?_
  refine AG (Fs rfl (rfl) (Ak (AF ?_)))
  rename_i e
  obtain ⟨i,x,hx,hon,hid⟩:=UR hne;obtain ⟨hiN,hoi,hit⟩:=QE hN hx;rw [hon] at hoi;have hoi:=hoi.symm;have hil:i<(its.map AT.id).length:=by rw [List.length_map];exact hiN
  have hei:(its.map AT.id)[i]=e.id:=by rw [hid,hit,List.getElem_map,Bd itm0 hiN]
  have hby:=Pq (nb:=nb) hsm.i hil;rw [hei] at hby;have hcn:=IS hiN hoi
  obtain ⟨f2,rfl⟩:∃f2,f=f2+1:=⟨f - 1,by omega⟩
  have hrs:G9 ros its (f2+1) on=(e::(G9 ros its f2 (Ag on i)).1,(G9 ros its f2 (Ag on i)).2):=by rw [Q8 (by rw [←hN,RC,hne]),←hei,iOq hsm.i hil]
  have hxm:=List.mem_of_getElem? hx;have hrm:=XE hR hx hsb (hw.e x hxm) (hw.l x hxm).1 (hw.l x hxm).2.1 (fun e he=>(hw.p x hxm e he).2) hw.m;refine Gp [[],[0],[0,1],[0,1,2],[],[4],[0,1,2,3,4,5],[0,1,2,3,4,5,6]] BF rfl (Hh ?_)
  first | refine AE [5] [] Z Z (fun _=>AB (Be Z Z)) ?_ | refine AI [5] Z Z (fun _=>AB (Be Z Z)) ?_
  first | refine AE [28] [] Z Z (fun _=>AB (BS Z Z)) ?_ | refine AI [28] Z Z (fun _=>AB (BS Z Z)) ?_ | refine AE [28] [] Z Z (fun _=>AB (BQ Z Z)) ?_ | refine AI [28] Z Z (fun _=>AB (BQ Z Z)) ?_ | refine AE [28] [] Z Z (fun _=>AB (BT Z Z)) ?_ | refine AI [28] Z Z (fun _=>AB (BT Z Z)) ?_ | refine AE [28] [] Z Z (fun _=>AB (BR Z Z)) ?_ | refine AI [28] Z Z (fun _=>AB (BR Z Z)) ?_
  first | refine AE [29] [] Z Z (fun _=>AB (AM rfl JV Z Z Z)) ?_ | refine AI [29] Z Z (fun _=>AB (AM rfl JV Z Z Z)) ?_ | refine AE [29] [] Z Z (fun _=>AB (AO rfl JV Z Z Z)) ?_ | refine AI [29] Z Z (fun _=>AB (AO rfl JV Z Z Z)) ?_ | refine AE [29] [] Z Z (fun _=>AB (AP rfl JV Z Z Z)) ?_ | refine AI [29] Z Z (fun _=>AB (AP rfl JV Z Z Z)) ?_ | refine AE [29] [] Z Z (fun _=>AB (AN rfl JV Z Z Z)) ?_ | refine AI [29] Z Z (fun _=>AB (AN rfl JV Z Z Z)) ?_ | refine AE [29] [] Z Z (fun _=>AB (AL rfl JV Z Z Z)) ?_ | refine AI [29] Z Z (fun _=>AB (AL rfl JV Z Z Z)) ?_
  refine AE [30] [40] Z Z (fun _=>AB (Ej (f:=40) Z Z (hR.w) rfl UL rfl)) ?_
  first | refine AE [8] [] Z Z (fun _=>AB (AM rfl Dv Z Z Z)) ?_ | refine AI [8] Z Z (fun _=>AB (AM rfl Dv Z Z Z)) ?_ | refine AE [8] [] Z Z (fun _=>AB (AO rfl Dv Z Z Z)) ?_ | refine AI [8] Z Z (fun _=>AB (AO rfl Dv Z Z Z)) ?_ | refine AE [8] [] Z Z (fun _=>AB (AP rfl Dv Z Z Z)) ?_ | refine AI [8] Z Z (fun _=>AB (AP rfl Dv Z Z Z)) ?_ | refine AE [8] [] Z Z (fun _=>AB (AN rfl Dv Z Z Z)) ?_ | refine AI [8] Z Z (fun _=>AB (AN rfl Dv Z Z Z)) ?_ | refine AE [8] [] Z Z (fun _=>AB (AL rfl Dv Z Z Z)) ?_ | refine AI [8] Z Z (fun _=>AB (AL rfl Dv Z Z Z)) ?_
  first | refine AE [32] [4] Z Z (fun _=>AB (AY Z Z Ab rfl)) ?_ | refine AE [32] [4] Z Z (fun _=>AB (AW Z Z Z Ab rfl)) ?_ | refine AE [32] [4] Z Z (fun _=>AB (AX Z Z (rfl) rfl Ab rfl)) ?_
  refine GR 6 Z Z Z (BC 7 Z Z (Ex 31 51 0 Z Z (J (LC (F8 nb (its.map AT.id)) e.id (.pointer none) (pV (nb i) 0) Z Z Z UU KB za99 hby rfl) (AG ⟨rfl,?_⟩))));refine BC 8 Z Z ?_;refine Mh (Jd hrm rfl [40] ⟨rfl,trivial⟩ Z Z Z Z (fun r H' ⟨e1,M',e2,_⟩=>by subst e1 e2;exact ⟨rfl,rfl,rfl⟩) rfl) rfl ?_;rintro _ ⟨r,H',⟨rfl,M2,rfl,hR2⟩,rfl⟩;refine AG ⟨rfl,?_⟩;refine GQ (AJ (AC Z Z ?_))
  first | refine J (Av Z Z OH rfl) ?_ | refine J (Aw Z Z OH Z Z Z) ?_ | refine J (Ax Z Z (rfl) rfl OH rfl) ?_
  refine U (Fq 5 sl85 Z Z Z Z Z Z Z Z) ?_
  first | refine U (If (acc) ([e]) Z Z Z Z Z Z Z Z sl85 (by simp only [List.length_singleton];omega) Z Z Z Z) ?_ | refine U (LD (acc) ([e]) Z Z Z Z Z Z (fun _=>rfl) sl85 (by simp only [List.length_singleton];omega) Z Z Z Z) ?_
  refine AD Z Z (AG ?_);exact ⟨(Ag on i,rmN N i x,M2,acc++ [e],f2),⟨hR2,rm_S hsm.r hN hiN hoi hx,by show GN its.length (Ag on i)≤f2;omega,by show (acc++ [e]).length+f2≤_;rw [List.length_append];simp;omega,by show (acc++ [e])++(G9 ros its f2 (Ag on i)).1=_;rw [List.append_assoc,←hr1,hrs];rfl,by show (G9 ros its f2 (Ag on i)).2=_;rw [←hr2,hrs]⟩,by show f2<f2+1;omega,BA hF [900,40,50,51] rfl (rfl) ⟨rfl,rfl,trivial⟩⟩
theorem PR (rs:List A5):(Fv rs).Pairwise fun a b=>¬JL rs b a<0:=by
 have:=List.pairwise_mergeSort (le:=fun i j=>decide (JL rs i j≤0)) (fun a b c h1 h2=>?_) (fun a b=>?_) (List.range rs.length)
 ·refine List.Pairwise.imp (fun {a b} h=>?_) this;have h1:=(Ox rs).anti a b;have h2:JL rs a b≤0:=by simpa using h
  omega
 ·have h1':JL rs a b≤0:=by simpa using h1
  have h2':JL rs b c≤0:=by simpa using h2
  have:JL rs a c≤0:=by
   by_cases e1:JL rs a b=0
   ·rw [(Ox rs).eqv a b c e1];exact h2'
   ·by_cases e2:JL rs b c=0
    ·have a1:=(Ox rs).anti b c;have e3:=(Ox rs).eqv c b a (by omega);have a2:=(Ox rs).anti a c;have a3:=(Ox rs).anti a b;omega
    ·have:=(Ox rs).trans a b c (by omega) (by omega);omega
  simpa using this
 ·have h1:=(Ox rs).anti a b
  by_cases h:JL rs a b≤0
  ·simp [h]
  ·have:JL rs b a≤0:=by omega
   simp [this]
theorem Fy (p:Prb):(CX p).Perm p.ro:=by
 unfold CX;refine ((WL (p.ro.map Roo.r)).map _).trans (List.Perm.of_eq ?_);rw [List.length_map]
 apply List.ext_getElem (by simp)
 intro i h1 h2;simp only [List.getElem_map,List.getElem_range];exact Bd DD (by simpa using h2)
theorem Qc (p:Prb):(CX p).Pairwise fun a b=>¬By b.r a.r<0:=by
 unfold CX;rw [List.pairwise_map];refine List.Pairwise.imp_of_mem (fun {a b} ha hb h=>?_) (PR (p.ro.map Roo.r));have ha':=List.mem_range.1 ((WL (p.ro.map Roo.r)).mem_iff.1 ha);have hb':=List.mem_range.1 ((WL (p.ro.map Roo.r)).mem_iff.1 hb);unfold JL at h;rw [Ls (by simpa using hb'),Ls (by simpa using ha')] at h;exact h
theorem RQ (p:Prb) (hf:Gr p) (hE:Ao p≠0):AU Tryz.prog 11 [.d (Cc p)] (.tup [.sl (some true) [],AH (Ao p)]):=by
 have hx:=R8 p hf hE;refine B2 Tryz.func11 Z Z Tryz.ntmps11 Z Z Z fun F hF=>(AF (AJ (U (C5 1 Z Z Z Z Z Z Z) (AD Z Z (AD Z Z (AG (AF (AJ ?_))))))))
 first | refine J (Av Z Z A4 rfl) ?_ | refine J (Aw Z Z A4 Z Z Z) ?_ | refine J (Ax Z Z (rfl) rfl A4 rfl) ?_
 refine J (B1 (hx) Z Z) (AC Z Z ?_)
 first | refine J (B6 Z Z Z) ?_ | refine J (B7 Z Z Z) ?_
 first | refine J (B6 Z Z Z) ?_ | refine J (B7 Z Z Z) ?_
 first | refine J (B6 Z Z Z) ?_ | refine J (B7 Z Z Z) ?_
 refine AD Z Z (AD Z Z (AD Z Z ?_));refine AG (AF (AJ (AC Z Z (AC Z Z (AD Z Z (AD Z Z (AG (Ae ?_))))))));exact ⟨_,[],[],Aa rfl,rfl,rfl,rfl,rfl⟩
def largeS (p:Prb):List Int:=B3 (ordP p) (Om p).2 (ordP p).length
theorem TB (p:Prb) (hf:Gr p) (hE:Ao p=0):AU Tryz.prog 11 [.d (Cc p)] (.tup [.sl none ((largeS p).map AH),AH 0]):=by
 have hx:=TN p hf hE;refine B2 Tryz.func11 Z Z Tryz.ntmps11 Z Z Z fun F hF=>(AF (AJ (U (C5 1 Z Z Z Z Z Z Z) (AD Z Z (AD Z Z (AG (AF (AJ ?_))))))))
 first | refine J (Av Z Z A4 rfl) ?_ | refine J (Aw Z Z A4 Z Z Z) ?_ | refine J (Ax Z Z (rfl) rfl A4 rfl) ?_
 refine J (B1 (hx) Z Z) (AC Z Z ?_)
 first | refine J (B6 Z Z Z) ?_ | refine J (B7 Z Z Z) ?_
 first | refine J (B6 Z Z Z) ?_ | refine J (B7 Z Z Z) ?_
 first | refine J (B6 Z Z Z) ?_ | refine J (B7 Z Z Z) ?_
 refine AD Z Z (AD Z Z (AD Z Z ?_));refine AG (AF (AJ (AC Z Z (AC Z Z (AD Z Z (AD Z Z (AG (Ae ?_))))))));exact ⟨_,[],[],Aa rfl,rfl,rfl,rfl,rfl⟩
def G4 (l:List Int) (x:Int):List Int:=l.filter fun y=>decide (y≠x)
def FX (its:List AT) (x:Roo) (l:List Int):Int:=max x.n 0+((its.filter fun i=>decide (i.id∈l)).map fun i=>CJ i x.r).sum
theorem Y2 (i:AT) (r:A5): -1000000000000000≤CJ i r∧CJ i r≤1000000000000000:=by
 unfold CJ
 split
 ·rename_i h
  have:=Pr h.1 r
  simpa [Mx] using this
 ·omega
def KU (its:List AT) (l:List Int) (id:Int) (x:Roo):Option J0:=if id∈qIds its x.r then (((qIds its x.r).takeWhile fun a=>decide (a≠id)).find? fun a=>decide (a∉l)).map fun a=>⟨id,1,x.r,a⟩ else none
def DW (p:Prb) (l:List Int) (id:Int):Option J0:=match (CX p).findSome? (KU (sortO p.it) l id) with
 | some e=>some e
 | none=>((itmOf p id).af.find? fun a=>decide (a∉l)).map fun a=>⟨id,2,DZ,a⟩
theorem PK {α:Type} {p:α ->Bool}:∀{l:List α} {m:Nat} (hm:m<l.length),(∀a∈l.take m,p a=true) ->p l[m]=false ->l.takeWhile p=l.take m
 | a::l,0,_,_,h=>by simp at h;simp [h]
 | a::l,m+1,hm,h0,h=>by
  have h1:p a=true:=h0 a (by simp);have ih:=PK (l:=l) (m:=m) (by simpa using hm) (fun x hx=>h0 x (by simp [hx])) (by simpa using h);rw [List.takeWhile_cons,h1,List.take_succ_cons,←ih];rfl
def Qq (its its0:List AT) (l:List Int) (x:Roo):Option J0:=if FX its0 x l<0 then ((qIds its x.r).reverse.find? fun a=>decide (a∈l)).map fun a=>⟨a,0,x.r,-1⟩ else none
def US (p:Prb) (l:List Int):Option J0:=match l.findSome? (DW p l) with
 | some e=>some e
 | none=>(CX p).findSome? (Qq (sortO p.it) p.it l)
theorem WB {p:Prb} {l:List Int} {id:Int} {e:J0} (h:DW p l id=some e):e.id=id:=by
 unfold DW at h
 split at h
 ·rename_i e' h1
  injection h with h;subst h
  obtain ⟨x,_,h2⟩:=List.exists_of_findSome?_eq_some h1;unfold KU at h2
  split at h2
  ·obtain ⟨a,_,rfl⟩:=Option.map_eq_some_iff.1 h2;rfl
  ·cases h2
 ·obtain ⟨a,_,rfl⟩:=Option.map_eq_some_iff.1 h;rfl
theorem FA {α:Type} {p q:α ->Bool}:∀{l:List α},(∀x∈l,p x=q x) ->l.find? p=l.find? q
 | [],_=>rfl
 | a::l,h=>by
  rw [List.find?_cons,List.find?_cons,h a (List.mem_cons_self ..),FA fun x hx=>h x (List.mem_cons_of_mem _ hx)]
theorem KG {α β:Type} {f g:α ->Option β}:∀{l:List α},(∀x∈l,f x=g x) ->l.findSome? f=l.findSome? g
 | [],_=>rfl
 | a::l,h=>by
  rw [List.findSome?_cons,List.findSome?_cons,h a (List.mem_cons_self ..),KG fun x hx=>h x (List.mem_cons_of_mem _ hx)]
theorem Kr {α β:Type} {f:α ->Option β} {p:α ->Bool}:∀{l:List α},(∀x∈l,p x=false ->f x=none) ->(l.filter p).findSome? f=l.findSome? f
 | [],_=>rfl
 | a::l,h=>by
  have ih:=Kr (f:=f) (p:=p) (l:=l) fun x hx=>h x (List.mem_cons_of_mem _ hx);rw [List.filter_cons]
  cases hp:p a with
  | true=>rw [if_pos rfl,List.findSome?_cons,List.findSome?_cons,ih]
  | false=>rw [if_neg (by simp),ih,List.findSome?_cons,h a (List.mem_cons_self ..) hp]
theorem L0 {α β γ:Type} {g:α ->β} {p:β ->Bool} {h:β ->γ}:∀{l:List α},((l.map g).find? p).map h=l.findSome? fun x=>if p (g x)=true then some (h (g x)) else none
 | []=>rfl
 | a::l=>by
  rw [List.map_cons,List.find?_cons,List.findSome?_cons]
  cases hp:p (g a) with
  | true=>rw [if_pos rfl];rfl
  | false=>rw [if_neg (by simp),←L0 (l:=l)]
theorem Pw {x:AT} (h:BV x=0) {r:A5} (hr:B4 r=0):Br (dltS x) r=CJ x r:=by
 have h1:dltS x=Kx (ctr x):=if_pos h;have h2:CJ x r=BZ (ctr x) r:=if_pos ⟨h,hr⟩;rw [h1,h2]
 by_cases h0:BZ (ctr x) r=0
 ·rw [h0];refine DS fun hm=>?_;obtain ⟨d,hd,e⟩:=List.mem_map.1 hm;obtain ⟨h3,h4⟩:=(Hi _ _).1 hd;have h5:=(HO (ctr x) d.1 d.2).1 h3;rw [e,h0] at h5;exact h4 h5.2
 ·refine ZcV (by rw [←h1];exact Zc4 x) ((Hi _ _).2 ⟨(HO _ _ _).2 ⟨?_,rfl⟩,h0⟩)
  by_cases hm:r∈(ctr x).map Prod.fst
  ·exact hm
  ·exact absurd (L5 hm) h0
theorem Ng {l:List Roo} (h:D9 l=0):∀x∈l,B4 x.r=0:=fun x hx=>by
 have h0:=Uh.1 h;obtain ⟨j,hj,rfl⟩:=List.getElem_of_mem hx;have:=h0 j (List.mem_range.2 hj);unfold MY at this;rw [Bd DD hj] at this
 split at this
 ·contradiction
 ·rename_i hv
  exact Classical.byContradiction fun h=>hv h
theorem Nl {l:List AT} (h:Fj l=0):∀x∈l,BV x=0:=fun x hx=>by
 have h0:=Uh.1 h;obtain ⟨j,hj,rfl⟩:=List.getElem_of_mem hx;have:=h0 j (List.mem_range.2 hj);unfold Nn at this;rw [Bd itm0 hj] at this
 split at this
 ·contradiction
 ·rename_i hv
  exact Classical.byContradiction fun h=>hv h
theorem XG {its:List AT} (hv:∀x∈its,BV x=0) {r:A5} (hr:B4 r=0):qIds its r=(negQ (its.map dltS) r).map fun i=>(its.getD i itm0).id:=by
 unfold qIds negQ
 have e:its=(List.range its.length).map fun i=>its.getD i itm0:=by
  apply List.ext_getElem (by simp)
  intro i h1 h2;simp only [List.getElem_map,List.getElem_range];rw [Bd itm0 h1]
 conv=>lhs;rw [e]
 rw [List.filter_map,List.map_map,List.length_map]
 congr 1
 refine List.filter_congr fun i hi=>?_;have hi':=List.mem_range.1 hi;show decide (CJ (its.getD i itm0) r<0)=_;rw [Bd [] (by simpa using hi'),List.getElem_map,Bd itm0 hi',Pw (hv _ (List.getElem_mem hi')) hr]
theorem Mb {its:List AT} (hn:(its.map AT.id).Nodup) (on:Nat ->Bool) {i:Nat} (hi:i<its.length):(its.getD i itm0).id∈B3 its on its.length↔on i=true:=by
 unfold B3;rw [List.mem_map]
 constructor
 ·rintro ⟨j,hj,e⟩;obtain ⟨h1,h2⟩:=List.mem_filter.1 hj;have hj':=List.mem_range.1 h1;rw [Bd itm0 hi,Bd itm0 hj'] at e
  have:j=i:=by
   have h3:(its.map AT.id)[j]'(by simpa using hj')=(its.map AT.id)[i]'(by simpa using hi):=by
    rw [List.getElem_map,List.getElem_map];exact e
   exact (List.getElem_inj hn).1 h3
  rw [←this];exact h2
 ·intro h;exact ⟨i,List.mem_filter.2 ⟨List.mem_range.2 hi,h⟩,rfl⟩
theorem psum {l m:List Int} (h:l.Perm m):l.sum=m.sum:=by
 induction h with
 | nil=>rfl
 | cons x _ ih=>rw [List.sum_cons,List.sum_cons,ih]
 | swap x y l=>simp only [List.sum_cons];omega
 | trans _ _ h1 h2=>rw [h1,h2]
theorem Tg {α:Type} {p:α ->Bool} {f:α ->Int}:∀{l:List α},((l.filter p).map f).sum=(l.map fun i=>if p i=true then f i else 0).sum
 | []=>rfl
 | a::l=>by
  rw [List.filter_cons,List.map_cons,List.sum_cons,←Tg (l:=l)]
  cases hp:p a with
  | true=>rw [if_pos rfl,if_pos rfl,List.map_cons,List.sum_cons]
  | false=>rw [if_neg (by simp),if_neg (by simp),Int.zero_add]
theorem QF {ros:List Roo} {its:List AT} {on:Nat ->Bool} {i:Nat} (h:i<its.length):(netS ros its on).nd.getD i Bc=IH (ros.map Roo.r) its on i:=by
 show ((List.range its.length).map _).getD i Bc=_;rw [Bd Bc (by simpa using h),List.getElem_map,List.getElem_range]
theorem Lw {ds:List (List (A5×Int))} {r:A5} {i:Nat} (h:i∈negQ ds r):i<ds.length:=List.mem_range.1 (List.mem_filter.1 h).1
theorem IM (its:List AT):its=(List.range its.length).map fun i=>its.getD i itm0:=by
 apply List.ext_getElem (by simp)
 intro i h1 h2;simp only [List.getElem_map,List.getElem_range];rw [Bd itm0 h1]
structure PVO (p:Prb) (ros:List Roo) (its:List AT):Prop where
 e:Ao p=0
 f:Gr p
 s:SmO ros its
 hr:CX p=ros
 hi:sortO p.it=its
 v:∀x∈its,BV x=0
 w:∀x∈ros,B4 x.r=0
 up:ros.Pairwise fun a b=>By a.r b.r<0
theorem pv_of {p:Prb} (hE:Ao p=0) (hf:Gr p):PVO p (CX p) (sortO p.it):=by
 have h1:ordP p=sortO p.it:=if_pos hE;have hs:=Wi hf hE;rw [h1] at hs;refine ⟨hE,hf,hs,rfl,rfl,fun x hx=>Nl (KW hE).2.1 x ((QD p.it).mem_iff.1 hx),fun x hx=>Ng (KW hE).1 x ((Fy p).mem_iff.1 hx),?_⟩;have hn:=hs.r;rw [List.Nodup,List.pairwise_map] at hn;refine ((Qc p).and hn).imp fun {a b} ⟨g1,g2⟩=>?_;have h1:=Nv.anti a.r b.r;have h2:By a.r b.r≠0:=fun e=>g2 (Dj.1 e);omega
theorem Qp {p:Prb} {ros:List Roo} {its:List AT} (h:PVO p ros its) (on:Nat ->Bool) {x:Roo} (hx:x∈ros):FX p.it x (B3 its on its.length)=max x.n 0+DY (its.map dltS) on x.r:=by
 unfold FX
 congr 1
 have hp:p.it.Perm its:=by rw [←h.hi];exact (QD p.it).symm
 rw [psum ((hp.filter _).map _)]
 obtain ⟨l,hl⟩:∃l,B3 its on its.length=l:=⟨_,rfl⟩
 rw [hl]
 have e:((its.filter fun i=>decide (i.id∈l)).map fun i=>CJ i x.r).sum=((List.range its.length).map fun i=>if decide ((its.getD i itm0).id∈l)=true then CJ (its.getD i itm0) x.r else 0).sum:=by
  conv=>lhs;rw [IM its]
  rw [List.filter_map,List.map_map,Tg];rfl
 have hlen:(its.map dltS).length=its.length:=by simp
 rw [e];unfold DY;rw [hlen]
 congr 1
 refine List.map_congr_left fun i hi=>?_;have hi':=List.mem_range.1 hi;have hon:=Mb h.s.i on hi';rw [hl] at hon;have hv:=Pw (h.v (its.getD i itm0) (by rw [Bd itm0 hi'];exact List.getElem_mem hi')) (h.w x hx);have hg:(its.map dltS).getD i []=dltS (its.getD i itm0):=by rw [Bd [] (by simpa using hi'),Bd itm0 hi',List.getElem_map]
 rw [hg,hv]
 by_cases ho:on i=true
 ·rw [if_pos ho,if_pos (decide_eq_true (hon.2 ho))]
 ·rw [if_neg ho,if_neg (by simpa using fun h=>ho (hon.1 h))]
theorem over_eq {p:Prb} {ros:List Roo} {its:List AT} (h:PVO p ros its) (on:Nat ->Bool) {x:Roo} (hx:x∈ros):Qq its p.it (B3 its on its.length) x=SF (netS ros its on) (XM (its.map dltS) on x):=by
 unfold Qq SF;rw [Qp h on hx]
 have hov:(M9 (XM (its.map dltS) on x) (XM (its.map dltS) on x).sum=true)↔max x.n 0+DY (its.map dltS) on x.r<0:=by
  unfold M9 Ym XM;rw [decide_eq_true_eq];dsimp only;have:(0:Int)≤max x.n 0:=Int.le_max_right _ _;omega
 by_cases hc:max x.n 0+DY (its.map dltS) on x.r<0
 ·rw [if_pos hc,if_pos (hov.2 hc),XG h.v (h.w x hx),←List.map_reverse,List.find?_map];show Option.map _ (Option.map _ _)=Option.map _ ((negQ (its.map dltS) x.r).reverse.find? _)
  have e:(negQ (its.map dltS) x.r).reverse.find? ((fun a=>decide (a∈B3 its on its.length))∘fun i=>(its.getD i itm0).id)=(negQ (its.map dltS) x.r).reverse.find? (onN (netS ros its on)):=FA fun i hi=>by
   have hl:=Lw (List.mem_reverse.1 hi);rw [List.length_map] at hl;show decide ((its.getD i itm0).id∈_)=onN _ i;unfold onN;rw [QF hl];show _=on i;have:=Mb h.s.i on hl
   cases ho:on i with
   | true=>exact decide_eq_true (this.2 ho)
   | false=>exact decide_eq_false fun h=>by rw [this.1 h] at ho;cases ho
  rw [e]
  cases hf:(negQ (its.map dltS) x.r).reverse.find? (onN (netS ros its on)) with
  | none=>rfl
  | some i=>
   have hl:=Lw (List.mem_reverse.1 (List.mem_of_find?_eq_some hf));rw [List.length_map] at hl;show some _=some _
   congr 1
   have hg:(netS ros its on).nd.getD i Bc=IH (ros.map Roo.r) its on i:=QF hl;show J0.mk (its.getD i itm0).id 0 x.r (-1)=J0.mk ((netS ros its on).nd.getD i Bc).it.id 0 x.r (-1);rw [hg];rfl
 ·rw [if_neg hc,if_neg fun h=>hc (hov.1 h)]
theorem R4 {α:Type} (p:α ->Bool):∀(A:List α),A.find? p=A[A.findIdx p]?
 | []=>rfl
 | a::A=>by
  rw [List.find?_cons,List.findIdx_cons]
  cases hp:p a with
  | true=>rfl
  | false=>rw [R4 p A];rfl
theorem dlt_ris (X:AT):(dltS X).Pairwise fun a b=>By a.1 b.1<0:=by
 unfold dltS
 split
 ·exact KM (ctr X)
 ·exact List.Pairwise.nil
theorem pl_eq {p:Prb} {ros:List Roo} {its:List AT} (h:PVO p ros its) (ds:List (List (A5×Int))) (X:AT):plK (ros.map Roo.r) ds (dltS X)=(ros.filter fun x=>decide (Br (dltS X) x.r<0)).map fun x=>((ros.map Roo.r).idxOf x.r,(negQ ds x.r).length):=by
 have key:((dltS X).filter fun d=>decide (d.1∈ros.map Roo.r) && decide (d.2<0)).map Prod.fst=(ros.filter fun x=>decide (Br (dltS X) x.r<0)).map Roo.r:=by
  refine D4 (R:=fun a b=>By a b<0) (fun x=>by rw [Nv.refl];omega) (fun x y z=>Nv.trans x y z) ?_ ?_ fun r=>?_
  ·rw [List.pairwise_map];exact List.Pairwise.filter _ (dlt_ris X)
  ·rw [List.pairwise_map];exact List.Pairwise.filter _ h.up
  ·constructor
   ·intro hr;obtain ⟨d,hd,rfl⟩:=List.mem_map.1 hr;obtain ⟨h1,h2⟩:=List.mem_filter.1 hd;rw [Bool.and_eq_true,decide_eq_true_eq,decide_eq_true_eq] at h2;obtain ⟨x,hx,e⟩:=List.mem_map.1 h2.1;refine List.mem_map.2 ⟨x,List.mem_filter.2 ⟨hx,?_⟩,e⟩;have:Br (dltS X) d.1=d.2:=ZcV (Zc4 X) h1;rw [e,this];exact decide_eq_true h2.2
   ·intro hr;obtain ⟨x,hx,rfl⟩:=List.mem_map.1 hr;obtain ⟨h1,h2⟩:=List.mem_filter.1 hx;have h2:=of_decide_eq_true h2
    have hk:x.r∈(dltS X).map Prod.fst:=Classical.byContradiction fun hn=>by
     have:Br (dltS X) x.r=0:=DS hn;omega
    obtain ⟨d,hd,e⟩:=List.mem_map.1 hk;have:Br (dltS X) d.1=d.2:=ZcV (Zc4 X) hd;rw [e] at this;refine List.mem_map.2 ⟨d,List.mem_filter.2 ⟨hd,?_⟩,e⟩;rw [Bool.and_eq_true,decide_eq_true_eq,decide_eq_true_eq];exact ⟨by rw [e];exact List.mem_map.2 ⟨x,h1,rfl⟩,by omega⟩
 have e1:plK (ros.map Roo.r) ds (dltS X)=(((dltS X).filter fun d=>decide (d.1∈ros.map Roo.r) && decide (d.2<0)).map Prod.fst).map fun r=>((ros.map Roo.r).idxOf r,(negQ ds r).length):=by
  unfold plK;rw [List.map_map];rfl
 rw [e1,key,List.map_map];rfl
theorem XL {p:Prb} {ros:List Roo} {its:List AT} (h:PVO p ros its) (on:Nat ->Bool) {x:Roo} (hx:x∈ros):(netS ros its on).po.getD ((ros.map Roo.r).idxOf x.r) CC=XM (its.map dltS) on x:=by
 obtain ⟨j,hj,rfl⟩:=List.getElem_of_mem hx;have hj':j<(ros.map Roo.r).length:=by simpa using hj
 have e:(ros.map Roo.r).idxOf ros[j].r=j:=by
  have:=iOq h.s.r hj';rw [List.getElem_map] at this;exact this
 rw [e];show (ros.map _).getD j CC=_;rw [Bd CC (by simpa using hj),List.getElem_map]
theorem Kn {its:List AT} (hn:(its.map AT.id).Nodup) {i j:Nat} (hi:i<its.length) (hj:j<its.length) (h:(its.getD i itm0).id=(its.getD j itm0).id):i=j:=by
 rw [Bd itm0 hi,Bd itm0 hj] at h
 have h3:(its.map AT.id)[i]'(by simpa using hi)=(its.map AT.id)[j]'(by simpa using hj):=by
  rw [List.getElem_map,List.getElem_map];exact h
 exact (List.getElem_inj hn).1 h3
theorem U9 {p:Prb} {ros:List Roo} {its:List AT} (h:PVO p ros its) (on:Nat ->Bool) {i:Nat} (hi:i<its.length) {x:Roo} (hx:x∈ros):
  KU its (B3 its on its.length) (its.getD i itm0).id x=if Br (dltS (its.getD i itm0)) x.r<0 then (if badP (netS ros its on) ((ros.map Roo.r).idxOf x.r,(negQ ((its.map dltS).take i) x.r).length)=true then some (NI (netS ros its on) (IH (ros.map Roo.r) its on i) ((ros.map Roo.r).idxOf x.r,(negQ ((its.map dltS).take i) x.r).length)) else none) else none:=by
 have hdi:i<(its.map dltS).length:=by simpa using hi
 have hg:(its.map dltS).getD i []=dltS (its.getD i itm0):=by rw [Bd [] hdi,Bd itm0 hi,List.getElem_map]
 have hq:=XG h.v (h.w x hx);obtain ⟨B,c1,c2,c3⟩:=Jy hdi x.r;rw [hg] at c1
 have hin:(its.getD i itm0).id∈qIds its x.r↔Br (dltS (its.getD i itm0)) x.r<0:=by
  rw [hq,List.mem_map]
  constructor
  ·rintro ⟨j,hj,e⟩;have hjl:=Lw hj;rw [List.length_map] at hjl;have:=Kn h.s.i hjl hi e;subst this;have:=(List.mem_filter.1 hj).2;rw [hg] at this;exact of_decide_eq_true this
  ·intro ha;refine ⟨i,?_,rfl⟩;rw [c1,if_pos ha];simp
 unfold KU
 by_cases ha:Br (dltS (its.getD i itm0)) x.r<0
 ·rw [if_pos (hin.2 ha),if_pos ha];rw [if_pos ha] at c1
  obtain ⟨A,hA⟩:∃A,negQ ((its.map dltS).take i) x.r=A:=⟨_,rfl⟩
  rw [hA] at c1 c2⊢
  have hQ:qIds its x.r=A.map (fun j=>(its.getD j itm0).id)++((its.getD i itm0).id::B.map fun j=>(its.getD j itm0).id):=by
   rw [hq,c1,List.map_append,List.singleton_append,List.map_cons]
  have hAl:(A.map fun j=>(its.getD j itm0).id).length=A.length:=List.length_map _;have hlt:A.length<(qIds its x.r).length:=by rw [hQ,List.length_append,hAl];simp
  have htk:(qIds its x.r).take A.length=A.map fun j=>(its.getD j itm0).id:=by rw [hQ,←hAl,List.take_left'];rfl
  have hat:(qIds its x.r)[A.length]=(its.getD i itm0).id:=by
   have:(qIds its x.r)[A.length]?=some (its.getD i itm0).id:=by
    rw [hQ,List.getElem?_append_right (by omega),hAl,Nat.sub_self];rfl
   rw [List.getElem?_eq_getElem hlt] at this;exact Option.some.inj this
  rw [PK hlt (fun a ha=>by
   rw [htk] at ha;obtain ⟨j,hj,rfl⟩:=List.mem_map.1 ha;have:=c2 j hj
   exact decide_eq_true fun e=>by have:=Kn h.s.i (by omega) hi e;omega) (by rw [hat];simp),htk,List.find?_map]
  have e1:A.find? ((fun a=>decide (a∉B3 its on its.length))∘fun j=>(its.getD j itm0).id)=A.find? fun j=>!on j:=FA fun j hj=>by
   have hjl:j<its.length:=by have:=c2 j hj;omega
   have:=Mb h.s.i on hjl;show decide ((its.getD j itm0).id∉_)=!on j
   cases ho:on j with
   | true=>exact decide_eq_false fun hn=>hn (this.2 ho)
   | false=>exact decide_eq_true fun hn=>by rw [this.1 hn] at ho;cases ho
  rw [e1,R4]
  have hmi:((netS ros its on).po.getD ((ros.map Roo.r).idxOf x.r) CC).mi=if A.findIdx (fun j=>!on j)<A.length then A.findIdx fun j=>!on j else (([i]:List Nat)++B).findIdx (fun j=>!on j)+A.length:=by
   rw [XL h on hx];show Xq on (negQ (its.map dltS) x.r)=_;unfold Xq;rw [c1,Hc]
  have hpq:((netS ros its on).po.getD ((ros.map Roo.r).idxOf x.r) CC).q=negQ (its.map dltS) x.r:=by rw [XL h on hx];rfl
  have hpr:((netS ros its on).po.getD ((ros.map Roo.r).idxOf x.r) CC).r=x.r:=by rw [XL h on hx];rfl
  unfold badP NI;dsimp only;rw [hmi,hpq,hpr]
  by_cases hm:A.findIdx (fun j=>!on j)<A.length
  ·rw [if_pos hm,if_pos (decide_eq_true hm),List.getElem?_eq_getElem hm];have hjm:=List.getElem_mem hm;have hjl:A[A.findIdx fun j=>!on j]<its.length:=by have:=c2 _ hjm;omega
   have e2:(negQ (its.map dltS) x.r).getD (A.findIdx fun j=>!on j) 0=A[A.findIdx fun j=>!on j]:=by
    rw [c1,List.getD_eq_getElem?_getD,List.getElem?_append_left hm,List.getElem?_eq_getElem hm];rfl
   rw [e2,QF hjl];rfl
  ·rw [if_neg hm,if_neg (by simp),List.getElem?_eq_none (by omega)];rfl
 ·rw [if_neg (fun hh=>ha (hin.1 hh)),if_neg ha]
theorem Y9 {p:Prb} {ros:List Roo} {its:List AT} (h:PVO p ros its) (on:Nat ->Bool) {i:Nat} (hi:i<its.length):DW p (B3 its on its.length) (its.getD i itm0).id=F5 (netS ros its on) (IH (ros.map Roo.r) its on i):=by
 have hXm:its.getD i itm0∈its:=by rw [Bd itm0 hi];exact List.getElem_mem hi
 have hXp:its.getD i itm0∈p.it:=by rw [←h.hi] at hXm;rw [←h.hi];exact (QD p.it).mem_iff.1 hXm
 have e1:ros.findSome? (KU its (B3 its on its.length) (its.getD i itm0).id)=((plK (ros.map Roo.r) ((its.map dltS).take i) (dltS (its.getD i itm0))).find? (badP (netS ros its on))).map (NI (netS ros its on) (IH (ros.map Roo.r) its on i)):=by
  rw [pl_eq h,L0,←Kr (p:=fun x=>decide (Br (dltS (its.getD i itm0)) x.r<0)) (fun x hx hp=>by rw [U9 h on hi hx,if_neg (of_decide_eq_false hp)])];refine KG fun x hx=>?_;obtain ⟨h1,h2⟩:=List.mem_filter.1 hx;rw [U9 h on hi h1,if_pos (of_decide_eq_true h2)]
 have e2:itmOf p (its.getD i itm0).id=its.getD i itm0:=by
  obtain ⟨hk,_,h2,h3⟩:=GD (p:=p) (id:=(its.getD i itm0).id) (List.mem_map.2 ⟨_,hXp,rfl⟩);refine Pd (WP (KW h.e).2.1) (by rw [h2];exact List.getElem_mem hk) hXp h3
 have e3:(its.getD i itm0).af.find? (fun a=>decide (a∉B3 its on its.length))=(its.getD i itm0).af.find? (offOf (netS ros its on)):=FA fun a ha=>by
  have hm:=h.s.a _ hXm a ha;have hj:=List.idxOf_lt_length_of_mem hm;have hja:=List.getElem_idxOf hj;unfold offOf;rw [N0]
  generalize (its.map AT.id).idxOf a=j at hj hja⊢
  have hj':j<its.length:=by simpa using hj
  rw [List.getElem_map] at hja;rw [QF hj'];show _=!on j;have:=Mb h.s.i on hj';rw [Bd itm0 hj',hja] at this
  cases ho:on j with
  | true=>exact decide_eq_false fun hn=>hn (this.2 ho)
  | false=>exact decide_eq_true fun hn=>by rw [this.1 hn] at ho;cases ho
 unfold DW;rw [h.hr,h.hi,e1,e2,e3];unfold F5
 show _=match (plK (ros.map Roo.r) ((its.map dltS).take i) (dltS (its.getD i itm0))).find? (badP (netS ros its on)) with
  | some e=>some (NI (netS ros its on) (IH (ros.map Roo.r) its on i) e)
  | none=>match (its.getD i itm0).af.find? (offOf (netS ros its on)) with
   | some id=>some ⟨(its.getD i itm0).id,2,DZ,id⟩
   | none=>none
 cases (plK (ros.map Roo.r) ((its.map dltS).take i) (dltS (its.getD i itm0))).find? (badP (netS ros its on)) with
 | some e=>rfl
 | none=>
  show ((its.getD i itm0).af.find? (offOf (netS ros its on))).map _=_
  cases (its.getD i itm0).af.find? (offOf (netS ros its on))<;>rfl
theorem next_eq {p:Prb} {ros:List Roo} {its:List AT} (h:PVO p ros its) (on:Nat ->Bool):US p (B3 its on its.length)=D3 (netS ros its on):=by
 have e1:(B3 its on its.length).findSome? (DW p (B3 its on its.length))=(netS ros its on).nd.findSome? (ndX (netS ros its on)):=by
  show (((List.range its.length).filter on).map fun i=>(its.getD i itm0).id).findSome? _=((List.range its.length).map _).findSome? _;rw [List.findSome?_map,List.findSome?_map]
  rw [←Kr (p:=on) (l:=List.range its.length) (f:=ndX (netS ros its on)∘IH (ros.map Roo.r) its on) (fun i _ ho=>by
   show ndX _ (IH _ _ _ i)=none;unfold ndX;rw [if_neg];show ¬(on i=true)
   rw [ho];simp)]
  refine KG fun i hi=>?_;obtain ⟨h1,h2⟩:=List.mem_filter.1 hi;show DW p _ (its.getD i itm0).id=ndX _ (IH _ _ _ i);rw [Y9 h on (List.mem_range.1 h1)];unfold ndX;rw [if_pos];exact h2
 have e2:ros.findSome? (Qq its p.it (B3 its on its.length))=(netS ros its on).po.findSome? (SF (netS ros its on)):=by
  show _=(ros.map _).findSome? _;rw [List.findSome?_map];exact KG fun x hx=>over_eq h on hx
 unfold US D3;rw [h.hr,h.hi,e1,e2]
 cases (netS ros its on).nd.findSome? (ndX (netS ros its on))<;>rfl
theorem QQ {its:List AT} (hn:(its.map AT.id).Nodup) (on:Nat ->Bool) {i:Nat} (hi:i<its.length):G4 (B3 its on its.length) (its.getD i itm0).id=B3 its (Ag on i) its.length:=by
 unfold G4 B3;rw [List.filter_map,List.filter_filter]
 congr 1
 refine List.filter_congr fun j hj=>?_;have hj':=List.mem_range.1 hj;show (decide ((its.getD j itm0).id≠(its.getD i itm0).id) && on j)=Ag on i j
 by_cases e:j=i
 ·subst e;rw [Eg];simp
 ·have hne:(its.getD j itm0).id≠(its.getD i itm0).id:=fun h=>e (Kn hn hj' hi h);rw [Zdc e,decide_eq_true hne,Bool.true_and]
def FewQ (p:Prb) (n:Nat):Prop:=p.it.length≤n∧p.ro.length≤30∧∀i∈p.it,i.po.length≤8∧i.pa.length≤8∧i.af.length≤8
instance (p:Prb) (n:Nat):Decidable (FewQ p n):=inferInstanceAs (Decidable (_∧_∧∀i∈p.it,_))
def Cu (p:Prb) (l:List Int):Prop:=(∀id∈l,DW p l id=none)∧∀x∈p.ro,¬FX p.it x l<0
noncomputable instance (p:Prb) (l:List Int):Decidable (Cu p l):=Classical.propDecidable _
theorem Xf (ros:List Roo) (its:List AT) (on:Nat ->Bool):Ap (netS ros its on)=netS ros its on:=by
 unfold Ap netS;dsimp only;rw [List.map_map,List.map_map];rfl
theorem next_at {ros:List Roo} {its:List AT} (hn:(its.map AT.id).Nodup) {on:Nat ->Bool} {e:J0} (h:D3 (netS ros its on)=some e):∃i,i<its.length∧on i=true∧(its.getD i itm0).id=e.id∧(its.map AT.id).idxOf e.id=i:=by
 obtain ⟨i,x,hx,hon,hid⟩:=UR h;obtain ⟨hi,ho,hit⟩:=QE (Xf ros its on) hx;have hei:(its.getD i itm0).id=e.id:=by rw [hid,hit]
 refine ⟨i,hi,by rw [←ho];exact hon,hei,?_⟩;have h1:=iOq hn (i:=i) (by simpa using hi);rw [List.getElem_map] at h1;rw [←hei,Bd itm0 hi];exact h1
theorem Y6 (n:Nat) (on:Nat ->Bool):GN n on≤n:=by
 unfold GN;exact Nat.le_trans (List.length_filter_le _ _) (by simp)
theorem TV {p:Prb} {l t:List Int} {id:Int} (hs:∀x∈t,x∈l) (h:DW p t id=none):DW p l id=none:=by
 unfold DW at h⊢
 cases h1:(CX p).findSome? (KU (sortO p.it) t id) with
 | some e=>rw [h1] at h;cases h
 | none=>
  rw [h1] at h
  have h2:(CX p).findSome? (KU (sortO p.it) l id)=none:=H8 fun x hx=>by
   have h3:=List.findSome?_eq_none_iff.1 h1 x hx;unfold KU at h3⊢
   split
   ·rename_i hq
    rw [if_pos hq] at h3
    have h4:((qIds (sortO p.it) x.r).takeWhile fun a=>decide (a≠id)).find? (fun a=>decide (a∉t))=none:=by
     cases hf:((qIds (sortO p.it) x.r).takeWhile fun a=>decide (a≠id)).find? (fun a=>decide (a∉t)) with
     | none=>rfl
     | some a=>rw [hf] at h3;cases h3
    rw [GJ (fun a ha=>by
     have:=List.find?_eq_none.1 h4 a ha
     simp at this
     simpa using hs a this)];rfl
   ·rfl
  rw [h2];dsimp only at h⊢
  have h5:(itmOf p id).af.find? (fun a=>decide (a∉t))=none:=by
   cases hf:(itmOf p id).af.find? (fun a=>decide (a∉t)) with
   | none=>rfl
   | some a=>rw [hf] at h;cases h
  rw [GJ (fun a ha=>by
   have:=List.find?_eq_none.1 h5 a ha
   simp at this
   simpa using hs a this)];rfl
theorem Qt {x:Roo} {l t:List Int} (hs:∀y∈t,y∈l):∀{its:List AT},(∀i∈its,i.id∈l ->i.id∉t ->0≤CJ i x.r) ->FX its x t≤FX its x l
 | [],_=>Int.le_refl _
 | a::its,h=>by
  have ih:=Qt hs (its:=its) fun i hi=>h i (List.mem_cons_of_mem _ hi);have ha:=h a (List.mem_cons_self ..);unfold FX at ih⊢;rw [List.filter_cons,List.filter_cons]
  by_cases h1:a.id∈t
  ·rw [if_pos (decide_eq_true h1),if_pos (decide_eq_true (hs _ h1))];simp only [List.map_cons,List.sum_cons];omega
  ·rw [if_neg (by simpa using h1)]
   by_cases h2:a.id∈l
   ·rw [if_pos (decide_eq_true h2)];have:=ha h2 h1;simp only [List.map_cons,List.sum_cons];omega
   ·rw [if_neg (by simpa using h2)];exact ih
theorem X9 {p:Prb} (hE:Ao p=0) {l t:List Int} (ht:Cu p t) (hs:∀y∈t,y∈l) {e:J0} (hn:US p l=some e):e.id∉t:=fun het=>by
 unfold US at hn
 split at hn
 ·rename_i e' h1
  injection hn with hn;subst hn
  obtain ⟨id,hid,h2⟩:=List.exists_of_findSome?_eq_some h1;have h3:=WB h2;rw [h3] at het;rw [TV hs (ht.1 id het)] at h2;cases h2
 ·obtain ⟨x,hx,h2⟩:=List.exists_of_findSome?_eq_some hn;have hxp:=(Fy p).mem_iff.1 hx;unfold Qq at h2
  split at h2
  ·rename_i ho
   obtain ⟨a,ha,rfl⟩:=Option.map_eq_some_iff.1 h2;dsimp only at het;obtain ⟨hal,u,v,huv,hu⟩:=List.find?_eq_some_iff_append.1 ha
   have hQ:qIds (sortO p.it) x.r=v.reverse++a::u.reverse:=by
    have:=congrArg List.reverse huv;rw [List.reverse_reverse,List.reverse_append,List.reverse_cons,List.append_assoc] at this;exact this
   have hQn:(qIds (sortO p.it) x.r).Nodup:=by
    have h1:((sortO p.it).map AT.id).Nodup:=((QD p.it).map AT.id).nodup_iff.2 (WP (KW hE).2.1);unfold qIds;exact h1.sublist ((List.filter_sublist).map AT.id)
   have hav:a∉v.reverse:=fun hm=>by
    rw [hQ,List.nodup_append] at hQn;exact hQn.2.2 _ hm _ (List.mem_cons_self ..) rfl
   have hblk:=ht.1 a het
   have hall:∀b∈v.reverse,b∈t:=fun b hb=>by
    unfold DW at hblk
    cases h1:(CX p).findSome? (KU (sortO p.it) t a) with
    | some e=>rw [h1] at hblk;cases hblk
    | none=>
     have h3:=List.findSome?_eq_none_iff.1 h1 x hx;unfold KU at h3;rw [if_pos (by rw [hQ];simp)] at h3;have hlt:v.reverse.length<(qIds (sortO p.it) x.r).length:=by rw [hQ,List.length_append];simp
     have htk:(qIds (sortO p.it) x.r).take v.reverse.length=v.reverse:=by rw [hQ,List.take_left'];rfl
     have hat:(qIds (sortO p.it) x.r)[v.reverse.length]=a:=by
      have:(qIds (sortO p.it) x.r)[v.reverse.length]?=some a:=by
       rw [hQ,List.getElem?_append_right (Nat.le_refl _),Nat.sub_self];rfl
      rw [List.getElem?_eq_getElem hlt] at this;exact Option.some.inj this
     rw [PK hlt (fun c hc=>by rw [htk] at hc;exact decide_eq_true fun e=>hav (e▸hc)) (by rw [hat];simp),htk] at h3
     have h4:v.reverse.find? (fun a=>decide (a∉t))=none:=by
      cases hf:v.reverse.find? (fun a=>decide (a∉t)) with
      | none=>rfl
      | some c=>rw [hf] at h3;cases h3
     have:=List.find?_eq_none.1 h4 b hb
     simpa using this
   have hle:=Qt (x:=x) hs (its:=p.it) fun i hi h1 h2=>Classical.byContradiction fun hneg=>by
    have hq:i.id∈qIds (sortO p.it) x.r:=List.mem_map.2 ⟨i,List.mem_filter.2 ⟨(QD p.it).mem_iff.2 hi,by simpa using hneg⟩,rfl⟩;rw [hQ] at hq;rcases List.mem_append.1 hq with hq | hq
    ·exact h2 (hall _ hq)
    ·rcases List.mem_cons.1 hq with hq | hq
     ·rw [hq] at h2;exact h2 het
     ·have:=hu _ (List.mem_reverse.1 hq)
      simp at this
      exact this h1
   exact ht.2 x hxp (by omega)
  ·cases h2
theorem Ve {p:Prb} (hE:Ao p=0) (hf:Gr p) {t:List Int} (ht:Cu p t) (hs:∀y∈t,y∈p.it.map AT.id):∀y∈t,y∈largeS p:=by
 have h:=pv_of hE hf;have h1:ordP p=sortO p.it:=if_pos hE
 have key:∀(f:Nat) (on:Nat ->Bool),(∀y∈t,y∈B3 (sortO p.it) on (sortO p.it).length) ->∀y∈t,y∈B3 (sortO p.it) (G9 (CX p) (sortO p.it) f on).2 (sortO p.it).length:=by
  intro f
  induction f with
  | zero=>intro on ho;exact ho
  | succ f ih=>
   intro on ho
   cases hne:D3 (netS (CX p) (sortO p.it) on) with
   | none=>rw [Q9 hne];exact ho
   | some e=>
    obtain ⟨i,hi,_,hei,hx⟩:=next_at h.s.i hne;rw [Q8 hne,hx];refine ih (Ag on i) fun y hy=>?_;have hnt:=X9 hE ht ho (by rw [next_eq h];exact hne);rw [←QQ h.s.i on hi,hei];exact List.mem_filter.2 ⟨ho y hy,decide_eq_true fun e2=>hnt (e2▸hy)⟩
 unfold largeS Om;rw [h1];refine key _ _ fun y hy=>?_
 have h2:B3 (sortO p.it) (fun _=>true) (sortO p.it).length=(sortO p.it).map AT.id:=by
  conv=>rhs;rw [IM (sortO p.it)]
  unfold B3;rw [List.map_map,List.filter_eq_self.2 (fun _ _=>rfl)];rfl
 rw [h2];exact ((QD p.it).map AT.id).mem_iff.2 (hs y hy)
theorem X1 (its:List AT) (on:Nat ->Bool):(B3 its on its.length).Sublist (its.map AT.id):=by
 have h1:its.map AT.id=(List.range its.length).map fun i=>(its.getD i itm0).id:=by
  conv=>lhs;rw [IM its]
  rw [List.map_map];rfl
 rw [h1];exact List.filter_sublist.map _
theorem O8 {p:Prb} (hE:Ao p=0):(largeS p).Nodup∧∀x∈largeS p,x∈p.it.map AT.id:=by
 have hO:ordP p=sortO p.it:=if_pos hE;have h1:=X1 (ordP p) (Om p).2;refine ⟨List.Nodup.sublist h1 (P2 hE),fun x hx=>?_⟩;have:=h1.subset hx;rw [hO] at this;exact ((QD p.it).map AT.id).mem_iff.1 this
theorem Vg:AU Tryz.prog 20 [] (.raw (.bool true)):=by
 have hk:=known_p;refine B2 Tryz.func20 Z Z Tryz.ntmps20 Z Z Z fun F hF=>(AF ?_);refine AJ (AD Z Z (AG (AF (AJ (J (B1 (hk) Z Z) (AD Z Z (AG (Ae ?_))))))));exact ⟨_,[],[],Aa rfl,rfl,rfl,rfl,rfl⟩
theorem TC:AU Tryz.prog 21 [] (.raw (.bool true)):=by
 have hk:=Vf;refine B2 Tryz.func21 Z Z Tryz.ntmps21 Z Z Z fun F hF=>(AF ?_);refine AJ (AD Z Z (AG (AF (AJ (J (B1 (hk) Z Z) (AD Z Z (AG (Ae ?_))))))));exact ⟨_,[],[],Aa rfl,rfl,rfl,rfl,rfl⟩
theorem Xz:AU Tryz.prog 7 [] (.raw (.bool true)):=by
 have h1:=Vg;have h2:=TC;refine B2 Tryz.func7 Z Z Tryz.ntmps7 Z Z Z fun F hF=>(AF (AJ (AD Z Z (AG (AF (AJ ?_))))));refine J (B1 (h1) Z Z) (AC Z Z (NZ 2 rfl (rfl) (A9 Z Z Z (J (B1 (h2) Z Z) (J (DX Z Z Z Z) (AD Z Z (AG (Ae ?_))))))));exact ⟨_,[],[],Aa rfl,rfl,rfl,rfl,rfl⟩
theorem hasS_p (l:List Int) (x:Int) (hl:l.length≤2000000):AU Tryz.prog 12 [.d (.sl none (l.map AH)),.d (AH x)] (BJ (decide (x∈l))):=by
 refine B2 Tryz.func12 Z Z Tryz.ntmps12 Z Z Z fun F hF=>(AF (AJ ?_));refine AD Z Z (AG (AF (AF (AJ (AD Z Z (AG (Al (EQ (α:=Nat) (fun k=>⟨18,[(0,.d (.sl none (l.map AH))),(1,.d (AH x)),(5,(.d (AH (k:Int))))],[]⟩) (fun k=>k≤l.length∧x∉l.take k) (fun k=>l.length - k) (0) (⟨Nat.zero_le _,by simp⟩) (Ui ⟨rfl,rfl,rfl,trivial⟩) ?_))))))));rintro k ⟨hk,hx⟩;refine AF (AF (AJ (AC Z Z (AC Z Z (J (C9 rfl (List.length_map ..) Tryz.underlying33 rfl) ?_)))))
 first | refine J (CD Z Z Z) ?_ | refine J (CE Z Z Z) ?_
 refine AG ?_
 first | refine Ay rfl (fun h9=>?_) (fun h9=>?_) | refine At rfl (fun h9=>?_) (fun h9=>?_)
 ·refine Ak (AF (Al (AF ?_)));have hkl:k<l.length:=DA h9;refine AJ (AC Z Z (AC Z Z ?_))
  first | refine J (CT (k) Z Z (rfl) (A0 hkl) Tryz.underlying33 rfl Ep rfl) ?_ | refine J (CU (k) Z Z (rfl) (A0 hkl) rfl Tryz.underlying33 Ep rfl) ?_
  first | refine J (AY Z Z Ab rfl) ?_ | refine J (AW Z Z Z Ab rfl) ?_ | refine J (AX Z Z (rfl) rfl Ab rfl) ?_
  refine AC Z Z ?_
  first | refine J (Ea Z Z Z) ?_ | refine J (E9 Z Z Z) ?_ | refine J (EV Z Z Z) ?_ | refine J (E4 Tryz.underlying3 Z Z Z) ?_ | refine J (E7 Tryz.underlying3 Z Z Z) ?_ | refine J (E6 Tryz.underlying3 Z Z) ?_ | refine J (E5 Tryz.underlying3 Z Z Z) ?_ | refine J (E8 Tryz.underlying3 Z Z) ?_
  refine AG ?_
  first | refine Ay rfl (fun h17=>?_) (fun h17=>?_) | refine At rfl (fun h17=>?_) (fun h17=>?_)
  ·refine AF (AJ (AD Z Z (AG (Ae ?_))));exact ⟨_,[],[],Aa rfl,rfl,rfl,by rw [decide_eq_true (h17▸List.getElem_mem hkl)],rfl⟩
  ·refine Ak (AJ (AC Z Z (J (Bi Z Z (IntWalk.i64_in _ (by omega)) rfl) (AD Z Z (AG ?_)))));exact ⟨k+1,⟨hkl,fun hm=>by rw [List.take_succ_eq_append_getElem hkl] at hm;exact (List.mem_append.1 hm).elim hx fun e=>h17 (List.mem_singleton.1 e).symm⟩,by omega,⟨rfl,rfl,fun _ _=>N2.get (l:=[(0,_),(1,_),(5,_)]) ⟨rfl,rfl,rfl,trivial⟩⟩⟩
 ·refine CW (AF (AJ (AD Z Z (AG (Ae ?_)))));exact ⟨_,[],[],Aa rfl,rfl,rfl,by rw [decide_eq_false (by rw [←List.take_of_length_le (i:=k) (l:=l) (by have:=h9;omega)];exact hx)],rfl⟩
theorem few_sml {p:Prb} (hf:Sml p):Gr p:=⟨by have:=hf.1;omega,by have:=hf.2.1;omega,fun x hx=>by have:=hf.2.2 x hx;omega⟩
def sub30 (ids:List Int) (m k:Nat):List Int:=((List.range k).filter fun j=>decide (m / 2^j % 2=1)).map fun j=>ids.getD j 0
def InU (p:Prb) (ids:List Int) (M:Nat) (x:Int):Prop:=∃m,m<M∧Cu p (sub30 ids m ids.length)∧x∈sub30 ids m ids.length
noncomputable instance (p:Prb) (ids:List Int) (M:Nat) (x:Int):Decidable (InU p ids M x):=Classical.propDecidable _
theorem Yj {wb mv:Nat} {nb pb:Nat ->Nat} {N:Net} {M:MF} (h:CK wb mv nb pb N M) {i:Nat} {x:Nd} (hx:N.nd[i]?=some x):A2 Tryz.prog 83 [.d (pD (nb i) 0)] (HN M) fun r H'=>r= .d (BJ x.on)∧H'=HN M:=by
 have hxb:=h.n i x hx;refine B2 Tryz.func83 Z Z Tryz.ntmps83 Z Z Z fun F hF=>(AF (AJ (AD Z Z (AG (AF (AJ (AC Z Z ?_)))))))
 first | refine J (BS Z Z) ?_ | refine J (BQ Z Z) ?_ | refine J (BT Z Z) ?_ | refine J (BR Z Z) ?_
 first | refine J (AM rfl FJ Z Z Z) ?_ | refine J (AO rfl FJ Z Z Z) ?_ | refine J (AP rfl FJ Z Z Z) ?_ | refine J (AN rfl FJ Z Z Z) ?_ | refine J (AL rfl FJ Z Z Z) ?_
 refine J (Ej (f:=40) Z Z (hxb) rfl on4 rfl) (AD Z Z (AG (Ae ?_)));exact ⟨_,[40],_,Aa rfl,rfl,rfl,rfl,rfl⟩
theorem Yh {wb mv:Nat} {nb pb:Nat ->Nat} {N:Net} {M:MF} (h:CK wb mv nb pb N M) (e:Nat×Int) {y:Po} (hy:N.po[e.1]?=some y) (hr: -1000000000000000000≤y.room∧y.room≤1000000000000000000) (he: -2000000000000000000≤e.2∧e.2≤2000000000000000000):A2 Tryz.prog 87 [.d (YY pb e)] (HN M) fun r H'=>r= .d (BJ (M9 y e.2))∧H'=HN M:=by
 have hov:=LR h hy e.2 hr he;refine B2 Tryz.func87 Z Z Tryz.ntmps87 Z Z Z fun F hF=>(AF (AJ (U (C5 1 Z Z Z Z Z Z Z) (AD Z Z (AG (AF (AJ ?_)))))))
 first | refine J (AM rfl Lo Z Z Z) ?_ | refine J (AO rfl Lo Z Z Z) ?_ | refine J (AP rfl Lo Z Z Z) ?_ | refine J (AN rfl Lo Z Z Z) ?_ | refine J (AL rfl Lo Z Z Z) ?_
 first | refine J (AY Z Z BE rfl) ?_ | refine J (AW Z Z Z BE rfl) ?_ | refine J (AX Z Z (rfl) rfl BE rfl) ?_
 first | refine J (AM rfl Lp Z Z Z) ?_ | refine J (AO rfl Lp Z Z Z) ?_ | refine J (AP rfl Lp Z Z Z) ?_ | refine J (AN rfl Lp Z Z Z) ?_ | refine J (AL rfl Lp Z Z Z) ?_
 first | refine J (AY Z Z BI rfl) ?_ | refine J (AW Z Z Z BI rfl) ?_ | refine J (AX Z Z (rfl) rfl BI rfl) ?_
 refine U (Fp hov rfl [40] ⟨rfl,trivial⟩ Z Z Z Z Z Z Z Z Z) (AD Z Z (AG (Ae ?_)));exact ⟨_,[40],_,Aa rfl,rfl,rfl,rfl,rfl⟩
abbrev HAO (wb mv:Nat) (bs:Option (List Nat×Nat)) (L:List (Int×Value)) (M:MF):Hp:=(910,[.blk 94 [.d (pD wb 0)]])::HW mv bs L M
theorem Yi {wb mv:Nat} {nb pb:Nat ->Nat} {N:Net} {M:MF} (bs:Option (List Nat×Nat)) (h:CK wb mv nb pb N M) (hn:(BY N).Nodup) {id:Int} (hid:id∈BY N):A2 Tryz.prog 85 [.d (AH id),.ptr 910 0 0] (HAO wb mv bs (F8 nb (BY N)) M) fun r H'=>r= .d (BJ (!offOf N id))∧H'=HAO wb mv bs (F8 nb (BY N)) M:=by
 have hwb:=h.w;have hil:=List.idxOf_lt_length_of_mem hid;have hil2:(BY N).idxOf id<N.nd.length:=by unfold BY at hil⊢;rw [List.length_map] at hil;exact hil
 obtain ⟨z,hz⟩:∃z,N.nd[(BY N).idxOf id]?=some z:=⟨_,List.getElem?_eq_getElem hil2⟩
 have hgz:N.nd.getD ((BY N).idxOf id) Bc=z:=by rw [List.getD_eq_getElem?_getD,hz];rfl
 have hzb:=h.n _ z hz;have hby:=Pq (nb:=nb) hn hil;rw [List.getElem_idxOf hil] at hby;have hof:(!offOf N id)=z.on:=by unfold offOf;rw [hgz,Bool.not_not]
 refine B2 Tryz.func85 Z Z Tryz.ntmps85 Z Z Z fun F hF=>(AF (AJ (AD Z Z (AG (AF (AJ ?_))))))
 first | refine J (AY Z Z Li rfl) ?_ | refine J (AW Z Z Z Li rfl) ?_ | refine J (AX Z Z (rfl) rfl Li rfl) ?_
 first | refine J (BS Z Z) ?_ | refine J (BQ Z Z) ?_ | refine J (BT Z Z) ?_ | refine J (BR Z Z) ?_
 first | refine J (AM rfl JV Z Z Z) ?_ | refine J (AO rfl JV Z Z Z) ?_ | refine J (AP rfl JV Z Z Z) ?_ | refine J (AN rfl JV Z Z Z) ?_ | refine J (AL rfl JV Z Z Z) ?_
 refine J (Ej (f:=40) Z Z (hwb) rfl UL rfl) (Ex 7 51 0 Z Z (AC Z Z (J (LC (F8 nb (BY N)) id (.pointer none) (pV (nb ((BY N).idxOf id)) 0) Z Z Z UU KB za99 hby rfl) ?_)))
 first | refine J (BS Z Z) ?_ | refine J (BQ Z Z) ?_ | refine J (BT Z Z) ?_ | refine J (BR Z Z) ?_
 first | refine J (AM rfl FJ Z Z Z) ?_ | refine J (AO rfl FJ Z Z Z) ?_ | refine J (AP rfl FJ Z Z Z) ?_ | refine J (AN rfl FJ Z Z Z) ?_ | refine J (AL rfl FJ Z Z Z) ?_
 refine J (Ej (f:=40) Z Z (hzb) rfl on4 rfl) (AD Z Z (AG (Ae ?_)));exact ⟨_,[910,40,50,51],_,Aa rfl,rfl,rfl,by rw [hof],rfl⟩
section
variable {P:Program} {F:Fr} {s:AS} {d:Nat} {x hi:Operand} {T E:TypeId} {ty:TypeId} {pos:String} {aft:Array Edge} {g:Option (Nat×Bool)}
theorem QZ {b n cap kk:Nat} (h:Nat) {kh:IntKind} {ih:Int} (hx:s.ev x=some (.d (.raw (sV b n cap)))) (hhi:s.ev hi=some (.d (.raw (.int kh ih)))) (hh:ih=(h:Int)) (h2:h≤cap) (hT:P.underlying T=some (.slice E)) (hE:A6 P E kk=true) (hd:Nat.blt d s.n=true):
  AA P F ⟨some d,.slice T x none (some hi) none,ty,pos,aft,g⟩ s d (.d (.raw (sV b h cap))):=
 C1 _ hd fun _ act w hs=>by
  have e:=hs.raw hx;subst hh;refine ⟨.slice (if cap=0 then some ⟨b,0,none⟩ else (some (⟨b,0,none⟩:Addr)).map (·.add (0*kk))) (h - 0) (cap - 0),by simp only [execOp,e,Option.map_some,Option.map_none,hs.raw hhi,Sem.run_bind,Jk hT (Zc3 hE) h2,Result.andThen_ok,Sem.run_pure],?_⟩
  have:Value.slice (if cap=0 then some ⟨b,0,none⟩ else (some (⟨b,0,none⟩:Addr)).map (·.add (0*kk))) (h - 0) (cap - 0)=sV b h cap:=by
   split<;>simp [Addr.add]
  rw [this];exact .d (.raw rfl)
end
def TF {α:Type} (p:α ->Bool) (l:List α):Int:=match l.findIdx? p with
 | some k=>k
 | none=> -1
theorem idx1_c {wb mv:Nat} {nb pb:Nat ->Nat} {N:Net} {M:MF} (h:CK wb mv nb pb N M) {hd:Hd} {q:List Nat} (hq:BX M hd 99 1 (q.map fun i=>BK (nb i))) (hqn:∀i∈q,i<N.nd.length) (m:Nat) (hm:m≤q.length) (hql:q.length≤100000):
  A2 Tryz.prog 35 [.d (hdr hd m),.d (.raw (.func (.func 83) #[] #[]))] (HN M) fun r H'=>r= .d (AH (TF (onN N) (q.take m)))∧H'=HN M:=by
 have hz:hd=none ->m=0:=fun e=>by have:=SA hq e;omega
 have htl:(q.take m).length=m:=by rw [List.length_take];omega
 refine B2 Tryz.func35 Z Z Tryz.ntmps35 Z Z Z fun F hF=>(AF (AJ (AD Z Z (AG ?_))));refine AF (AF (AJ (AC Z Z (J (SK hz rfl Tryz.underlying98 rfl) (AC Z Z (AG (Al (DG (α:=Nat) (fun k=>⟨19,[(0,.d (hdr hd m)),(1,.d (.raw (.func (.func 83) #[] #[]))),(7,(.d (AH (m:Int)))),(8,(.d (AH (k:Int))))],HN M⟩) (fun k=>k≤m∧∀x∈(q.take m).take k,onN N x=false) (fun k=>m - k) (0) (⟨Nat.zero_le _,by simp⟩) (BA hF [40] Z Z ⟨rfl,rfl,rfl,rfl,trivial⟩) ?_))))))));rintro k ⟨hk0,hk⟩;refine AF (AJ ?_)
 first | refine J (CD Z Z Z) ?_ | refine J (CE Z Z Z) ?_
 refine AG (AF ?_)
 first | refine Ay rfl (fun h9=>?_) (fun h9=>?_) | refine At rfl (fun h9=>?_) (fun h9=>?_)
 ·have hk1:k<m:=DA h9;refine Ak (AF (Al (AF ?_)));have hkq:k<q.length:=by omega
  have hkt:k<(q.take m).length:=by omega
  obtain ⟨rb,rc,hre⟩:=SJ hq hkq;have hrow:=QK hq hre;have hil:=hqn _ (List.getElem_mem hkq)
  obtain ⟨z,hz2⟩:∃z,N.nd[q[k]]?=some z:=⟨_,List.getElem?_eq_getElem hil⟩
  have hal:=Yj h hz2;have hon:onN N q[k]=z.on:=by unfold onN;rw [List.getD_eq_getElem?_getD,hz2];rfl
  refine AJ (AC Z Z (AD Z Z (AG ?_)));refine AF (AJ (AC Z Z (AC Z Z (AC Z Z (J (SL hre (k) Z Z Z hk1 Tryz.underlying98 PM rfl) (J (Zdk (f:=40) (e:=k) (off:=0) rfl (by omega) rfl (hrow) (A0 hkq) rfl St rfl) (U (D6 hal rfl [40] ⟨rfl,trivial⟩ Z Z Z Z Z Z Z Z Z) (AG ?_))))))))
  first | refine Ay rfl (fun h16=>?_) (fun h16=>?_) | refine At rfl (fun h16=>?_) (fun h16=>?_)
  ·refine AF (AJ (AC Z Z (AD Z Z (AG (Ae ?_)))));exact ⟨_,[40],_,Aa rfl,rfl,rfl,Aj (by unfold TF;rw [IQ hkt hk (by rw [List.getElem_take,hon];simpa using h16)]),rfl⟩
  ·refine Ak (AJ (J (Bi Z Z (Ac (k+1) (by omega)) rfl) (AC Z Z (AG ?_))));exact ⟨k+1,⟨by show k+1≤_;omega,by rw [List.take_succ_eq_append_getElem hkt];intro y hy;rcases List.mem_append.1 hy with hy | hy;exact hk y hy;rw [List.mem_singleton.1 hy,List.getElem_take];rw [hon];simpa using h16⟩,by show m - (k+1)<m - k;omega,BA hF [40] rfl (rfl) ⟨rfl,rfl,rfl,rfl,trivial⟩⟩
 ·refine CW (AF (AJ (AD Z Z (AG (Ae ?_)))));exact ⟨_,[40],_,Aa rfl,rfl,rfl,Aj (by unfold TF;rw [KI (fun x hx=>hk x (by rw [List.take_of_length_le (by have h:=h9;omega)];exact hx))]),rfl⟩
theorem TE {α:Type} {p:α ->Bool} {l:List α}:(TF p l≥0)↔l.any p=true:=by
 unfold TF
 cases h:l.findIdx? p with
 | none=>
  rw [List.findIdx?_eq_none_iff] at h
  constructor
  ·intro h1;have h2:(-1:Int)≥0:=h1;omega
  ·intro h1;obtain ⟨x,hx,h2⟩:=List.any_eq_true.1 h1;rw [h x hx] at h2;cases h2
 | some k=>
  constructor
  ·intro _;obtain ⟨hk,h1,_⟩:=List.findIdx?_eq_some_iff_getElem.1 h;exact List.any_eq_true.2 ⟨l[k],List.getElem_mem hk,h1⟩
  ·intro _;show (k:Int)≥0;omega
theorem cont1_c {wb mv:Nat} {nb pb:Nat ->Nat} {N:Net} {M:MF} (h:CK wb mv nb pb N M) {hd:Hd} {q:List Nat} (hq:BX M hd 99 1 (q.map fun i=>BK (nb i))) (hqn:∀i∈q,i<N.nd.length) (m:Nat) (hm:m≤q.length) (hql:q.length≤100000):
  A2 Tryz.prog 82 [.d (hdr hd m),.d (.raw (.func (.func 83) #[] #[]))] (HN M) fun r H'=>r= .d (BJ ((q.take m).any (onN N)))∧H'=HN M:=by
 refine B2 Tryz.func82 Z Z Tryz.ntmps82 Z Z Z fun F hF=>(AF (AJ (AD Z Z (AG ?_))));refine AF (AJ (AC Z Z (AC Z Z (U (Fp (idx1_c h hq hqn m hm hql) rfl [40] ⟨rfl,trivial⟩ Z Z Z Z Z Z Z Z Z) (J (G7 Z Z Z) (AD Z Z (AG (Ae ?_))))))));exact ⟨_,[40],_,Aa rfl,rfl,rfl,Fz (by rw [Bool.eq_iff_iff,decide_eq_true_eq];exact TE),rfl⟩
theorem idx3_c {wb mv:Nat} {nb pb:Nat ->Nat} {N:Net} {M:MF} (h:CK wb mv nb pb N M) (hw:NetW N) {i:Nat} {x:Nd} (hx:N.nd[i]?=some x):
  A2 Tryz.prog 141 [.d (hdr x.eh x.ef.length),.d (.raw (.func (.func 87) #[] #[]))] (HN M) fun r H'=>r= .d (AH (TF (fun e:Nat×Int=>M9 (N.po.getD e.1 CC) e.2) x.ef))∧H'=HN M:=by
 obtain ⟨hxb,hre,_⟩:=h.nn i x hx;have hxm:=List.mem_of_getElem? hx;have hel:=(hw.l x hxm).1;have hz:=SA hre;refine B2 Tryz.func141 Z Z Tryz.ntmps141 Z Z Z fun F hF=>(AF (AJ (AD Z Z (AG ?_))));refine AF (AF (AJ (AC Z Z (J (SK hz rfl Tryz.underlying104 rfl) (AC Z Z (AG (Al (DG (α:=Nat) (fun k=>⟨19,[(0,.d (hdr x.eh x.ef.length)),(1,.d (.raw (.func (.func 87) #[] #[]))),(7,(.d (AH (x.ef.length:Int)))),(8,(.d (AH (k:Int))))],HN M⟩) (fun k=>k≤x.ef.length∧∀e∈x.ef.take k,(fun e:Nat×Int=>M9 (N.po.getD e.1 CC) e.2) e=false) (fun k=>x.ef.length - k) (0) (⟨Nat.zero_le _,by simp⟩) (BA hF [40] Z Z ⟨rfl,rfl,rfl,rfl,trivial⟩) ?_))))))));rintro k ⟨hk0,hk⟩;refine AF (AJ ?_)
 first | refine J (CD Z Z Z) ?_ | refine J (CE Z Z Z) ?_
 refine AG (AF ?_)
 first | refine Ay rfl (fun h9=>?_) (fun h9=>?_) | refine At rfl (fun h9=>?_) (fun h9=>?_)
 ·have hk1:k<x.ef.length:=DA h9;refine Ak (AF (Al (AF ?_)));obtain ⟨rb,rc,hree⟩:=SJ hre hk1;have hrow:=QK hre hree;have hjl:=(h.e x hxm).1 _ (List.getElem_mem hk1)
  obtain ⟨y,hy⟩:∃y,N.po[x.ef[k].1]?=some y:=⟨_,List.getElem?_eq_getElem hjl⟩
  have hgy:N.po.getD x.ef[k].1 CC=y:=by rw [List.getD_eq_getElem?_getD,hy];rfl
  have heb:=hw.e x hxm _ (List.getElem_mem hk1);have hal:=Yh h x.ef[k] hy (hw.rm y (List.mem_of_getElem? hy)) ⟨by omega,by omega⟩;refine AJ (AC Z Z (AD Z Z (AG ?_)));refine AF (AJ (AC Z Z (AC Z Z (AC Z Z (J (SL hree (k) Z Z Z hk1 Tryz.underlying104 QW rfl) (J (D5 (f:=40) (e:=k) rfl (rfl) rfl (hrow) (A0 hk1) rfl Ws rfl) (U (D6 hal rfl [40] ⟨rfl,trivial⟩ Z Z Z Z Z Z Z Z Z) (AG ?_))))))))
  first | refine Ay rfl (fun h16=>?_) (fun h16=>?_) | refine At rfl (fun h16=>?_) (fun h16=>?_)
  ·refine AF (AJ (AC Z Z (AD Z Z (AG (Ae ?_)))));exact ⟨_,[40],_,Aa rfl,rfl,rfl,Aj (by unfold TF;rw [IQ hk1 hk (by show M9 (N.po.getD x.ef[k].1 CC) x.ef[k].2=true;rw [hgy];unfold M9;exact decide_eq_true h16)]),rfl⟩
  ·refine Ak (AJ (J (Bi Z Z (Ac (k+1) (by omega)) rfl) (AC Z Z (AG ?_))));exact ⟨k+1,⟨by show k+1≤_;omega,by rw [List.take_succ_eq_append_getElem hk1];intro e he;rcases List.mem_append.1 he with he | he;exact hk e he;rw [List.mem_singleton.1 he];show M9 (N.po.getD x.ef[k].1 CC) x.ef[k].2=false;rw [hgy];unfold M9;exact decide_eq_false h16⟩,by show x.ef.length - (k+1)<x.ef.length - k;omega,BA hF [40] rfl (rfl) ⟨rfl,rfl,rfl,rfl,trivial⟩⟩
 ·refine CW (AF (AJ (AD Z Z (AG (Ae ?_)))));exact ⟨_,[40],_,Aa rfl,rfl,rfl,Aj (by unfold TF;rw [KI (fun e he=>hk e (by rw [List.take_of_length_le (by have h:=h9;omega)];exact he))]),rfl⟩
theorem cont3_c {wb mv:Nat} {nb pb:Nat ->Nat} {N:Net} {M:MF} (h:CK wb mv nb pb N M) (hw:NetW N) {i:Nat} {x:Nd} (hx:N.nd[i]?=some x):
  A2 Tryz.prog 86 [.d (hdr x.eh x.ef.length),.d (.raw (.func (.func 87) #[] #[]))] (HN M) fun r H'=>r= .d (BJ (x.ef.any fun e:Nat×Int=>M9 (N.po.getD e.1 CC) e.2))∧H'=HN M:=by
 refine B2 Tryz.func86 Z Z Tryz.ntmps86 Z Z Z fun F hF=>(AF (AJ (AD Z Z (AG ?_))));refine AF (AJ (AC Z Z (AC Z Z (U (Fp (idx3_c h hw hx) rfl [40] ⟨rfl,trivial⟩ Z Z Z Z Z Z Z Z Z) (J (G7 Z Z Z) (AD Z Z (AG (Ae ?_))))))));exact ⟨_,[40],_,Aa rfl,rfl,rfl,Fz (by rw [Bool.eq_iff_iff,decide_eq_true_eq];exact TE),rfl⟩
theorem idx2_c {wb mv:Nat} {nb pb:Nat ->Nat} {N:Net} {M:MF} (bs:Option (List Nat×Nat)) (h:CK wb mv nb pb N M) (hn:(BY N).Nodup) (l:List Int) (hl:l.length≤100000) (hid:∀id∈l,id∈BY N):
  A2 Tryz.prog 95 [.d (.sl none (l.map AH)),.fn 85 [.ptr 910 0 0]] (HAO wb mv bs (F8 nb (BY N)) M) fun r H'=>r= .d (AH (TF (fun id=>!offOf N id) l))∧H'=HAO wb mv bs (F8 nb (BY N)) M:=by
 obtain ⟨L,hL⟩:∃L,F8 nb (BY N)=L:=⟨_,rfl⟩
 have ha:=fun id hi=>Yi (id:=id) bs h hn hi;rw [hL] at ha⊢;refine B2 Tryz.func95 Z Z Tryz.ntmps95 Z Z Z fun F hF=>(AF (AJ (AD Z Z (AG (AF (AF (AJ (AC Z Z ?_))))))))
 first | refine J (Cz rfl Tryz.underlying33 rfl) ?_ | refine J (C9 Z Z Tryz.underlying33 rfl) ?_ | refine J (DB rfl Tryz.underlying33 rfl) ?_ | refine J (Cy rfl Tryz.underlying33 rfl) ?_ | refine J (Cr rfl Tryz.underlying33 rfl) ?_ | refine J (Cw rfl Tryz.underlying33 rfl) ?_
 refine AC Z Z (AG (Al (DG (α:=Nat) (fun k=>⟨19,[(0,.d (.sl none (l.map AH))),(1,.fn 85 [.ptr 910 0 0]),(7,(.d (AH (l.length:Int)))),(8,(.d (AH (k:Int))))],HAO wb mv bs L M⟩) (fun k=>k≤l.length∧∀x∈l.take k,(fun id=>!offOf N id) x=false) (fun k=>l.length - k) (0) (⟨Nat.zero_le _,by simp⟩) (BA hF [910,40,50,51] Z Z ⟨rfl,rfl,rfl,rfl,trivial⟩) ?_)));rintro k ⟨hk0,hk⟩;refine AF (AJ ?_)
 first | refine J (CD Z Z Z) ?_ | refine J (CE Z Z Z) ?_
 refine AG (AF ?_)
 first | refine Ay rfl (fun h9=>?_) (fun h9=>?_) | refine At rfl (fun h9=>?_) (fun h9=>?_)
 ·have hk1:k<l.length:=DA h9;refine Ak (AF (Al (AF ?_)));refine AJ (AC Z Z (AD Z Z (AG (AF (AJ (AC Z Z (AC Z Z (AC Z Z ?_))))))))
  first | refine J (CT (k) Z Z (rfl) (A0 hk1) Tryz.underlying33 rfl Ep rfl) ?_ | refine J (CU (k) Z Z (rfl) (A0 hk1) rfl Tryz.underlying33 Ep rfl) ?_
  first | refine J (AY Z Z Ab rfl) ?_ | refine J (AW Z Z Z Ab rfl) ?_ | refine J (AX Z Z (rfl) rfl Ab rfl) ?_
  refine U (D6 (ha l[k] (hid _ (List.getElem_mem hk1))) rfl [910,40,50,51] ⟨rfl,rfl,rfl,rfl,trivial⟩ Z Z Z Z Z Z Z Z Z) (AG ?_)
  first | refine Ay rfl (fun h16=>?_) (fun h16=>?_) | refine At rfl (fun h16=>?_) (fun h16=>?_)
  ·refine AF (AJ (AC Z Z (AD Z Z (AG (Ae ?_)))));exact ⟨_,[910,40,50,51],_,Aa rfl,rfl,rfl,Aj (by unfold TF;rw [IQ hk1 hk (by simpa using h16)]),rfl⟩
  ·refine Ak (AJ (J (Bi Z Z (Ac (k+1) (by omega)) rfl) (AC Z Z (AG ?_))));exact ⟨k+1,⟨by show k+1≤_;omega,by rw [List.take_succ_eq_append_getElem hk1];intro x hx;rcases List.mem_append.1 hx with hx | hx;exact hk x hx;rw [List.mem_singleton.1 hx];simpa using h16⟩,by show l.length - (k+1)<l.length - k;omega,BA hF [910,40,50,51] rfl (rfl) ⟨rfl,rfl,rfl,rfl,trivial⟩⟩
 ·refine CW (AF (AJ (AD Z Z (AG (Ae ?_)))));exact ⟨_,[910,40,50,51],_,Aa rfl,rfl,rfl,Aj (by unfold TF;rw [KI (fun x hx=>hk x (by rw [List.take_of_length_le (by have h:=h9;omega)];exact hx))]),rfl⟩
theorem cont2_c {wb mv:Nat} {nb pb:Nat ->Nat} {N:Net} {M:MF} (bs:Option (List Nat×Nat)) (h:CK wb mv nb pb N M) (hn:(BY N).Nodup) (l:List Int) (hl:l.length≤100000) (hid:∀id∈l,id∈BY N):
  A2 Tryz.prog 84 [.d (.sl none (l.map AH)),.fn 85 [.ptr 910 0 0]] (HAO wb mv bs (F8 nb (BY N)) M) fun r H'=>r= .d (BJ (l.any fun id=>!offOf N id))∧H'=HAO wb mv bs (F8 nb (BY N)) M:=by
 refine B2 Tryz.func84 Z Z Tryz.ntmps84 Z Z Z fun F hF=>(AF (AJ (AD Z Z (AG ?_))));refine AF (AJ (AC Z Z (AC Z Z (U (Fp (idx2_c bs h hn l hl hid) rfl [910,40,50,51] ⟨rfl,rfl,rfl,rfl,trivial⟩ Z Z Z Z Z Z Z Z Z) (J (G7 Z Z Z) (AD Z Z (AG (Ae ?_))))))));exact ⟨_,[910,40,50,51],_,Aa rfl,rfl,rfl,Fz (by rw [Bool.eq_iff_iff,decide_eq_true_eq];exact TE),rfl⟩
section
variable {P:Program} {F:Fr} {s:AS} {d:Nat} {x hi:Operand} {T E:TypeId} {ty:TypeId} {pos:String} {aft:Array Edge} {g:Option (Nat×Bool)}
theorem Q0 {h:Hd} {b n cap kk:Nat} (he:h=some (b,cap)) (m:Nat) {kh:IntKind} {ih:Int} (hx:s.ev x=some (.d (hdr h n))) (hhi:s.ev hi=some (.d (.raw (.int kh ih)))) (hh:ih=(m:Int)) (h2:m≤cap) (hT:P.underlying T=some (.slice E)) (hE:A6 P E kk=true) (hd:Nat.blt d s.n=true):
  AA P F ⟨some d,.slice T x none (some hi) none,ty,pos,aft,g⟩ s d (.d (hdr h m)):=by
 subst he;exact QZ m hx hhi hh h2 hT hE hd
end
def Qi (N:Net) (e:Nat×Nat):Bool:=((N.po.getD e.1 CC).q.take e.2).any (onN N)
def Cq (N:Net) (x:Nd):Bool:=!(x.pl.any (Qi N)) &&(!(x.it.af.any fun id=>!offOf N id) && !(x.ef.any fun e:Nat×Int=>M9 (N.po.getD e.1 CC) e.2))
theorem al_pl {N:Net} {x:Nd} (h:x.pl.any (Qi N)=true):Cq N x=false:=by unfold Cq;rw [h];rfl
theorem al_af {N:Net} {x:Nd} (h0:x.pl.any (Qi N)=false) (h:(x.it.af.any fun id=>!offOf N id)=true):Cq N x=false:=by unfold Cq;rw [h0,h];rfl
theorem al_ef {N:Net} {x:Nd} (h0:x.pl.any (Qi N)=false) (h:(x.it.af.any fun id=>!offOf N id)=false):Cq N x=!(x.ef.any fun e:Nat×Int=>M9 (N.po.getD e.1 CC) e.2):=by unfold Cq;rw [h0,h];simp
set_option maxHeartbeats 1000000 in
theorem alone_c {wb mv:Nat} {nb pb:Nat ->Nat} {N:Net} {M:MF} (bs:Option (List Nat×Nat)) (h:CK wb mv nb pb N M) (hw:NetW N) {i:Nat} {x:Nd} (hx:N.nd[i]?=some x):
  A2 Tryz.prog 37 [.d (pD wb 0),.d (pD (nb i) 0)] (HW mv bs (F8 nb (BY N)) M) fun r H'=>r= .d (BJ (Cq N x))∧H'=HW mv bs (F8 nb (BY N)) M:=by
 have hxm:=List.mem_of_getElem? hx;obtain ⟨hxb,hre,hrp⟩:=h.nn i x hx;have hpz:=SA hrp;obtain ⟨_,hpl,hafl⟩:=hw.l x hxm;have hxe:=h.e x hxm;have hxp:=hw.p x hxm;have hc2:=cont2_c bs h hw.i x.it.af (by omega) (hw.a x hxm);have hc3:=cont3_c h hw hx
 obtain ⟨L,hL⟩:∃L,F8 nb (BY N)=L:=⟨_,rfl⟩
 rw [hL] at hc2⊢;refine B2 Tryz.func37 Z Z Tryz.ntmps37 Z Z Z fun F hF=>?_;refine AF (AJ (U (C5 910 Z Z Z Z Z Z Z) (AD Z Z (AG (AF (AF (AJ (AC Z Z ?_))))))))
 first | refine J (BS Z Z) ?_ | refine J (BQ Z Z) ?_ | refine J (BT Z Z) ?_ | refine J (BR Z Z) ?_
 first | refine J (AM rfl JW Z Z Z) ?_ | refine J (AO rfl JW Z Z Z) ?_ | refine J (AP rfl JW Z Z Z) ?_ | refine J (AN rfl JW Z Z Z) ?_ | refine J (AL rfl JW Z Z Z) ?_
 refine J (Ej (f:=40) Z Z (hxb) rfl UJ rfl) (J (SK hpz rfl Tryz.underlying105 rfl) (AC Z Z (AG (Al (DG (α:=Nat) (fun k=>⟨39,[(1,.d (pD (nb i) 0)),(2,(.ptr 910 0 0)),(10,(.d (hdr x.ph x.pl.length))),(11,(.d (AH (x.pl.length:Int)))),(12,(.d (AH (k:Int))))],HAO wb mv bs L M⟩) (fun k=>k≤x.pl.length∧∀e∈x.pl.take k,Qi N e=false) (fun k=>x.pl.length - k) (0) (⟨Nat.zero_le _,by simp⟩) (BA hF [910,40,50,51] Z Z ⟨rfl,rfl,rfl,rfl,rfl,trivial⟩) ?_)))));rintro k ⟨hk0,hkb⟩;refine AF (AJ ?_)
 first | refine J (CD Z Z Z) ?_ | refine J (CE Z Z Z) ?_
 refine AG (AF ?_)
 first | refine Ay rfl (fun h13=>?_) (fun h13=>?_) | refine At rfl (fun h13=>?_) (fun h13=>?_)
 ·have hk1:k<x.pl.length:=DA h13;refine Ak (AF (Al (AF ?_)));obtain ⟨eb,ec,hee⟩:=SJ hrp hk1;have hrow:=QK hrp hee;have hjl:x.pl[k].1<N.po.length:=hxe.2 _ (List.getElem_mem hk1)
  obtain ⟨y,hy⟩:∃y,N.po[x.pl[k].1]?=some y:=⟨_,List.getElem?_eq_getElem hjl⟩
  have hgy:N.po.getD x.pl[k].1 CC=y:=by rw [List.getD_eq_getElem?_getD,hy];rfl
  have hym:=List.mem_of_getElem? hy;obtain ⟨hyb,hyq⟩:=h.pp _ y hy;have hpk:=hxp _ (List.getElem_mem hk1);rw [hgy] at hpk;obtain ⟨qb,qc,hqe⟩:=SJ hyq hpk.1;have hqc:y.q.length≤qc:=by have h1:=hyq;rw [hqe] at h1;have h2:=h1.1;rw [List.length_map] at h2;exact h2
  have hcn:=cont1_c h hyq (h.q y hym) x.pl[k].2 (by omega) (by have h1:=hw.ql y hym;omega);refine AJ (J (SL hee (k) Z Z Z hk1 Tryz.underlying105 Nz rfl) (J (D5 (f:=40) (e:=k) rfl (rfl) rfl (hrow) (A0 hk1) rfl Wr rfl) (U (DO 911 QN Z Z Z Z) (U (CF Z Z Z Z Z Z Z Nz) (AG (AF (Gp [[],[0],[0,1],[0,1,2],[0,1,2,3],[],[5],[0,1,2,3,4,5,6],[0,1,2,3,4,5,6,7]] BF rfl (Hh ?_))))))))
  first | refine AE [6] [] Z Z (fun _=>AB (AM rfl Cg Z Z Z)) ?_ | refine AI [6] Z Z (fun _=>AB (AM rfl Cg Z Z Z)) ?_ | refine AE [6] [] Z Z (fun _=>AB (AO rfl Cg Z Z Z)) ?_ | refine AI [6] Z Z (fun _=>AB (AO rfl Cg Z Z Z)) ?_ | refine AE [6] [] Z Z (fun _=>AB (AP rfl Cg Z Z Z)) ?_ | refine AI [6] Z Z (fun _=>AB (AP rfl Cg Z Z Z)) ?_ | refine AE [6] [] Z Z (fun _=>AB (AN rfl Cg Z Z Z)) ?_ | refine AI [6] Z Z (fun _=>AB (AN rfl Cg Z Z Z)) ?_ | refine AE [6] [] Z Z (fun _=>AB (AL rfl Cg Z Z Z)) ?_ | refine AI [6] Z Z (fun _=>AB (AL rfl Cg Z Z Z)) ?_
  first | refine AE [16] [911] Z Z (fun _=>AB (AY Z Z BE rfl)) ?_ | refine AE [16] [911] Z Z (fun _=>AB (AW Z Z Z BE rfl)) ?_ | refine AE [16] [911] Z Z (fun _=>AB (AX Z Z (rfl) rfl BE rfl)) ?_
  first | refine AE [17] [] Z Z (fun _=>AB (BS Z Z)) ?_ | refine AI [17] Z Z (fun _=>AB (BS Z Z)) ?_ | refine AE [17] [] Z Z (fun _=>AB (BQ Z Z)) ?_ | refine AI [17] Z Z (fun _=>AB (BQ Z Z)) ?_ | refine AE [17] [] Z Z (fun _=>AB (BT Z Z)) ?_ | refine AI [17] Z Z (fun _=>AB (BT Z Z)) ?_ | refine AE [17] [] Z Z (fun _=>AB (BR Z Z)) ?_ | refine AI [17] Z Z (fun _=>AB (BR Z Z)) ?_
  first | refine AE [18] [] Z Z (fun _=>AB (AM rfl EU Z Z Z)) ?_ | refine AI [18] Z Z (fun _=>AB (AM rfl EU Z Z Z)) ?_ | refine AE [18] [] Z Z (fun _=>AB (AO rfl EU Z Z Z)) ?_ | refine AI [18] Z Z (fun _=>AB (AO rfl EU Z Z Z)) ?_ | refine AE [18] [] Z Z (fun _=>AB (AP rfl EU Z Z Z)) ?_ | refine AI [18] Z Z (fun _=>AB (AP rfl EU Z Z Z)) ?_ | refine AE [18] [] Z Z (fun _=>AB (AN rfl EU Z Z Z)) ?_ | refine AI [18] Z Z (fun _=>AB (AN rfl EU Z Z Z)) ?_ | refine AE [18] [] Z Z (fun _=>AB (AL rfl EU Z Z Z)) ?_ | refine AI [18] Z Z (fun _=>AB (AL rfl EU Z Z Z)) ?_
  refine AE [19] [40] Z Z (fun _=>AB (Ej (f:=40) Z Z (hyb) rfl Gb rfl)) ?_
  first | refine AE [6] [] Z Z (fun _=>AB (AM rfl JZ Z Z Z)) ?_ | refine AI [6] Z Z (fun _=>AB (AM rfl JZ Z Z Z)) ?_ | refine AE [6] [] Z Z (fun _=>AB (AO rfl JZ Z Z Z)) ?_ | refine AI [6] Z Z (fun _=>AB (AO rfl JZ Z Z Z)) ?_ | refine AE [6] [] Z Z (fun _=>AB (AP rfl JZ Z Z Z)) ?_ | refine AI [6] Z Z (fun _=>AB (AP rfl JZ Z Z Z)) ?_ | refine AE [6] [] Z Z (fun _=>AB (AN rfl JZ Z Z Z)) ?_ | refine AI [6] Z Z (fun _=>AB (AN rfl JZ Z Z Z)) ?_ | refine AE [6] [] Z Z (fun _=>AB (AL rfl JZ Z Z Z)) ?_ | refine AI [6] Z Z (fun _=>AB (AL rfl JZ Z Z Z)) ?_
  first | refine AE [21] [911] Z Z (fun _=>AB (AY Z Z Ab rfl)) ?_ | refine AE [21] [911] Z Z (fun _=>AB (AW Z Z Z Ab rfl)) ?_ | refine AE [21] [911] Z Z (fun _=>AB (AX Z Z (rfl) rfl Ab rfl)) ?_
  refine GR 7 Z Z Z (BC 8 Z Z (J (Q0 hqe x.pl[k].2 Z Z Z (by omega) Tryz.underlying98 PM rfl) (AG ⟨rfl,?_⟩)));refine BC 9 Z Z (U (Fp hcn rfl [40] ⟨rfl,trivial⟩ Z Z Z Z Z Z Z Z Z) (AG ⟨rfl,?_⟩));refine GQ ?_
  first | refine Ay rfl (fun h24=>?_) (fun h24=>?_) | refine At rfl (fun h24=>?_) (fun h24=>?_)
  ·refine AF (AJ (AD Z Z (AG (Ae ?_))));exact ⟨_,[40,50,51],_,Aa rfl,rfl,rfl,by rw [al_pl (List.any_eq_true.2 ⟨_,List.getElem_mem hk1,by unfold Qi;rw [hgy];simpa using h24⟩)],rfl⟩
  ·refine Ak (AJ (J (Bi Z Z (Ac (k+1) (by omega)) rfl) (AC Z Z (AG ?_))));exact ⟨k+1,⟨by show k+1≤_;omega,by rw [List.take_succ_eq_append_getElem hk1];intro e he;rcases List.mem_append.1 he with he | he;exact hkb e he;rw [List.mem_singleton.1 he];unfold Qi;rw [hgy];simpa using h24⟩,by show x.pl.length - (k+1)<x.pl.length - k;omega,BA hF [910,40,50,51] rfl (rfl) ⟨rfl,rfl,rfl,rfl,rfl,trivial⟩⟩
 ·refine CW (AF (AF ?_));have hp0:x.pl.any (Qi N)=false:=by rw [List.any_eq_false];intro e he;have e1:k=x.pl.length:=(by have h:=h13;omega);rw [e1,List.take_length] at hkb;rw [hkb e he];simp
  refine AJ (AC Z Z ?_)
  first | refine J (BS Z Z) ?_ | refine J (BQ Z Z) ?_ | refine J (BT Z Z) ?_ | refine J (BR Z Z) ?_
  first | refine J (AM rfl Dn Z Z Z) ?_ | refine J (AO rfl Dn Z Z Z) ?_ | refine J (AP rfl Dn Z Z Z) ?_ | refine J (AN rfl Dn Z Z Z) ?_ | refine J (AL rfl Dn Z Z Z) ?_
  first | refine J (AM rfl El Z Z Z) ?_ | refine J (AO rfl El Z Z Z) ?_ | refine J (AP rfl El Z Z Z) ?_ | refine J (AN rfl El Z Z Z) ?_ | refine J (AL rfl El Z Z Z) ?_
  refine J (Ej (f:=40) Z Z (hxb) rfl BO rfl) (J (Zdb Z Z) (U (Fp hc2 rfl [910,40,50,51] ⟨rfl,rfl,rfl,rfl,trivial⟩ Z Z Z Z Z Z Z Z Z) (AG ?_)))
  first | refine Ay rfl (fun h32=>?_) (fun h32=>?_) | refine At rfl (fun h32=>?_) (fun h32=>?_)
  ·refine AF (AJ (AD Z Z (AG (Ae ?_))));exact ⟨_,[40,50,51],_,Aa rfl,rfl,rfl,by rw [al_af hp0 (by simpa using h32)],rfl⟩
  ·refine Ak (AF (AJ (AC Z Z ?_)))
   first | refine J (BS Z Z) ?_ | refine J (BQ Z Z) ?_ | refine J (BT Z Z) ?_ | refine J (BR Z Z) ?_
   first | refine J (AM rfl Ln Z Z Z) ?_ | refine J (AO rfl Ln Z Z Z) ?_ | refine J (AP rfl Ln Z Z Z) ?_ | refine J (AN rfl Ln Z Z Z) ?_ | refine J (AL rfl Ln Z Z Z) ?_
   refine J (Ej (f:=40) Z Z (hxb) rfl UK rfl) (U (Fp hc3 rfl [40] ⟨rfl,trivial⟩ Z Z Z Z Z Z Z Z Z) ?_)
   first | refine J (GZ Z Z) ?_ | refine J (GP Z Z) ?_
   refine AD Z Z (AG (Ae ?_));exact ⟨_,[40,50,51],_,Aa rfl,rfl,rfl,by rw [al_ef hp0 (by simpa using h32)],rfl⟩
abbrev HG (wb mv:Nat) (bs:Option (List Nat×Nat)) (L:List (Int×Value)) (M:MF):Hp:=(920,[.blk 94 [.d (pD wb 0)]])::HW mv bs L M
theorem YP {wb mv:Nat} {nb pb:Nat ->Nat} {N:Net} {M:MF} (bs:Option (List Nat×Nat)) (h:CK wb mv nb pb N M) (hw:NetW N) {i:Nat} {x:Nd} (hx:N.nd[i]?=some x):
  A2 Tryz.prog 36 [.d (pD (nb i) 0),.ptr 920 0 0] (HG wb mv bs (F8 nb (BY N)) M) fun r H'=>r= .d (BJ (x.on && Cq N x))∧H'=HG wb mv bs (F8 nb (BY N)) M:=by
 have hxb:=h.n i x hx;have hal:=alone_c bs h hw hx
 obtain ⟨L,hL⟩:∃L,F8 nb (BY N)=L:=⟨_,rfl⟩
 rw [hL] at hal⊢;refine B2 Tryz.func36 Z Z Tryz.ntmps36 Z Z Z fun F hF=>(AF (AJ (AD Z Z (AG (AF (AJ (AC Z Z ?_)))))))
 first | refine J (BS Z Z) ?_ | refine J (BQ Z Z) ?_ | refine J (BT Z Z) ?_ | refine J (BR Z Z) ?_
 first | refine J (AM rfl FJ Z Z Z) ?_ | refine J (AO rfl FJ Z Z Z) ?_ | refine J (AP rfl FJ Z Z Z) ?_ | refine J (AN rfl FJ Z Z Z) ?_ | refine J (AL rfl FJ Z Z Z) ?_
 refine J (Ej (f:=40) Z Z (hxb) rfl on4 rfl) (AC Z Z ?_)
 first | refine I5 8 rfl (fun h8=>?_) (fun h8=>?_) | refine Hw 8 rfl (fun h8=>?_) (fun h8=>?_)
 ·refine A9 Z Z Z ?_
  first | refine J (AY Z Z Li rfl) ?_ | refine J (AW Z Z Z Li rfl) ?_ | refine J (AX Z Z (rfl) rfl Li rfl) ?_
  refine A9 Z Z Z (AC Z Z (A9 Z Z Z (U (Fp hal rfl [40,50,51] ⟨rfl,rfl,rfl,trivial⟩ Z Z Z Z Z Z Z Z Z) (J (DX Z Z Z Z) (AD Z Z (AG (Ae ?_)))))));exact ⟨_,[920,40,50,51],_,Aa rfl,rfl,rfl,by rcases Bool.eq_false_or_eq_true x.on with e | e<;>rw [e] at h8⊢<;>first | rfl | (simp at h8),rfl⟩
 ·refine A8 Z Z Z Z (A8 Z Z Z Z (A8 Z Z Z Z (J (EC Z Z Z Z) (AD Z Z (AG (Ae ?_))))));exact ⟨_,[920,40,50,51],_,Aa rfl,rfl,rfl,by rcases Bool.eq_false_or_eq_true x.on with e | e<;>rw [e] at h8⊢<;>first | rfl | (simp at h8),rfl⟩
def I3 (N:Net) (i:Nat):Bool:=(N.nd.getD i Bc).on && Cq N (N.nd.getD i Bc)
theorem idxG_c {wb mv:Nat} {nb pb:Nat ->Nat} {N:Net} {M:MF} (bs:Option (List Nat×Nat)) (h:CK wb mv nb pb N M) (hw:NetW N):
  A2 Tryz.prog 35 [.d (hdr N.nh N.nd.length),.fn 36 [.ptr 920 0 0]] (HG wb mv bs (F8 nb (BY N)) M) fun r H'=>r= .d (AH (TF (I3 N) (List.range N.nd.length)))∧H'=HG wb mv bs (F8 nb (BY N)) M:=by
 have hnr:BX M N.nh XN 1 ((List.range N.nd.length).map fun i=>BK (nb i)):=h.rs.1 .n;have hz:N.nh=none ->N.nd.length=0:=fun e=>by have h1:=SA hnr e;rw [List.length_range] at h1;exact h1
 have hnl:=hw.n.1;have hgr:=fun i x hx=>YP (i:=i) (x:=x) bs h hw hx
 obtain ⟨L,hL⟩:∃L,F8 nb (BY N)=L:=⟨_,rfl⟩
 rw [hL] at hgr⊢;refine B2 Tryz.func35 Z Z Tryz.ntmps35 Z Z Z fun F hF=>(AF (AJ (AD Z Z (AG ?_))));refine AF (AF (AJ (AC Z Z (J (SK hz rfl Tryz.underlying98 rfl) (AC Z Z (AG (Al (DG (α:=Nat) (fun k=>⟨19,[(0,.d (hdr N.nh N.nd.length)),(1,.fn 36 [.ptr 920 0 0]),(7,(.d (AH (N.nd.length:Int)))),(8,(.d (AH (k:Int))))],HG wb mv bs L M⟩) (fun k=>k≤N.nd.length∧∀x∈(List.range N.nd.length).take k,I3 N x=false) (fun k=>N.nd.length - k) (0) (⟨Nat.zero_le _,by simp⟩) (BA hF [920,40,50,51] Z Z ⟨rfl,rfl,rfl,rfl,trivial⟩) ?_))))))));rintro k ⟨hk0,hk⟩;refine AF (AJ ?_)
 first | refine J (CD Z Z Z) ?_ | refine J (CE Z Z Z) ?_
 refine AG (AF ?_)
 first | refine Ay rfl (fun h9=>?_) (fun h9=>?_) | refine At rfl (fun h9=>?_) (fun h9=>?_)
 ·have hk1:k<N.nd.length:=DA h9;refine Ak (AF (Al (AF ?_)));have hkt:k<(List.range N.nd.length).length:=by rw [List.length_range];exact hk1
  obtain ⟨rb,rc,hre⟩:=SJ hnr hkt;have hrow:=QK hnr hre
  obtain ⟨z,hz2⟩:∃z,N.nd[k]?=some z:=⟨_,List.getElem?_eq_getElem hk1⟩
  have hal:=hgr k z hz2;have hon:I3 N k=(z.on && Cq N z):=by unfold I3;rw [List.getD_eq_getElem?_getD,hz2];rfl
  refine AJ (AC Z Z ?_);refine AD Z Z (AG (AF (AJ (AC Z Z (AC Z Z (AC Z Z (J (SL hre (k) Z Z Z hk1 Tryz.underlying98 PM rfl) (J (Zdk (f:=40) (e:=k) (off:=0) rfl (by omega) rfl (hrow) ((by rw [List.getElem?_map,List.getElem?_range hk1];rfl)) rfl St rfl) ?_))))))));refine U (D6 hal rfl [920,40,50,51] ⟨rfl,rfl,rfl,rfl,trivial⟩ Z Z Z Z Z Z Z Z Z) (AG ?_)
  first | refine Ay rfl (fun h16=>?_) (fun h16=>?_) | refine At rfl (fun h16=>?_) (fun h16=>?_)
  ·refine AF (AJ (AC Z Z (AD Z Z (AG (Ae ?_)))));exact ⟨_,[920,40,50,51],_,Aa rfl,rfl,rfl,Aj (by unfold TF;rw [IQ hkt hk (by rw [List.getElem_range,hon];simpa using h16)]),rfl⟩
  ·refine Ak (AJ (J (Bi Z Z (Ac (k+1) (by omega)) rfl) (AC Z Z (AG ?_))));exact ⟨k+1,⟨by show k+1≤_;omega,by rw [List.take_succ_eq_append_getElem hkt];intro y hy;rcases List.mem_append.1 hy with hy | hy;exact hk y hy;rw [List.mem_singleton.1 hy,List.getElem_range,hon];simpa using h16⟩,by show N.nd.length - (k+1)<N.nd.length - k;omega,BA hF [920,40,50,51] rfl (rfl) ⟨rfl,rfl,rfl,rfl,trivial⟩⟩
 ·refine CW (AF (AJ (AD Z Z (AG (Ae ?_)))));exact ⟨_,[920,40,50,51],_,Aa rfl,rfl,rfl,Aj (by unfold TF;rw [KI (fun x hx=>hk x (by rw [List.take_of_length_le (by rw [List.length_range];have h:=h9;omega)];exact hx))]),rfl⟩
theorem onN_ers (N:Net):onN (Ap N)=onN N:=funext fun i=>by unfold onN;rw [FC];rfl
theorem VZ (N:Net):offOf (Ap N)=offOf N:=funext fun e=>by unfold offOf;rw [FC,Gj];rfl
theorem WH (N:Net) (x:Nd):Cq (Ap N) (Dz x)=Cq N x:=by
 have h1:Qi (Ap N)=Qi N:=funext fun e=>by unfold Qi;rw [Hf,onN_ers];rfl
 have h2:(fun e:Nat×Int=>M9 ((Ap N).po.getD e.1 CC) e.2)=fun e=>M9 (N.po.getD e.1 CC) e.2:=funext fun e=>by rw [Hf];rfl
 unfold Cq;rw [h1,VZ];show (!(x.pl.any (Qi N)) &&(!(x.it.af.any fun id=>!offOf N id) && !(x.ef.any fun e:Nat×Int=>M9 ((Ap N).po.getD e.1 CC) e.2)))=_;rw [h2]
theorem YQ (N:Net):I3 (Ap N)=I3 N:=funext fun i=>by unfold I3;rw [FC,WH];rfl
theorem Vo (p:Prb) (hf:Gr p) (hE:Ao p≠0):AU Tryz.prog 14 [.d (Cc p)] (.tup [.sl (some true) [],AH (Ao p)]):=by
 have hbu:=Or p hf hE;refine B2 Tryz.func14 Z Z Tryz.ntmps14 Z Z Z fun F hF=>(AF (AJ (U (C5 1 Z Z Z Z Z Z Z) (AD Z Z (AD Z Z (AG (AF (AJ ?_))))))))
 first | refine J (Av Z Z A4 rfl) ?_ | refine J (Aw Z Z A4 Z Z Z) ?_ | refine J (Ax Z Z (rfl) rfl A4 rfl) ?_
 refine U (Fp hbu rfl [] trivial Z Z Z Z Z Z Z Z Z) (AC Z Z ?_)
 first | refine J (B6 Z Z Z) ?_ | refine J (B7 Z Z Z) ?_
 first | refine J (B6 Z Z Z) ?_ | refine J (B7 Z Z Z) ?_
 refine U (DO 2 zl94 Z Z Z Z) (U (CF Z Z Z Z Z Z Z sz94) (AD Z Z (AG (AF (AF (AJ (AC Z Z ?_)))))))
 first | refine J (Fa Z Z Z) ?_ | refine J (F9 Z Z Z) ?_ | refine J (FM Z Z Z) ?_ | refine J (Fb Tryz.underlying34 Z Z Z) ?_ | refine J (Fd Tryz.underlying34 Z Z Z) ?_ | refine J (st_neqN Tryz.underlying34 Z Z) ?_ | refine J (Fc Tryz.underlying34 Z Z Z) ?_ | refine J (st_neqFN Tryz.underlying34 Z Z) ?_
 refine AG (EB rfl ((by simpa using hE)) (AF (AJ (AC Z Z (AD Z Z (AD Z Z (AG (Ae ?_))))))));exact ⟨_,[],[],Aa rfl,rfl,rfl,rfl,rfl⟩
def Nu (po:List Po) (e:Nat×Int):List Po:=match po[e.1]? with
 | some y=>po.set e.1 {y with room:=y.room+e.2}
 | none=>po
theorem Ud {po:List Po} {e:Nat×Int} {y:Po} (h:po[e.1]?=some y):Nu po e=po.set e.1 {y with room:=y.room+e.2}:=by unfold Nu;rw [h]
theorem Ru:∀(l:List (Nat×Int)) (po:List Po),(l.foldl Nu po).map CZ=l.foldl Nu (po.map CZ)
 | [],_=>rfl
 | e::l,po=>by
  rw [List.foldl_cons,List.foldl_cons,Ru l]
  congr 1
  unfold Nu;rw [List.getElem?_map]
  cases po[e.1]? with
  | none=>rfl
  | some y=>show (po.set e.1 _).map CZ=_;rw [List.map_set];rfl
theorem WJ {ros:List Roo} (hn:(ros.map Roo.r).Nodup) (f:Roo ->Po):∀(D:List (A5×Int)),(D.map Prod.fst).Nodup ->(efK (ros.map Roo.r) D).foldl Nu (ros.map f)=ros.map fun x=>{f x with room:=(f x).room+Br D x.r}:=by
 intro D
 induction D using WO with
 | h0=>
  intro _;show ros.map f=_;refine List.map_congr_left fun x _=>?_;show f x={f x with room:=(f x).room+0}
  rw [Int.add_zero]
 | h1 D d ih=>
  intro hD;rw [List.map_append,List.nodup_append] at hD;have hdn:d.1∉D.map Prod.fst:=fun h=>hD.2.2 _ h _ (List.mem_singleton_self _) rfl;have ih:=ih hD.1
  by_cases hm:d.1∈ros.map Roo.r
  ·rw [TO hm,List.foldl_append,ih];obtain ⟨hj,hr⟩:=Ly hm;show Nu _ ((ros.map Roo.r).idxOf d.1,d.2)=_;rw [Ud (y:=(fun x=>{f x with room:=(f x).room+Br D x.r}) ros[(ros.map Roo.r).idxOf d.1]) (by rw [List.getElem?_map,List.getElem?_eq_getElem hj];rfl)];refine Pi hj hn ?_ fun x hx hne=>?_
   ·dsimp only;have h1:Br (D++ [d]) ros[(ros.map Roo.r).idxOf d.1].r=d.2:=by rw [hr];exact DR hdn
    have h2:Br D ros[(ros.map Roo.r).idxOf d.1].r=0:=by rw [hr];exact DS hdn
    rw [h1,h2,Int.add_zero]
   ·rw [hr] at hne;have:Br (D++ [d]) x.r=Br D x.r:=DI hne;rw [this]
  ·rw [Pk hm,ih];refine List.map_congr_left fun x hx=>?_;have:Br (D++ [d]) x.r=Br D x.r:=DI fun e=>hm (e▸List.mem_map.2 ⟨x,hx,rfl⟩);rw [this]
def CB (on:Nat ->Bool):Nat ->Bool:=fun i=>!on i
def poG (ds:List (List (A5×Int))) (on:Nat ->Bool) (x:Roo):Po:=⟨x.r,x.n+DY ds (CB on) x.r,DY ds (fun _=>true) x.r,none,negQ ds x.r,(negQ ds x.r).length⟩
def netG (ros:List Roo) (its:List AT) (on:Nat ->Bool):Net:=⟨(List.range its.length).map (IH (ros.map Roo.r) its on),ros.map (poG (its.map dltS) on),none,none⟩
theorem Ut (ds:List (List (A5×Int))) (r:A5):DY ds (CB fun _=>true) r=0:=by
 unfold DY CB
 generalize List.range ds.length=l
 induction l with
 | nil=>rfl
 | cons a l ih=>rw [List.map_cons,List.sum_cons,ih];rfl
theorem Xi (ros:List Roo) (its:List AT):netG ros its (fun _=>true)=netS ros its fun _=>true:=by
 unfold netG netS
 congr 1
 refine List.map_congr_left fun x _=>?_;unfold poG XM;rw [Ut,Int.add_zero,UX]
theorem sumS_on {ds:List (List (A5×Int))} {i:Nat} (h:i<ds.length) {on:Nat ->Bool} (ho:on i=true) (r:A5):DY ds (CB (Ag on i)) r=DY ds (CB on) r+Br (ds.getD i []) r:=by
 obtain ⟨B,h1,h3⟩:=ID h;unfold DY;rw [h1,List.map_append,List.map_append,List.map_cons,List.map_cons,List.sum_append,List.sum_append,List.sum_cons,List.sum_cons]
 have e1:(List.range i).map (fun j=>if CB (Ag on i) j=true then Br (ds.getD j []) r else 0)=(List.range i).map fun j=>if CB on j=true then Br (ds.getD j []) r else 0:=List.map_congr_left fun j hj=>by
  unfold CB;rw [Zdc (by have:=List.mem_range.1 hj;omega)]
 have e2:B.map (fun j=>if CB (Ag on i) j=true then Br (ds.getD j []) r else 0)=B.map fun j=>if CB on j=true then Br (ds.getD j []) r else 0:=List.map_congr_left fun j hj=>by
  unfold CB;rw [Zdc (by have:=h3 j hj;omega)]
 have e3:(if CB (Ag on i) i=true then Br (ds.getD i []) r else 0)=Br (ds.getD i []) r:=by unfold CB;rw [Eg];rfl
 have e4:(if CB on i=true then Br (ds.getD i []) r else 0)=0:=by unfold CB;rw [ho];rfl
 rw [e1,e2,e3,e4];omega
def grN (N:Net) (i:Nat) (x:Nd):Net:={N with nd:=N.nd.set i (EL x),po:=x.ef.foldl Nu N.po}
theorem gr_S {ros:List Roo} {its:List AT} (hn:(ros.map Roo.r).Nodup) {on:Nat ->Bool} {N:Net} (h:Ap N=netG ros its on) {i:Nat} (hi:i<its.length) (ho:on i=true) {x:Nd} (hx:N.nd[i]?=some x):Ap (grN N i x)=netG ros its (Ag on i):=by
 have hnd:N.nd.map Dz=(List.range its.length).map (IH (ros.map Roo.r) its on):=congrArg Net.nd h;have hpo:N.po.map CZ=ros.map (poG (its.map dltS) on):=congrArg Net.po h
 have hxe:Dz x=IH (ros.map Roo.r) its on i:=by
  have h1:(N.nd.map Dz)[i]?=some (Dz x):=by rw [List.getElem?_map,hx];rfl
  rw [hnd,List.getElem?_map,List.getElem?_range hi] at h1;exact (Option.some.inj h1).symm
 have hef:x.ef=efK (ros.map Roo.r) (dltS (its.getD i itm0)):=congrArg Nd.ef hxe;have hdi:i<(its.map dltS).length:=by simpa using hi
 have hgi:(its.map dltS).getD i []=dltS (its.getD i itm0):=by rw [Bd [] hdi,Bd itm0 hi,List.getElem_map]
 unfold Ap grN netG;dsimp only
 congr 1
 ·rw [List.map_set,hnd]
  have:Dz (EL x)=IH (ros.map Roo.r) its (Ag on i) i:=by
   have h1:Dz (EL x)=EL (Dz x):=rfl;rw [h1,hxe];unfold IH EL Ag;rw [if_pos rfl]
  rw [this];refine List.ext_getElem? fun j=>?_;rw [List.getElem?_set]
  by_cases e:i=j
  ·subst e;rw [if_pos rfl,if_pos (by simpa using hi),List.getElem?_map,List.getElem?_range hi];rfl
  ·rw [if_neg e,List.getElem?_map,List.getElem?_map]
   cases hj:(List.range its.length)[j]? with
   | none=>rfl
   | some z=>
    have hz:=List.getElem?_eq_some_iff.1 hj;have:z=j:=by have:=hz.2;simp at this;exact this.symm
    subst this;show some _=some _;unfold IH Ag;rw [if_neg (fun h=>e h.symm)]
 ·rw [Ru,hpo,hef,WJ hn _ _ (Zc4 _)];refine List.map_congr_left fun z _=>?_;unfold poG;dsimp only;rw [sumS_on hdi ho,hgi,Int.add_assoc]
theorem G_q (ros:List Roo) (its:List AT) (on:Nat ->Bool) (j:Nat):((netG ros its on).po.getD j CC).q=((netS ros its on).po.getD j CC).q:=by
 show ((ros.map _).getD j CC).q=((ros.map _).getD j CC).q;rw [List.getD_eq_getElem?_getD,List.getD_eq_getElem?_getD,List.getElem?_map,List.getElem?_map]
 cases ros[j]?<;>rfl
theorem G_w {ros:List Roo} {its:List AT} (h:SmO ros its) (on:Nat ->Bool):NetW (netG ros its on):=by
 have hS:=S_w h on
 have hq:∀y∈(netG ros its on).po,y.q.length≤30∧y.mi≤30∧ -1000000000000000000≤y.room∧y.room≤1000000000000000000:=fun y hy=>by
  obtain ⟨x,hx,e⟩:=List.mem_map.1 hy;subst e;have h1:=Jx (its.map dltS) x.r;rw [List.length_map] at h1;have hl:=h.l;have h2:=S_sum h (CB on) x.r;have h3:=h.n x hx;refine ⟨by show (negQ _ _).length≤_;omega,by show (negQ _ _).length≤_;omega,?_,?_⟩
  ·show _≤x.n+DY (its.map dltS) (CB on) x.r;omega
  ·show x.n+DY (its.map dltS) (CB on) x.r≤_;omega
 refine ⟨hS.i,hS.a,hS.l,hS.e,fun x hx e he=>?_,fun y hy=>?_,fun y hy=>(hq y hy).2.2,?_,fun y hy=>?_⟩
 ·rw [G_q];exact hS.p x hx e he
 ·have:=hq y hy;omega
 ·have h1:=hS.n;have h2:(netG ros its on).po.length=(netS ros its on).po.length:=by unfold netG netS;simp
  rw [h2];exact h1
 ·have:=hq y hy;omega
theorem G_nd_at {ros:List Roo} {its:List AT} {on:Nat ->Bool} {N:Net} (h:Ap N=netG ros its on) {i:Nat} {x:Nd} (hx:N.nd[i]?=some x):i<its.length∧x.on=on i∧x.it=its.getD i itm0:=by
 have h1:(N.nd.map Dz)[i]?=some (Dz x):=by rw [List.getElem?_map,hx];rfl
 rw [show N.nd.map Dz=(List.range its.length).map (IH (ros.map Roo.r) its on) from congrArg Net.nd h] at h1;have hi:i<its.length:=by have:=(List.getElem?_eq_some_iff.1 h1).1;simpa using this
 rw [List.getElem?_map,List.getElem?_range hi] at h1;have h2:Dz x=IH (ros.map Roo.r) its on i:=(Option.some.inj h1).symm;exact ⟨hi,congrArg Nd.on h2,congrArg Nd.it h2⟩
theorem G_len {ros:List Roo} {its:List AT} {on:Nat ->Bool} {N:Net} (h:Ap N=netG ros its on):N.nd.length=its.length:=by
 have h1:=congrArg (fun N=>N.nd.length) h;have h2:(N.nd.map Dz).length=((List.range its.length).map _).length:=h1
 rwa [List.length_map,List.length_map,List.length_range] at h2
theorem G_ids {ros:List Roo} {its:List AT} {on:Nat ->Bool} {N:Net} (h:Ap N=netG ros its on):BY N=its.map AT.id:=by
 rw [←Gj,h];exact N0 ros its on
def FY (ros:List Roo) (its:List AT) (on:Nat ->Bool):Option Nat:=(List.range its.length).findIdx? (I3 (netG ros its on))
def MR (ros:List Roo) (its:List AT):Nat ->(Nat ->Bool) ->List Int
 | 0,_=> []
 | f+1,on=>match FY ros its on with
  | none=> []
  | some i=>(its.getD i itm0).id::MR ros its f (Ag on i)
def grossS (p:Prb):List Int:=MR (CX p) (ordP p) (ordP p).length fun _=>true
theorem Mi {ros:List Roo} {its:List AT} {on:Nat ->Bool} {i:Nat} (h:FY ros its on=some i):i<its.length∧on i=true∧I3 (netG ros its on) i=true:=by
 unfold FY at h;rw [List.findIdx?_eq_some_iff_getElem] at h;obtain ⟨hi,h1,_⟩:=h;rw [List.length_range] at hi;rw [List.getElem_range] at h1;refine ⟨hi,?_,h1⟩;unfold I3 at h1
 have h2:(netG ros its on).nd.getD i Bc=IH (ros.map Roo.r) its on i:=by
  show ((List.range its.length).map _).getD i Bc=_;rw [Bd Bc (by simpa using hi),List.getElem_map,List.getElem_range]
 rw [h2] at h1;exact (Bool.and_eq_true_iff.1 h1).1
theorem IB {ros:List Roo} {its:List AT} {f:Nat} {on:Nat ->Bool} (h:FY ros its on=none):MR ros its f on=[]:=by
 cases f with
 | zero=>rfl
 | succ f=>unfold MR;rw [h]
theorem K7 {ros:List Roo} {its:List AT} {f:Nat} {on:Nat ->Bool} {i:Nat} (h:FY ros its on=some i):MR ros its (f+1) on=(its.getD i itm0).id::MR ros its f (Ag on i):=by
 show (match FY ros its on with | none=>_ | some i=>_)=_;rw [h]
end Go.Proofs.YtnkkaeblokdifaaGreat
