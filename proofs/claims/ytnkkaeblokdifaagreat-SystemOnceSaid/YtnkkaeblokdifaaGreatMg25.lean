/- Layer 30: what holds of the network in closed form. Plain laws. -/
import Derived.Test.YtnkkaeblokdifaaGreatMg24
namespace Go.Proofs.YtnkkaeblokdifaaGreat
open Go.RowKit
set_option maxRecDepth 100000
theorem KU (N:Net) (i:Nat):(BR N).nd.getD i Bu=GW (N.nd.getD i Bu):=by
 show (N.nd.map GW).getD i Bu=_;rw [List.getD_eq_getElem?_getD,List.getD_eq_getElem?_getD,List.getElem?_map]
 cases N.nd[i]?<;>rfl
theorem N2 (N:Net) (j:Nat):(BR N).po.getD j DI=Cw (N.po.getD j DI):=by
 show (N.po.map Cw).getD j DI=_;rw [List.getD_eq_getElem?_getD,List.getD_eq_getElem?_getD,List.getElem?_map]
 cases N.po[j]?<;>rfl
theorem KS (N:Net):D8 (BR N)=D8 N:=by
 unfold D8 BR;rw [List.map_map];rfl
theorem Vv (N:Net) (x:Nd):Fc (BR N) (GW x)=Fc N x:=by
 have h1:badP (BR N)=badP N:=funext fun e=>by unfold badP;rw [N2];rfl
 have h2:∀e,N1 (BR N) (GW x) e=N1 N x e:=fun e=>by unfold N1;rw [N2,KU];rfl
 have h3:offOf (BR N)=offOf N:=funext fun e=>by unfold offOf;rw [KU,KS];rfl
 unfold Fc;rw [h1,h3];show (match x.pl.find? (badP N) with | some e=>_ | none=>match x.it.af.find? (offOf N) with | some id=>_ | none=>_)=_
 cases x.pl.find? (badP N) with
 | some e=>show some (N1 (BR N) (GW x) e)=some (N1 N x e);rw [h2]
 | none=>rfl
theorem RX (N:Net):Cs (BR N)=Cs N:=by
 have h1:(BR N).nd.findSome? (ndX (BR N))=N.nd.findSome? (ndX N):=by
  show (N.nd.map GW).findSome? _=_;rw [List.findSome?_map]
  congr 1
  funext x
  show ndX (BR N) (GW x)=ndX N x;unfold ndX;rw [Vv];rfl
 have h2:(BR N).po.findSome? (SZ (BR N))=N.po.findSome? (SZ N):=by
  show (N.po.map Cw).findSome? _=_;rw [List.findSome?_map]
  congr 1
  funext y
  show SZ (BR N) (Cw y)=SZ N y;have h3:onN (BR N)=onN N:=funext fun i=>by unfold onN;rw [KU];rfl
  have h4:∀i,((BR N).nd.getD i Bu).it.id=(N.nd.getD i Bu).it.id:=fun i=>by rw [KU];rfl
  unfold SZ;rw [h3];show (if ovP y y.sum=true then (y.q.reverse.find? (onN N)).map fun i=>(⟨((BR N).nd.getD i Bu).it.id,0,y.r,-1⟩:Exc) else none)=_;rw [show (fun i=>(⟨((BR N).nd.getD i Bu).it.id,0,y.r,-1⟩:Exc))=fun i=>⟨(N.nd.getD i Bu).it.id,0,y.r,-1⟩ from funext fun i=>by rw [h4]]
 unfold Cs;rw [h1,h2]
theorem Y0 {N:Net} {x:Nd} {e:Exc} (h:Fc N x=some e):e.id=x.it.id:=by
 unfold Fc at h
 split at h
 ·injection h with h;subst h;rfl
 ·split at h
  ·injection h with h;subst h;rfl
  ·cases h
theorem U0 {N:Net} {e:Exc} (h:Cs N=some e):∃(i:Nat) (x:Nd),N.nd[i]?=some x∧x.on=true∧e.id=x.it.id:=by
 unfold Cs at h
 split at h
 ·rename_i e' h1
  injection h with h;subst h
  obtain ⟨x,hx,h2⟩:=List.exists_of_findSome?_eq_some h1;obtain ⟨i,hi,e1⟩:=List.getElem_of_mem hx;unfold ndX at h2
  split at h2
  ·rename_i ho
   exact ⟨i,x,by rw [List.getElem?_eq_getElem hi,e1],ho,Y0 h2⟩
  ·cases h2
 ·obtain ⟨y,hy,h2⟩:=List.exists_of_findSome?_eq_some h;unfold SZ at h2
  split at h2
  ·cases hf:y.q.reverse.find? (onN N) with
   | none=>rw [hf] at h2;cases h2
   | some i=>
    rw [hf] at h2;injection h2 with h2;subst h2
    have ho:=List.find?_some hf;unfold onN at ho
    by_cases hi:i<N.nd.length
    ·rw [Bg Bu hi] at ho;exact ⟨i,N.nd[i],List.getElem?_eq_getElem hi,ho,by show (N.nd.getD i Bu).it.id=_;rw [Bg Bu hi]⟩
    ·rw [List.getD_eq_getElem?_getD,List.getElem?_eq_none (by omega)] at ho
     cases ho
  ·cases h2
structure SmO (ros:List Roo) (its:List AT):Prop where
 l:its.length≤30
 x:∀x∈its,ZL x
 i:(its.map AT.id).Nodup
 a:∀x∈its,∀id∈x.af,id∈its.map AT.id
 r:(ros.map Roo.r).Nodup
 n:∀x∈ros,-4000000000000000≤x.n∧x.n≤4000000000000000
 o:ros.length≤100
theorem S_nd {ros:List Roo} {its:List AT} {on:Nat ->Bool} {x:Nd} (h:x∈(netS ros its on).nd):∃i,i<its.length∧x=Q1 (ros.map Roo.r) its on i:=by
 obtain ⟨i,hi,e⟩:=List.mem_map.1 h;exact ⟨i,List.mem_range.1 hi,e.symm⟩
theorem SV (ros:List Roo) (its:List AT) (on:Nat ->Bool):D8 (netS ros its on)=its.map AT.id:=by
 unfold D8 netS;rw [List.map_map]
 apply List.ext_getElem (by simp)
 intro i a b;simp only [List.getElem_map,List.getElem_range,Function.comp];show (its.getD i itm0).id=_;rw [Bg itm0 (by simpa using b)]
theorem efK_mem {rs:List A4} {D:List (A4×Int)} {e:Nat×Int} (h:e∈WB rs D):∃d∈D,e.2=d.2:=by
 obtain ⟨d,hd,rfl⟩:=List.mem_map.1 h;exact ⟨d,(List.mem_filter.1 hd).1,rfl⟩
theorem plK_mem {rs:List A4} {ds:List (List (A4×Int))} {D:List (A4×Int)} {e:Nat×Nat} (h:e∈plK rs ds D):∃d∈D,d.1∈rs∧d.2<0∧e=(rs.idxOf d.1,(negQ ds d.1).length):=by
 obtain ⟨d,hd,rfl⟩:=List.mem_map.1 h;have h1:=List.mem_filter.1 hd;have h2:=h1.2;simp only [Bool.and_eq_true,decide_eq_true_eq] at h2;exact ⟨d,h1.1,h2.1,h2.2,rfl⟩
theorem S_sum {ros:List Roo} {its:List AT} (h:SmO ros its) (on:Nat ->Bool) (r:A4): -30000000000000000≤Jj (its.map dltS) on r∧Jj (its.map dltS) on r≤30000000000000000:=by
 have key:∀l:List Nat,-(l.length*1000000000000000)≤(l.map fun i=>if on i=true then DG ((its.map dltS).getD i []) r else 0).sum∧(l.map fun i=>if on i=true then DG ((its.map dltS).getD i []) r else 0).sum≤l.length*1000000000000000:=by
  intro l
  induction l with
  | nil=>simp
  | cons i l ih=>
   simp only [List.map_cons,List.sum_cons,List.length_cons]
   have hb:Q5 ((its.map dltS).getD i []):=by
    rcases getD_mem (l:=its.map dltS) (d:=[]) i with hm | hm
    ·obtain ⟨x,_,e⟩:=List.mem_map.1 hm;rw [←e];exact KW x
    ·rw [hm];intro x hx;cases hx
   have h1:=Up hb r
   split<;>omega
 have h1:=key (List.range (its.map dltS).length);have h2:=h.l;unfold Jj;rw [List.length_range,List.length_map] at h1;rw [List.length_map] at*;omega
theorem S_w {ros:List Roo} {its:List AT} (h:SmO ros its) (on:Nat ->Bool):NetW (netS ros its on):=by
 have hl:=h.l
 have hmi:∀y∈(netS ros its on).po,y.q.length≤30∧y.mi≤30∧∃x∈ros,y=poS (its.map dltS) on x:=fun y hy=>by
  obtain ⟨x,hx,e⟩:=List.mem_map.1 hy;subst e;have h1:=ND (its.map dltS) x.r;rw [List.length_map] at h1;have h2:YC on (negQ (its.map dltS) x.r)≤(negQ (its.map dltS) x.r).length:=List.findIdx_le_length;exact ⟨by show (negQ _ _).length≤_;omega,by show YC _ _≤_;omega,x,hx,rfl⟩
 refine ⟨by rw [SV];exact h.i,fun x hx id hid=>?_,fun x hx=>?_,fun x hx e he=>?_,fun x hx e he=>?_,fun y hy=>?_,fun y hy=>?_,?_,fun y hy=>?_⟩
 ·obtain ⟨i,hi,rfl⟩:=S_nd hx;rw [SV];refine h.a (its.getD i itm0) (by rw [Bg itm0 hi];exact List.getElem_mem hi) id hid
 ·obtain ⟨i,hi,rfl⟩:=S_nd hx;have hm:its.getD i itm0∈its:=by rw [Bg itm0 hi];exact List.getElem_mem hi
  have h1:=QK (h.x _ hm);have h2:=Ug (ros.map Roo.r) (dltS (its.getD i itm0));have h3:=UP (ros.map Roo.r) ((its.map dltS).take i) (dltS (its.getD i itm0));have h4:=(h.x _ hm).2.2;exact ⟨by show (WB _ _).length≤_;omega,by show (plK _ _ _).length≤_;omega,by show (its.getD i itm0).af.length≤_;omega⟩
 ·obtain ⟨i,hi,rfl⟩:=S_nd hx;obtain ⟨d,hd,e1⟩:=efK_mem he;have:=KW _ d hd;rw [e1];omega
 ·obtain ⟨i,hi,rfl⟩:=S_nd hx;obtain ⟨d,hd,hm,hneg,rfl⟩:=plK_mem he;obtain ⟨hj,hr⟩:=QB hm;have hdi:i<(its.map dltS).length:=by simpa using hi
  have hgi:(its.map dltS).getD i []=dltS (its.getD i itm0):=by rw [Bg [] hdi,Bg itm0 hi,List.getElem_map]
  have hamt:DG ((its.map dltS).getD i []) d.1=d.2:=by rw [hgi];exact Zc9 (DM _) hd
  obtain ⟨B,c1,c2,c3⟩:=NE hdi d.1
  have hq:((netS ros its on).po.getD ((ros.map Roo.r).idxOf d.1) DI).q=negQ (its.map dltS) d.1:=by
   show ((ros.map _).getD _ DI).q=_;rw [Bg DI (by simpa using hj),List.getElem_map];show negQ _ (ros[(ros.map Roo.r).idxOf d.1]).r=_;rw [hr]
  rw [hq];dsimp only;have hlen:=congrArg List.length c1;rw [if_pos (by rw [hamt];exact hneg),List.length_append,List.length_append,List.length_singleton] at hlen;have h1:=ND ((its.map dltS).take i) d.1;rw [List.length_take,List.length_map] at h1;omega
 ·have:=hmi y hy;omega
 ·obtain ⟨_,_,x,hx,rfl⟩:=hmi y hy;have:=h.n x hx;show -1000000000000000000≤x.n∧x.n≤1000000000000000000;omega
 ·have h1:(netS ros its on).nd.length=its.length:=by unfold netS;simp
  have h2:(netS ros its on).po.length=ros.length:=by unfold netS;simp
  have:=h.o;omega
 ·have:=hmi y hy;omega
theorem W_ers {N:Net} (h:NetW (BR N)):NetW N:=by
 have hn:∀x∈N.nd,GW x∈(BR N).nd:=fun x hx=>List.mem_map.2 ⟨x,hx,rfl⟩;have hp:∀y∈N.po,Cw y∈(BR N).po:=fun y hy=>List.mem_map.2 ⟨y,hy,rfl⟩;refine ⟨by rw [←KS];exact h.i,fun x hx id hid=>by rw [←KS];exact h.a _ (hn x hx) id hid,fun x hx=>h.l (GW x) (hn x hx),fun x hx=>h.e (GW x) (hn x hx),fun x hx e he=>?_,fun y hy=>h.m (Cw y) (hp y hy),fun y hy=>h.rm (Cw y) (hp y hy),?_,fun y hy=>h.ql (Cw y) (hp y hy)⟩
 ·have:=h.p _ (hn x hx) e he;rw [N2] at this;exact this
 ·have:=h.n;have h1:(BR N).nd.length=N.nd.length:=by unfold BR;simp
  have h2:(BR N).po.length=N.po.length:=by unfold BR;simp
  omega
theorem S_sumB {N:Net} {ros:List Roo} {its:List AT} (h:SmO ros its) {on:Nat ->Bool} (hN:BR N=netS ros its on):Qg N.po 1000000000000000000:=fun y hy=>by
 have h1:Cw y∈(BR N).po:=List.mem_map.2 ⟨y,hy,rfl⟩;rw [hN] at h1;obtain ⟨x,hx,e⟩:=List.mem_map.1 h1;have h2:=S_sum h on x.r;have h3:y.sum=Jj (its.map dltS) on x.r:=congrArg Po.sum e.symm;rw [h3];omega
def GD (ros:List Roo) (its:List AT):Nat ->(Nat ->Bool) ->List Exc×(Nat ->Bool)
 | 0,on=>([],on)
 | f+1,on=>match Cs (netS ros its on) with
  | none=>([],on)
  | some e=>(e::(GD ros its f (BG on ((its.map AT.id).idxOf e.id))).1,(GD ros its f (BG on ((its.map AT.id).idxOf e.id))).2)
def Li (n:Nat) (on:Nat ->Bool):Nat:=((List.range n).filter on).length
def N0 (p:Prb):List Exc×(Nat ->Bool):=GD (rosS p) (ordP p) (ordP p).length fun _=>true
def Bh (its:List AT) (on:Nat ->Bool) (k:Nat):List Int:=((List.range k).filter on).map fun i=>(its.getD i itm0).id
theorem LQ {n i:Nat} (hi:i<n) {on:Nat ->Bool} (ho:on i=true):Li n (BG on i)+1=Li n on:=by
 obtain ⟨B,h1,h3⟩:=Ks hi;unfold Li;rw [h1,List.filter_append,List.filter_append,List.length_append,List.length_append,List.filter_cons,List.filter_cons,IL,ho];have e1:(List.range i).filter (BG on i)=(List.range i).filter on:=List.filter_congr fun j hj=>Dk (by have:=List.mem_range.1 hj;omega);have e2:B.filter (BG on i)=B.filter on:=List.filter_congr fun j hj=>Dk (by have:=h3 j hj;omega);rw [e1,e2]
 simp
 omega
theorem LE {α:Type} [BEq α] [LawfulBEq α] {l:List α} (hn:l.Nodup) {i:Nat} (hi:i<l.length):l.idxOf l[i]=i:=by
 have h1:l.idxOf l[i]<l.length:=List.idxOf_lt_length_of_mem (List.getElem_mem hi);have h2:=List.getElem_idxOf h1;exact (List.getElem_inj hn).1 h2
theorem Me {ros:List Roo} {its:List AT} {f:Nat} {on:Nat ->Bool} (h:Cs (netS ros its on)=none):GD ros its f on=([],on):=by
 cases f with
 | zero=>rfl
 | succ f=>unfold GD;rw [h]
theorem Md {ros:List Roo} {its:List AT} {f:Nat} {on:Nat ->Bool} {e:Exc} (h:Cs (netS ros its on)=some e):GD ros its (f+1) on=(e::(GD ros its f (BG on ((its.map AT.id).idxOf e.id))).1,(GD ros its f (BG on ((its.map AT.id).idxOf e.id))).2):=by
 show (match Cs (netS ros its on) with | none=>_ | some e=>_)=_;rw [h]
theorem QY {ros:List Roo} {its:List AT} {on:Nat ->Bool} {N:Net} (h:BR N=netS ros its on) {i:Nat} {x:Nd} (hx:N.nd[i]?=some x):i<its.length∧x.on=on i∧x.it=its.getD i itm0:=by
 have h1:(N.nd.map GW)[i]?=some (GW x):=by rw [List.getElem?_map,hx];rfl
 rw [show N.nd.map GW=(List.range its.length).map (Q1 (ros.map Roo.r) its on) from congrArg Net.nd h] at h1;have hi:i<its.length:=by have:=(List.getElem?_eq_some_iff.1 h1).1;simpa using this
 rw [List.getElem?_map,List.getElem?_range hi] at h1;have h2:GW x=Q1 (ros.map Roo.r) its on i:=(Option.some.inj h1).symm;exact ⟨hi,congrArg Nd.on h2,congrArg Nd.it h2⟩
theorem Mu (its:List AT) (on:Nat ->Bool) (k:Nat):Bh its on (k+1)=Bh its on k++if on k=true then [(its.getD k itm0).id] else []:=by
 unfold Bh;rw [List.range_succ,List.filter_append,List.map_append,Oy]
 split<;>rfl
theorem Vb (its:List AT) (on:Nat ->Bool) (k:Nat):(Bh its on k).length≤k:=by
 unfold Bh;rw [List.length_map];exact Nat.le_trans (List.length_filter_le _ _) (by simp)
theorem S_len {ros:List Roo} {its:List AT} {on:Nat ->Bool} {N:Net} (h:BR N=netS ros its on):N.nd.length=its.length:=by
 have h1:=congrArg (fun N=>N.nd.length) h;have h2:(N.nd.map GW).length=((List.range its.length).map _).length:=h1
 rwa [List.length_map,List.length_map,List.length_range] at h2
theorem sml_P {p:Prb} (hf:IH p) (hE:Ak p=0):SmO (rosS p) (ordP p):=by
 refine ⟨Nat.le_trans (FK p) hf.i,fun x hx=>hf.x x (H8 hx),Pm hE,fun x hx id hid=>?_,Mg hE,fun x hx=>?_,?_⟩
 ·have h1:ordP p=sortO p.it:=if_pos hE;have h2:QI (p.it.map AT.id) x=0:=Hi (Ia hE).2.2 _ (List.mem_map.2 ⟨x,H8 hx,rfl⟩)
  have h3:id∈p.it.map AT.id:=by
   unfold QI at h2
   split at h2
   ·cases h2
   ·rename_i h4
    by_cases h5:id∈p.it.map AT.id
    ·exact h5
    ·exact absurd (List.any_eq_true.2 ⟨id,hid,by unfold Ha;simpa using h5⟩) h4
  rw [h1];exact ((S2 p.it).map AT.id).mem_iff.2 h3
 ·have h1:x∈p.ro:=by
   obtain ⟨i,hi,rfl⟩:=List.mem_map.1 hx;have hi':=List.mem_range.1 ((WW (p.ro.map Roo.r)).mem_iff.1 hi);rw [Bg DC (by simpa using hi')];exact List.getElem_mem _
  exact Kn (Ia hE).1 x h1
 ·unfold rosS;rw [List.length_map,(WW _).length_eq,List.length_range,List.length_map];exact hf.r
theorem Rs (p:Prb) (hf:IH p) (hE:Ak p≠0):AU Tryz.prog 28 [.d (CI p)] (.tup [.sl (some true) [],.sl (some true) [],AG (Ak p)]):=by
 have hbu:=WJ p hf hE;refine BY Tryz.func28 Z Z Tryz.ntmps28 Z Z Z fun F hF=>(AF ?_);refine AJ (U (CJ 1 Z Z Z Z Z Z Z) (AD Z Z (AD Z Z (AD Z Z (AH (Us (AF (AJ ?_))))))))
 first | refine J (An Z Z AW rfl) ?_ | refine J (Ao Z Z AW Z Z Z) ?_ | refine J (Ap Z Z (rfl) rfl AW rfl) ?_
 refine U (HQ hbu rfl [] trivial Z Z Z Z Z Z Z Z Z) (AC Z Z ?_)
 first | refine J (BT Z Z Z) ?_ | refine J (BS Z Z Z) ?_
 first | refine J (BT Z Z Z) ?_ | refine J (BS Z Z Z) ?_
 refine AD Z Z (AD Z Z (AH (AF (AF (AJ (AC Z Z ?_))))))
 first | refine J (E9 Z Z Z) ?_ | refine J (Ed Z Z Z) ?_ | refine J (EU Z Z Z) ?_ | refine J (Ea Tryz.underlying34 Z Z Z) ?_ | refine J (Ec Tryz.underlying34 Z Z Z) ?_ | refine J (st_neqN Tryz.underlying34 Z Z) ?_ | refine J (Eb Tryz.underlying34 Z Z Z) ?_ | refine J (st_neqFN Tryz.underlying34 Z Z) ?_
 refine AH ?_;refine Dg rfl ((by simpa using hE)) (AF (AJ (AC Z Z (AD Z Z (AD Z Z (AD Z Z (AH (Af ?_))))))));exact ⟨_,[],[],Ae rfl,rfl,rfl,rfl,rfl⟩
set_option maxHeartbeats 1000000 in
theorem TZ (p:Prb) (hf:IH p) (hE:Ak p=0):AU Tryz.prog 28 [.d (CI p)] (.tup [.sl none ((Bh (ordP p) (N0 p).2 (ordP p).length).map AG),.sl none ((N0 p).1.map Y8),AG 0]):=by
 have hbu:=Yj p hf hE;have hsm:=sml_P hf hE;unfold N0;rw [netP_S] at hbu
 obtain ⟨its,hits⟩:∃its,ordP p=its:=⟨_,rfl⟩
 obtain ⟨ros,hros⟩:∃ros,rosS p=ros:=⟨_,rfl⟩
 rw [hits,hros] at hbu hsm⊢;have hl:=hsm.l;refine BY Tryz.func28 Z Z Tryz.ntmps28 Z Z Z fun F hF=>(AF ?_);refine AJ (U (CJ 1 Z Z Z Z Z Z Z) (AD Z Z (AD Z Z (AD Z Z (AH (Us (AF (AJ ?_))))))))
 first | refine J (An Z Z AW rfl) ?_ | refine J (Ao Z Z AW Z Z Z) ?_ | refine J (Ap Z Z (rfl) rfl AW rfl) ?_
 refine Pp (M9 hbu rfl [40,50,51] ⟨rfl,rfl,rfl,trivial⟩ Z Z Z Z (fun r H' ⟨_,_,_,_,_,_,_,e1,e2,_⟩=>by subst e1 e2;exact ⟨rfl,rfl,rfl⟩) rfl) rfl ?_;rintro _ ⟨r,H',⟨wb,mv,nb,pb,N,M,bs,rfl,rfl,hR,hN⟩,rfl⟩;refine AC Z Z ?_
 first | refine J (BT Z Z Z) ?_ | refine J (BS Z Z Z) ?_
 first | refine J (BT Z Z Z) ?_ | refine J (BS Z Z Z) ?_
 refine AD Z Z (AD Z Z (AH (AF (AF (AJ (AC Z Z ?_))))))
 first | refine J (E9 Z Z Z) ?_ | refine J (Ed Z Z Z) ?_ | refine J (EU Z Z Z) ?_ | refine J (Ea Tryz.underlying34 Z Z Z) ?_ | refine J (Ec Tryz.underlying34 Z Z Z) ?_ | refine J (st_neqN Tryz.underlying34 Z Z) ?_ | refine J (Eb Tryz.underlying34 Z Z Z) ?_ | refine J (st_neqFN Tryz.underlying34 Z Z) ?_
 refine AH (Ey rfl (rfl) (Am (AF ?_)));have hids:D8 N=its.map AT.id:=by rw [←KS,hN,SV]
 rw [hids];refine AJ (AD Z Z (AH (AF (a_label (AF (Au (EO 7 900 sl85 Z Z Z Z (De (α:=(Nat ->Bool)×Net×MF×List Exc×Nat) (fun q=>⟨64,[(5,(.d (pD wb 0))),(7,(.own 900 0 q.2.2.2.1.length))],(900,[.rowD 148 9 (q.2.2.2.1.map Y8)])::HW mv bs (Lw nb (its.map AT.id)) q.2.2.1⟩) (fun q=>Cy wb mv nb pb q.2.1 q.2.2.1∧BR q.2.1=netS ros its q.1∧Li its.length q.1≤q.2.2.2.2∧q.2.2.2.1.length+q.2.2.2.2≤its.length∧q.2.2.2.1++(GD ros its q.2.2.2.2 q.1).1=(GD ros its its.length fun _=>true).1∧(GD ros its q.2.2.2.2 q.1).2=(GD ros its its.length fun _=>true).2) (fun q=>q.2.2.2.2) ((fun _=>true,N,M,[],its.length)) (⟨hR,hN,by show ((List.range its.length).filter _).length≤_;exact Nat.le_trans (List.length_filter_le _ _) (by simp),by simp,rfl,rfl⟩) (BP hF [900,40,50,51] Z Z ⟨rfl,rfl,trivial⟩) ?_))))))));rintro ⟨on,N,M,acc,f⟩ ⟨hR,hN,hc,hal,hr1,hr2⟩;dsimp only at hR hN hc hal hr1 hr2⊢;refine Au (AF ?_);have hw:=W_ers (N:=N) (by rw [hN];exact S_w hsm on);have hsb:=S_sumB hsm hN;have hids:D8 N=its.map AT.id:=by rw [←KS,hN,SV]
 have hnx:=next_c bs hR hw hsb;rw [hids] at hnx;refine AJ (AC Z Z (U (HQ hnx rfl [40,50,51] ⟨rfl,rfl,rfl,trivial⟩ Z Z Z Z Z Z Z Z Z) (AC Z Z ?_)))
 cases hne:Cs N
 ·first | refine J (BT Z Z Z) ?_ | refine J (BS Z Z Z) ?_
  first | refine J (BT Z Z Z) ?_ | refine J (BS Z Z Z) ?_
  refine U (Cm 2 Ic Z Z Z Z) (U (Bj Z Z Z Z Z Z Z Jh) (AD Z Z (AH (AF (AF (AJ (AC Z Z ?_)))))))
  first | refine J (F2 Z Z) ?_ | refine J (FT Z Z) ?_
  refine AH (Dg rfl (rfl) (C6 (AF ?_)));have hro:GD ros its f on=([],on):=Me (by rw [←hN,RX,hne]);rw [hro] at hr1 hr2;rw [List.append_nil] at hr1;dsimp only at hr2;have hwb:=hR.w;have hnr:B3 M N.nh pnT 1 ((List.range N.nd.length).map fun i=>BX (nb i)):=hR.rs.1 .n;have hnz:=W0 hnr;rw [List.length_range] at hnz;have hNl:=S_len hN;refine AJ (AD Z Z (AH (AF (AF (AJ (AC Z Z ?_))))))
  first | refine J (Bc Z Z) ?_ | refine J (Ba Z Z) ?_ | refine J (Bd Z Z) ?_ | refine J (Bb Z Z) ?_
  first | refine J (AO rfl J6 Z Z Z) ?_ | refine J (AQ rfl J6 Z Z Z) ?_ | refine J (AR rfl J6 Z Z Z) ?_ | refine J (AP rfl J6 Z Z Z) ?_ | refine J (AN rfl J6 Z Z Z) ?_
  refine J (ID (f:=40) Z Z (hwb) rfl I7 rfl) (J (D2 hnz rfl Tryz.underlying98 rfl) (AC Z Z (AH (Au (EO 10 901 DA Z Z Z Z (De (α:=Nat×List Int) (fun q=>⟨64,[(7,(.own 900 0 acc.length)),(10,(.own 901 0 q.2.length)),(43,(.d (hdr N.nh N.nd.length))),(44,(.d (AG (N.nd.length:Int)))),(45,(.d (AG (q.1:Int))))],(901,[.rowD 3 1 (q.2.map AG)])::(900,[.rowD 148 9 (acc.map Y8)])::HW mv bs (Lw nb (its.map AT.id)) M⟩) (fun q=>q.1≤N.nd.length∧q.2=Bh its on q.1) (fun q=>N.nd.length - q.1) ((0,[])) (⟨Nat.zero_le _,rfl⟩) (BP hF [901,900,40,50,51] Z Z ⟨rfl,rfl,rfl,rfl,rfl,trivial⟩) ?_))))));rintro ⟨k,ids⟩ ⟨hk0,hI⟩;dsimp only at hk0 hI⊢;refine AF (AJ ?_)
  first | refine J (C7 Z Z Z) ?_ | refine J (Ca Z Z Z) ?_
  refine AH (AF ?_)
  first | refine BJ rfl (fun h46=>?_) (fun h46=>?_) | refine BB rfl (fun h46=>?_) (fun h46=>?_)
  ·have hk1:k<N.nd.length:=DZ h46;refine Am (AF (Au (AF ?_)))
   obtain ⟨x,hx⟩:∃x,N.nd[k]?=some x:=⟨_,List.getElem?_eq_getElem hk1⟩
   obtain ⟨hiN,hoi,hit⟩:=QY hN hx;have hxb:=hR.n k x hx;obtain ⟨rb,rc,hre⟩:=Zc4 hnr (j:=k) (by rw [List.length_range];exact hk1);have hrow:=W2 hnr hre;have hidl:ids.length≤k:=by rw [hI];exact Vb its on k
   refine AJ (J (Zc7 hre (k) Z Z Z hk1 Tryz.underlying98 Wf rfl) (J (Eu (f:=40) (e:=k) (off:=0) rfl (by omega) rfl (hrow) ((by rw [List.getElem?_map,List.getElem?_range hk1];rfl)) rfl on99 rfl) ?_));refine AD Z Z (AH (AF (AJ (AC Z Z ?_))))
   first | refine J (Bc Z Z) ?_ | refine J (Ba Z Z) ?_ | refine J (Bd Z Z) ?_ | refine J (Bb Z Z) ?_
   first | refine J (AO rfl MB Z Z Z) ?_ | refine J (AQ rfl MB Z Z Z) ?_ | refine J (AR rfl MB Z Z Z) ?_ | refine J (AP rfl MB Z Z Z) ?_ | refine J (AN rfl MB Z Z Z) ?_
   refine J (ID (f:=40) Z Z (hxb) rfl on4 rfl) (AH ?_)
   first | refine BJ rfl (fun h52=>?_) (fun h52=>?_) | refine BB rfl (fun h52=>?_) (fun h52=>?_)
   ·refine AJ (AC Z Z (AC Z Z ?_))
    first | refine J (Bc Z Z) ?_ | refine J (Ba Z Z) ?_ | refine J (Bd Z Z) ?_ | refine J (Bb Z Z) ?_
    first | refine J (AO rfl FY Z Z Z) ?_ | refine J (AQ rfl FY Z Z Z) ?_ | refine J (AR rfl FY Z Z Z) ?_ | refine J (AP rfl FY Z Z Z) ?_ | refine J (AN rfl FY Z Z Z) ?_
    first | refine J (AO rfl B4 Z Z Z) ?_ | refine J (AQ rfl B4 Z Z Z) ?_ | refine J (AR rfl B4 Z Z Z) ?_ | refine J (AP rfl B4 Z Z Z) ?_ | refine J (AN rfl B4 Z Z Z) ?_
    refine J (ID (f:=40) Z Z (hxb) rfl A9 rfl) (U (Fg 3 DA Z Z Z Z Z Z Z Z) ?_)
    first | refine U (Ib (ids) ([x.it.id]) Z Z Z Z Z Z Z Z DA (by simp only [List.length_singleton];omega) Z Z Z Z) ?_ | refine U (Ka (ids) ([x.it.id]) Z Z Z Z Z Z (fun _=>rfl) DA (by simp only [List.length_singleton];omega) Z Z Z Z) ?_
    refine AD Z Z (AH (AJ (J (Bi Z Z (A6 (k+1) (by omega)) rfl) (AC Z Z (AH ?_)))));exact ⟨(k+1,_),⟨by show k+1≤_;omega,by show _=Bh its on (k+1);rw [Mu,if_pos (by rw [←hoi];simpa using h52),←hI,←hit]⟩,by show N.nd.length - (k+1)<N.nd.length - k;omega,BP hF [901,900,40,50,51] rfl (rfl) ⟨rfl,rfl,rfl,rfl,rfl,trivial⟩⟩
   ·refine Am (AJ (J (Bi Z Z (A6 (k+1) (by omega)) rfl) (AC Z Z (AH ?_))));exact ⟨(k+1,_),⟨by show k+1≤_;omega,by show _=Bh its on (k+1);rw [Mu,if_neg (by rw [←hoi];simpa using h52),List.append_nil,←hI]⟩,by show N.nd.length - (k+1)<N.nd.length - k;omega,BP hF [901,900,40,50,51] rfl (rfl) ⟨rfl,rfl,rfl,rfl,rfl,trivial⟩⟩
  ·refine C6 (AF ?_);have hke:k=its.length:=by have h:=h46;omega
   refine WV (emb:=Y8) 7 900 acc Z Z Z Z Z Z Z ?_;refine WV (emb:=AG) 10 901 ids Z Z Z Z Z Z Z (AJ (AC Z Z (AC Z Z (AD Z Z (AD Z Z (AD Z Z (AH (Af ?_))))))));exact ⟨_,[],[],Ae rfl,rfl,rfl,by rw [←hr2,←hr1,hI,hke],rfl⟩
 ·first | refine J (BT Z Z Z) ?_ | refine J (BS Z Z Z) ?_
  first | refine J (BT Z Z Z) ?_ | refine J (BS Z Z Z) ?_
  refine U (Cm 4 Ic Z Z Z Z) (U (Bj Z Z Z Z Z Z Z Jh) (AD Z Z (AH (AF (AF (AJ (AC Z Z ?_)))))))
  first | refine J (F2 Z Z) ?_ | refine J (FT Z Z) ?_
  refine AH (Ey rfl (rfl) (Am (AF ?_)))
  rename_i e
  obtain ⟨i,x,hx,hon,hid⟩:=U0 hne;obtain ⟨hiN,hoi,hit⟩:=QY hN hx;rw [hon] at hoi;have hoi:=hoi.symm;have hil:i<(its.map AT.id).length:=by rw [List.length_map];exact hiN
  have hei:(its.map AT.id)[i]=e.id:=by rw [hid,hit,List.getElem_map,Bg itm0 hiN]
  have hby:=Uj (nb:=nb) hsm.i hil;rw [hei] at hby;have hcn:=LQ hiN hoi
  obtain ⟨f2,rfl⟩:∃f2,f=f2+1:=⟨f - 1,by omega⟩
  have hrs:GD ros its (f2+1) on=(e::(GD ros its f2 (BG on i)).1,(GD ros its f2 (BG on i)).2):=by rw [Md (by rw [←hN,RX,hne]),←hei,LE hsm.i hil]
  have hxm:=List.mem_of_getElem? hx;have hrm:=XR hR hx hsb (hw.e x hxm) (hw.l x hxm).1 (hw.l x hxm).2.1 (fun e he=>(hw.p x hxm e he).2) hw.m;refine G8 [[],[0],[0,1],[0,1,2],[],[4],[0,1,2,3,4,5],[0,1,2,3,4,5,6]] BC rfl (Hq ?_)
  first | refine AE [5] [] Z Z (fun _=>AB (B7 Z Z)) ?_ | refine AI [5] Z Z (fun _=>AB (B7 Z Z)) ?_
  first | refine AE [28] [] Z Z (fun _=>AB (Bc Z Z)) ?_ | refine AI [28] Z Z (fun _=>AB (Bc Z Z)) ?_ | refine AE [28] [] Z Z (fun _=>AB (Ba Z Z)) ?_ | refine AI [28] Z Z (fun _=>AB (Ba Z Z)) ?_ | refine AE [28] [] Z Z (fun _=>AB (Bd Z Z)) ?_ | refine AI [28] Z Z (fun _=>AB (Bd Z Z)) ?_ | refine AE [28] [] Z Z (fun _=>AB (Bb Z Z)) ?_ | refine AI [28] Z Z (fun _=>AB (Bb Z Z)) ?_
  first | refine AE [29] [] Z Z (fun _=>AB (AO rfl Lz Z Z Z)) ?_ | refine AI [29] Z Z (fun _=>AB (AO rfl Lz Z Z Z)) ?_ | refine AE [29] [] Z Z (fun _=>AB (AQ rfl Lz Z Z Z)) ?_ | refine AI [29] Z Z (fun _=>AB (AQ rfl Lz Z Z Z)) ?_ | refine AE [29] [] Z Z (fun _=>AB (AR rfl Lz Z Z Z)) ?_ | refine AI [29] Z Z (fun _=>AB (AR rfl Lz Z Z Z)) ?_ | refine AE [29] [] Z Z (fun _=>AB (AP rfl Lz Z Z Z)) ?_ | refine AI [29] Z Z (fun _=>AB (AP rfl Lz Z Z Z)) ?_ | refine AE [29] [] Z Z (fun _=>AB (AN rfl Lz Z Z Z)) ?_ | refine AI [29] Z Z (fun _=>AB (AN rfl Lz Z Z Z)) ?_
  refine AE [30] [40] Z Z (fun _=>AB (ID (f:=40) Z Z (hR.w) rfl Xf rfl)) ?_
  first | refine AE [8] [] Z Z (fun _=>AB (AO rfl EJ Z Z Z)) ?_ | refine AI [8] Z Z (fun _=>AB (AO rfl EJ Z Z Z)) ?_ | refine AE [8] [] Z Z (fun _=>AB (AQ rfl EJ Z Z Z)) ?_ | refine AI [8] Z Z (fun _=>AB (AQ rfl EJ Z Z Z)) ?_ | refine AE [8] [] Z Z (fun _=>AB (AR rfl EJ Z Z Z)) ?_ | refine AI [8] Z Z (fun _=>AB (AR rfl EJ Z Z Z)) ?_ | refine AE [8] [] Z Z (fun _=>AB (AP rfl EJ Z Z Z)) ?_ | refine AI [8] Z Z (fun _=>AB (AP rfl EJ Z Z Z)) ?_ | refine AE [8] [] Z Z (fun _=>AB (AN rfl EJ Z Z Z)) ?_ | refine AI [8] Z Z (fun _=>AB (AN rfl EJ Z Z Z)) ?_
  first | refine AE [32] [4] Z Z (fun _=>AB (A0 Z Z A9 rfl)) ?_ | refine AE [32] [4] Z Z (fun _=>AB (AY Z Z Z A9 rfl)) ?_ | refine AE [32] [4] Z Z (fun _=>AB (AZ Z Z (rfl) rfl A9 rfl)) ?_
  refine GZ 6 Z Z Z (BD 7 Z Z (GK 31 51 0 Z Z (J (IC (Lw nb (its.map AT.id)) e.id (.pointer none) (pV (nb i) 0) Z Z Z Xy GO za99 hby rfl) (AH ⟨rfl,?_⟩))));refine BD 8 Z Z ?_;refine Pp (M9 hrm rfl [40] ⟨rfl,trivial⟩ Z Z Z Z (fun r H' ⟨e1,M',e2,_⟩=>by subst e1 e2;exact ⟨rfl,rfl,rfl⟩) rfl) rfl ?_;rintro _ ⟨r,H',⟨rfl,M2,rfl,hR2⟩,rfl⟩;refine AH ⟨rfl,?_⟩;refine GY (AJ (AC Z Z ?_))
  first | refine J (An Z Z OT rfl) ?_ | refine J (Ao Z Z OT Z Z Z) ?_ | refine J (Ap Z Z (rfl) rfl OT rfl) ?_
  refine U (Fg 5 sl85 Z Z Z Z Z Z Z Z) ?_
  first | refine U (Ib (acc) ([e]) Z Z Z Z Z Z Z Z sl85 (by simp only [List.length_singleton];omega) Z Z Z Z) ?_ | refine U (Ka (acc) ([e]) Z Z Z Z Z Z (fun _=>rfl) sl85 (by simp only [List.length_singleton];omega) Z Z Z Z) ?_
  refine AD Z Z (AH ?_);exact ⟨(BG on i,rmN N i x,M2,acc++ [e],f2),⟨hR2,rm_S hsm.r hN hiN hoi hx,by show Li its.length (BG on i)≤f2;omega,by show (acc++ [e]).length+f2≤_;rw [List.length_append];simp;omega,by show (acc++ [e])++(GD ros its f2 (BG on i)).1=_;rw [List.append_assoc,←hr1,hrs];rfl,by show (GD ros its f2 (BG on i)).2=_;rw [←hr2,hrs]⟩,by show f2<f2+1;omega,BP hF [900,40,50,51] rfl (rfl) ⟨rfl,rfl,trivial⟩⟩
theorem P7 (rs:List A4):(GB rs).Pairwise fun a b=>¬JU rs b a<0:=by
 have:=List.pairwise_mergeSort (le:=fun i j=>decide (JU rs i j≤0)) (fun a b c h1 h2=>?_) (fun a b=>?_) (List.range rs.length)
 ·refine List.Pairwise.imp (fun {a b} h=>?_) this;have h1:=(PQ rs).anti a b;have h2:JU rs a b≤0:=by simpa using h
  omega
 ·have h1':JU rs a b≤0:=by simpa using h1
  have h2':JU rs b c≤0:=by simpa using h2
  have:JU rs a c≤0:=by
   by_cases e1:JU rs a b=0
   ·rw [(PQ rs).eqv a b c e1];exact h2'
   ·by_cases e2:JU rs b c=0
    ·have a1:=(PQ rs).anti b c;have e3:=(PQ rs).eqv c b a (by omega);have a2:=(PQ rs).anti a c;have a3:=(PQ rs).anti a b;omega
    ·have:=(PQ rs).trans a b c (by omega) (by omega);omega
  simpa using this
 ·have h1:=(PQ rs).anti a b
  by_cases h:JU rs a b≤0
  ·simp [h]
  ·have:JU rs b a≤0:=by omega
   simp [this]
theorem GF (p:Prb):(rosS p).Perm p.ro:=by
 unfold rosS;refine ((WW (p.ro.map Roo.r)).map _).trans (List.Perm.of_eq ?_);rw [List.length_map]
 apply List.ext_getElem (by simp)
 intro i h1 h2;simp only [List.getElem_map,List.getElem_range];exact Bg DC (by simpa using h2)
theorem Qr (p:Prb):(rosS p).Pairwise fun a b=>¬CE b.r a.r<0:=by
 unfold rosS;rw [List.pairwise_map];refine List.Pairwise.imp_of_mem (fun {a b} ha hb h=>?_) (P7 (p.ro.map Roo.r));have ha':=List.mem_range.1 ((WW (p.ro.map Roo.r)).mem_iff.1 ha);have hb':=List.mem_range.1 ((WW (p.ro.map Roo.r)).mem_iff.1 hb);unfold JU at h;rw [ME (by simpa using hb'),ME (by simpa using ha')] at h;exact h
theorem R7 (p:Prb) (hf:IH p) (hE:Ak p≠0):AU Tryz.prog 11 [.d (CI p)] (.tup [.sl (some true) [],AG (Ak p)]):=by
 have hx:=Rs p hf hE;refine BY Tryz.func11 Z Z Tryz.ntmps11 Z Z Z fun F hF=>(AF (AJ (U (CJ 1 Z Z Z Z Z Z Z) (AD Z Z (AD Z Z (AH (AF (AJ ?_))))))))
 first | refine J (An Z Z AW rfl) ?_ | refine J (Ao Z Z AW Z Z Z) ?_ | refine J (Ap Z Z (rfl) rfl AW rfl) ?_
 refine J (BF (hx) Z Z) (AC Z Z ?_)
 first | refine J (BT Z Z Z) ?_ | refine J (BS Z Z Z) ?_
 first | refine J (BT Z Z Z) ?_ | refine J (BS Z Z Z) ?_
 first | refine J (BT Z Z Z) ?_ | refine J (BS Z Z Z) ?_
 refine AD Z Z (AD Z Z (AD Z Z ?_));refine AH (AF (AJ (AC Z Z (AC Z Z (AD Z Z (AD Z Z (AH (Af ?_))))))));exact ⟨_,[],[],Ae rfl,rfl,rfl,rfl,rfl⟩
def largeS (p:Prb):List Int:=Bh (ordP p) (N0 p).2 (ordP p).length
theorem TO (p:Prb) (hf:IH p) (hE:Ak p=0):AU Tryz.prog 11 [.d (CI p)] (.tup [.sl none ((largeS p).map AG),AG 0]):=by
 have hx:=TZ p hf hE;refine BY Tryz.func11 Z Z Tryz.ntmps11 Z Z Z fun F hF=>(AF (AJ (U (CJ 1 Z Z Z Z Z Z Z) (AD Z Z (AD Z Z (AH (AF (AJ ?_))))))))
 first | refine J (An Z Z AW rfl) ?_ | refine J (Ao Z Z AW Z Z Z) ?_ | refine J (Ap Z Z (rfl) rfl AW rfl) ?_
 refine J (BF (hx) Z Z) (AC Z Z ?_)
 first | refine J (BT Z Z Z) ?_ | refine J (BS Z Z Z) ?_
 first | refine J (BT Z Z Z) ?_ | refine J (BS Z Z Z) ?_
 first | refine J (BT Z Z Z) ?_ | refine J (BS Z Z Z) ?_
 refine AD Z Z (AD Z Z (AD Z Z ?_));refine AH (AF (AJ (AC Z Z (AC Z Z (AD Z Z (AD Z Z (AH (Af ?_))))))));exact ⟨_,[],[],Ae rfl,rfl,rfl,rfl,rfl⟩
def PZ (l:List Int) (x:Int):List Int:=l.filter fun y=>decide (y≠x)
def H7 (its:List AT) (x:Roo) (l:List Int):Int:=max x.n 0+((its.filter fun i=>decide (i.id∈l)).map fun i=>CM i x.r).sum
def blkR (its:List AT) (l:List Int) (id:Int) (x:Roo):Option Exc:=if id∈qIds its x.r then (((qIds its x.r).takeWhile fun a=>decide (a≠id)).find? fun a=>decide (a∉l)).map fun a=>⟨id,1,x.r,a⟩ else none
def Ck (p:Prb) (l:List Int) (id:Int):Option Exc:=match (rosS p).findSome? (blkR (sortO p.it) l id) with
 | some e=>some e
 | none=>((Ar p id).af.find? fun a=>decide (a∉l)).map fun a=>⟨id,2,Db,a⟩
theorem P1 {α:Type} {p:α ->Bool}:∀{l:List α} {m:Nat} (hm:m<l.length),(∀a∈l.take m,p a=true) ->p l[m]=false ->l.takeWhile p=l.take m
 | a::l,0,_,_,h=>by simp at h;simp [h]
 | a::l,m+1,hm,h0,h=>by
  have h1:p a=true:=h0 a (by simp);have ih:=P1 (l:=l) (m:=m) (by simpa using hm) (fun x hx=>h0 x (by simp [hx])) (by simpa using h);rw [List.takeWhile_cons,h1,List.take_succ_cons,←ih];rfl
def Oa (its its0:List AT) (l:List Int) (x:Roo):Option Exc:=if H7 its0 x l<0 then ((qIds its x.r).reverse.find? fun a=>decide (a∈l)).map fun a=>⟨a,0,x.r,-1⟩ else none
def NC (p:Prb) (l:List Int):Option Exc:=match l.findSome? (Ck p l) with
 | some e=>some e
 | none=>(rosS p).findSome? (Oa (sortO p.it) p.it l)
theorem WN {p:Prb} {l:List Int} {id:Int} {e:Exc} (h:Ck p l id=some e):e.id=id:=by
 unfold Ck at h
 split at h
 ·rename_i e' h1
  injection h with h;subst h
  obtain ⟨x,_,h2⟩:=List.exists_of_findSome?_eq_some h1;unfold blkR at h2
  split at h2
  ·obtain ⟨a,_,rfl⟩:=Option.map_eq_some_iff.1 h2;rfl
  ·cases h2
 ·obtain ⟨a,_,rfl⟩:=Option.map_eq_some_iff.1 h;rfl
theorem Gv {α:Type} {p q:α ->Bool}:∀{l:List α},(∀x∈l,p x=q x) ->l.find? p=l.find? q
 | [],_=>rfl
 | a::l,h=>by
  rw [List.find?_cons,List.find?_cons,h a (List.mem_cons_self ..),Gv fun x hx=>h x (List.mem_cons_of_mem _ hx)]
theorem KP {α β:Type} {f g:α ->Option β}:∀{l:List α},(∀x∈l,f x=g x) ->l.findSome? f=l.findSome? g
 | [],_=>rfl
 | a::l,h=>by
  rw [List.findSome?_cons,List.findSome?_cons,h a (List.mem_cons_self ..),KP fun x hx=>h x (List.mem_cons_of_mem _ hx)]
theorem LI {α β:Type} {f:α ->Option β} {p:α ->Bool}:∀{l:List α},(∀x∈l,p x=false ->f x=none) ->(l.filter p).findSome? f=l.findSome? f
 | [],_=>rfl
 | a::l,h=>by
  have ih:=LI (f:=f) (p:=p) (l:=l) fun x hx=>h x (List.mem_cons_of_mem _ hx);rw [List.filter_cons]
  cases hp:p a with
  | true=>rw [if_pos rfl,List.findSome?_cons,List.findSome?_cons,ih]
  | false=>rw [if_neg (by simp),ih,List.findSome?_cons,h a (List.mem_cons_self ..) hp]
theorem La {α β γ:Type} {g:α ->β} {p:β ->Bool} {h:β ->γ}:∀{l:List α},((l.map g).find? p).map h=l.findSome? fun x=>if p (g x)=true then some (h (g x)) else none
 | []=>rfl
 | a::l=>by
  rw [List.map_cons,List.find?_cons,List.findSome?_cons]
  cases hp:p (g a) with
  | true=>rw [if_pos rfl];rfl
  | false=>rw [if_neg (by simp),←La (l:=l)]
theorem Uo {x:AT} (h:BI x=0) {r:A4} (hr:BQ r=0):DG (dltS x) r=CM x r:=by
 have h1:dltS x=LN (ctr x):=if_pos h;have h2:CM x r=Ai (ctr x) r:=if_pos ⟨h,hr⟩;rw [h1,h2]
 by_cases h0:Ai (ctr x) r=0
 ·rw [h0];refine FN fun hm=>?_;obtain ⟨d,hd,e⟩:=List.mem_map.1 hm;obtain ⟨h3,h4⟩:=(Hr _ _).1 hd;have h5:=(Fz (ctr x) d.1 d.2).1 h3;rw [e,h0] at h5;exact h4 h5.2
 ·refine Zc9 (by rw [←h1];exact DM x) ((Hr _ _).2 ⟨(Fz _ _ _).2 ⟨?_,rfl⟩,h0⟩)
  by_cases hm:r∈(ctr x).map Prod.fst
  ·exact hm
  ·exact absurd (E8 hm) h0
theorem Nu {l:List Roo} (h:Ce l=0):∀x∈l,BQ x.r=0:=fun x hx=>by
 have h0:=PP.1 h;obtain ⟨j,hj,rfl⟩:=List.getElem_of_mem hx;have:=h0 j (List.mem_range.2 hj);unfold Lt at this;rw [Bg DC hj] at this
 split at this
 ·contradiction
 ·rename_i hv
  exact Classical.byContradiction fun h=>hv h
theorem Ny {l:List AT} (h:D7 l=0):∀x∈l,BI x=0:=fun x hx=>by
 have h0:=PP.1 h;obtain ⟨j,hj,rfl⟩:=List.getElem_of_mem hx;have:=h0 j (List.mem_range.2 hj);unfold NR at this;rw [Bg itm0 hj] at this
 split at this
 ·contradiction
 ·rename_i hv
  exact Classical.byContradiction fun h=>hv h
theorem q_ids {its:List AT} (hv:∀x∈its,BI x=0) {r:A4} (hr:BQ r=0):qIds its r=(negQ (its.map dltS) r).map fun i=>(its.getD i itm0).id:=by
 unfold qIds negQ
 have e:its=(List.range its.length).map fun i=>its.getD i itm0:=by
  apply List.ext_getElem (by simp)
  intro i h1 h2;simp only [List.getElem_map,List.getElem_range];rw [Bg itm0 h1]
 conv=>lhs;rw [e]
 rw [List.filter_map,List.map_map,List.length_map]
 congr 1
 refine List.filter_congr fun i hi=>?_;have hi':=List.mem_range.1 hi;show decide (CM (its.getD i itm0) r<0)=_;rw [Bg [] (by simpa using hi'),List.getElem_map,Bg itm0 hi',Uo (hv _ (List.getElem_mem hi')) hr]
theorem Pn {its:List AT} (hn:(its.map AT.id).Nodup) (on:Nat ->Bool) {i:Nat} (hi:i<its.length):(its.getD i itm0).id∈Bh its on its.length↔on i=true:=by
 unfold Bh;rw [List.mem_map]
 constructor
 ·rintro ⟨j,hj,e⟩;obtain ⟨h1,h2⟩:=List.mem_filter.1 hj;have hj':=List.mem_range.1 h1;rw [Bg itm0 hi,Bg itm0 hj'] at e
  have:j=i:=by
   have h3:(its.map AT.id)[j]'(by simpa using hj')=(its.map AT.id)[i]'(by simpa using hi):=by
    rw [List.getElem_map,List.getElem_map];exact e
   exact (List.getElem_inj hn).1 h3
  rw [←this];exact h2
 ·intro h;exact ⟨i,List.mem_filter.2 ⟨List.mem_range.2 hi,h⟩,rfl⟩
theorem psum {l m:List Int} (h:l.Perm m):l.sum=m.sum:=by
 induction h with
 | nil=>rfl
 | cons x _ ih=>rw [List.sum_cons,List.sum_cons,ih]
 | swap x y l=>simp only [List.sum_cons];omega
 | trans _ _ h1 h2=>rw [h1,h2]
theorem Tv {α:Type} {p:α ->Bool} {f:α ->Int}:∀{l:List α},((l.filter p).map f).sum=(l.map fun i=>if p i=true then f i else 0).sum
 | []=>rfl
 | a::l=>by
  rw [List.filter_cons,List.map_cons,List.sum_cons,←Tv (l:=l)]
  cases hp:p a with
  | true=>rw [if_pos rfl,if_pos rfl,List.map_cons,List.sum_cons]
  | false=>rw [if_neg (by simp),if_neg (by simp),Int.zero_add]
theorem QZ {ros:List Roo} {its:List AT} {on:Nat ->Bool} {i:Nat} (h:i<its.length):(netS ros its on).nd.getD i Bu=Q1 (ros.map Roo.r) its on i:=by
 show ((List.range its.length).map _).getD i Bu=_;rw [Bg Bu (by simpa using h),List.getElem_map,List.getElem_range]
theorem Pu {ds:List (List (A4×Int))} {r:A4} {i:Nat} (h:i∈negQ ds r):i<ds.length:=List.mem_range.1 (List.mem_filter.1 h).1
theorem LD (its:List AT):its=(List.range its.length).map fun i=>its.getD i itm0:=by
 apply List.ext_getElem (by simp)
 intro i h1 h2;simp only [List.getElem_map,List.getElem_range];rw [Bg itm0 h1]
structure PVO (p:Prb) (ros:List Roo) (its:List AT):Prop where
 e:Ak p=0
 f:IH p
 s:SmO ros its
 hr:rosS p=ros
 hi:sortO p.it=its
 v:∀x∈its,BI x=0
 w:∀x∈ros,BQ x.r=0
 up:ros.Pairwise fun a b=>CE a.r b.r<0
theorem pv_of {p:Prb} (hE:Ak p=0) (hf:IH p):PVO p (rosS p) (sortO p.it):=by
 have h1:ordP p=sortO p.it:=if_pos hE;have hs:=sml_P hf hE;rw [h1] at hs;refine ⟨hE,hf,hs,rfl,rfl,fun x hx=>Ny (Ia hE).2.1 x ((S2 p.it).mem_iff.1 hx),fun x hx=>Nu (Ia hE).1 x ((GF p).mem_iff.1 hx),?_⟩;have hn:=hs.r;rw [List.Nodup,List.pairwise_map] at hn;refine ((Qr p).and hn).imp fun {a b} ⟨g1,g2⟩=>?_;have h1:=OD.anti a.r b.r;have h2:CE a.r b.r≠0:=fun e=>g2 (Dx.1 e);omega
theorem Xa {p:Prb} {ros:List Roo} {its:List AT} (h:PVO p ros its) (on:Nat ->Bool) {x:Roo} (hx:x∈ros):H7 p.it x (Bh its on its.length)=max x.n 0+Jj (its.map dltS) on x.r:=by
 unfold H7
 congr 1
 have hp:p.it.Perm its:=by rw [←h.hi];exact (S2 p.it).symm
 rw [psum ((hp.filter _).map _)]
 obtain ⟨l,hl⟩:∃l,Bh its on its.length=l:=⟨_,rfl⟩
 rw [hl]
 have e:((its.filter fun i=>decide (i.id∈l)).map fun i=>CM i x.r).sum=((List.range its.length).map fun i=>if decide ((its.getD i itm0).id∈l)=true then CM (its.getD i itm0) x.r else 0).sum:=by
  conv=>lhs;rw [LD its]
  rw [List.filter_map,List.map_map,Tv];rfl
 have hlen:(its.map dltS).length=its.length:=by simp
 rw [e];unfold Jj;rw [hlen]
 congr 1
 refine List.map_congr_left fun i hi=>?_;have hi':=List.mem_range.1 hi;have hon:=Pn h.s.i on hi';rw [hl] at hon;have hv:=Uo (h.v (its.getD i itm0) (by rw [Bg itm0 hi'];exact List.getElem_mem hi')) (h.w x hx);have hg:(its.map dltS).getD i []=dltS (its.getD i itm0):=by rw [Bg [] (by simpa using hi'),Bg itm0 hi',List.getElem_map]
 rw [hg,hv]
 by_cases ho:on i=true
 ·rw [if_pos ho,if_pos (decide_eq_true (hon.2 ho))]
 ·rw [if_neg ho,if_neg (by simpa using fun h=>ho (hon.1 h))]
theorem over_eq {p:Prb} {ros:List Roo} {its:List AT} (h:PVO p ros its) (on:Nat ->Bool) {x:Roo} (hx:x∈ros):Oa its p.it (Bh its on its.length) x=SZ (netS ros its on) (poS (its.map dltS) on x):=by
 unfold Oa SZ;rw [Xa h on hx]
 have hov:(ovP (poS (its.map dltS) on x) (poS (its.map dltS) on x).sum=true)↔max x.n 0+Jj (its.map dltS) on x.r<0:=by
  unfold ovP aftP poS;rw [decide_eq_true_eq];dsimp only;have:(0:Int)≤max x.n 0:=Int.le_max_right _ _;omega
 by_cases hc:max x.n 0+Jj (its.map dltS) on x.r<0
 ·rw [if_pos hc,if_pos (hov.2 hc),q_ids h.v (h.w x hx),←List.map_reverse,List.find?_map];show Option.map _ (Option.map _ _)=Option.map _ ((negQ (its.map dltS) x.r).reverse.find? _)
  have e:(negQ (its.map dltS) x.r).reverse.find? ((fun a=>decide (a∈Bh its on its.length))∘fun i=>(its.getD i itm0).id)=(negQ (its.map dltS) x.r).reverse.find? (onN (netS ros its on)):=Gv fun i hi=>by
   have hl:=Pu (List.mem_reverse.1 hi);rw [List.length_map] at hl;show decide ((its.getD i itm0).id∈_)=onN _ i;unfold onN;rw [QZ hl];show _=on i;have:=Pn h.s.i on hl
   cases ho:on i with
   | true=>exact decide_eq_true (this.2 ho)
   | false=>exact decide_eq_false fun h=>by rw [this.1 h] at ho;cases ho
  rw [e]
  cases hf:(negQ (its.map dltS) x.r).reverse.find? (onN (netS ros its on)) with
  | none=>rfl
  | some i=>
   have hl:=Pu (List.mem_reverse.1 (List.mem_of_find?_eq_some hf));rw [List.length_map] at hl;show some _=some _
   congr 1
   have hg:(netS ros its on).nd.getD i Bu=Q1 (ros.map Roo.r) its on i:=QZ hl;show Exc.mk (its.getD i itm0).id 0 x.r (-1)=Exc.mk ((netS ros its on).nd.getD i Bu).it.id 0 x.r (-1);rw [hg];rfl
 ·rw [if_neg hc,if_neg fun h=>hc (hov.1 h)]
theorem Rm {α:Type} (p:α ->Bool):∀(A:List α),A.find? p=A[A.findIdx p]?
 | []=>rfl
 | a::A=>by
  rw [List.find?_cons,List.findIdx_cons]
  cases hp:p a with
  | true=>rfl
  | false=>rw [Rm p A];rfl
theorem dlt_ris (X:AT):(dltS X).Pairwise fun a b=>CE a.1 b.1<0:=by
 unfold dltS
 split
 ·exact KX (ctr X)
 ·exact List.Pairwise.nil
theorem pl_eq {p:Prb} {ros:List Roo} {its:List AT} (h:PVO p ros its) (ds:List (List (A4×Int))) (X:AT):plK (ros.map Roo.r) ds (dltS X)=(ros.filter fun x=>decide (DG (dltS X) x.r<0)).map fun x=>((ros.map Roo.r).idxOf x.r,(negQ ds x.r).length):=by
 have key:((dltS X).filter fun d=>decide (d.1∈ros.map Roo.r) && decide (d.2<0)).map Prod.fst=(ros.filter fun x=>decide (DG (dltS X) x.r<0)).map Roo.r:=by
  refine Di (R:=fun a b=>CE a b<0) (fun x=>by rw [OD.refl];omega) (fun x y z=>OD.trans x y z) ?_ ?_ fun r=>?_
  ·rw [List.pairwise_map];exact List.Pairwise.filter _ (dlt_ris X)
  ·rw [List.pairwise_map];exact List.Pairwise.filter _ h.up
  ·constructor
   ·intro hr;obtain ⟨d,hd,rfl⟩:=List.mem_map.1 hr;obtain ⟨h1,h2⟩:=List.mem_filter.1 hd;rw [Bool.and_eq_true,decide_eq_true_eq,decide_eq_true_eq] at h2;obtain ⟨x,hx,e⟩:=List.mem_map.1 h2.1;refine List.mem_map.2 ⟨x,List.mem_filter.2 ⟨hx,?_⟩,e⟩;have:DG (dltS X) d.1=d.2:=Zc9 (DM X) h1;rw [e,this];exact decide_eq_true h2.2
   ·intro hr;obtain ⟨x,hx,rfl⟩:=List.mem_map.1 hr;obtain ⟨h1,h2⟩:=List.mem_filter.1 hx;have h2:=of_decide_eq_true h2
    have hk:x.r∈(dltS X).map Prod.fst:=Classical.byContradiction fun hn=>by
     have:DG (dltS X) x.r=0:=FN hn;omega
    obtain ⟨d,hd,e⟩:=List.mem_map.1 hk;have:DG (dltS X) d.1=d.2:=Zc9 (DM X) hd;rw [e] at this;refine List.mem_map.2 ⟨d,List.mem_filter.2 ⟨hd,?_⟩,e⟩;rw [Bool.and_eq_true,decide_eq_true_eq,decide_eq_true_eq];exact ⟨by rw [e];exact List.mem_map.2 ⟨x,h1,rfl⟩,by omega⟩
 have e1:plK (ros.map Roo.r) ds (dltS X)=(((dltS X).filter fun d=>decide (d.1∈ros.map Roo.r) && decide (d.2<0)).map Prod.fst).map fun r=>((ros.map Roo.r).idxOf r,(negQ ds r).length):=by
  unfold plK;rw [List.map_map];rfl
 rw [e1,key,List.map_map];rfl
theorem XY {p:Prb} {ros:List Roo} {its:List AT} (h:PVO p ros its) (on:Nat ->Bool) {x:Roo} (hx:x∈ros):(netS ros its on).po.getD ((ros.map Roo.r).idxOf x.r) DI=poS (its.map dltS) on x:=by
 obtain ⟨j,hj,rfl⟩:=List.getElem_of_mem hx;have hj':j<(ros.map Roo.r).length:=by simpa using hj
 have e:(ros.map Roo.r).idxOf ros[j].r=j:=by
  have:=LE h.s.r hj';rw [List.getElem_map] at this;exact this
 rw [e];show (ros.map _).getD j DI=_;rw [Bg DI (by simpa using hj),List.getElem_map]
theorem TX {its:List AT} (hn:(its.map AT.id).Nodup) {i j:Nat} (hi:i<its.length) (hj:j<its.length) (h:(its.getD i itm0).id=(its.getD j itm0).id):i=j:=by
 rw [Bg itm0 hi,Bg itm0 hj] at h
 have h3:(its.map AT.id)[i]'(by simpa using hi)=(its.map AT.id)[j]'(by simpa using hj):=by
  rw [List.getElem_map,List.getElem_map];exact h
 exact (List.getElem_inj hn).1 h3
theorem Ul {p:Prb} {ros:List Roo} {its:List AT} (h:PVO p ros its) (on:Nat ->Bool) {i:Nat} (hi:i<its.length) {x:Roo} (hx:x∈ros):
  blkR its (Bh its on its.length) (its.getD i itm0).id x=if DG (dltS (its.getD i itm0)) x.r<0 then (if badP (netS ros its on) ((ros.map Roo.r).idxOf x.r,(negQ ((its.map dltS).take i) x.r).length)=true then some (N1 (netS ros its on) (Q1 (ros.map Roo.r) its on i) ((ros.map Roo.r).idxOf x.r,(negQ ((its.map dltS).take i) x.r).length)) else none) else none:=by
 have hdi:i<(its.map dltS).length:=by simpa using hi
 have hg:(its.map dltS).getD i []=dltS (its.getD i itm0):=by rw [Bg [] hdi,Bg itm0 hi,List.getElem_map]
 have hq:=q_ids h.v (h.w x hx);obtain ⟨B,c1,c2,c3⟩:=NE hdi x.r;rw [hg] at c1
 have hin:(its.getD i itm0).id∈qIds its x.r↔DG (dltS (its.getD i itm0)) x.r<0:=by
  rw [hq,List.mem_map]
  constructor
  ·rintro ⟨j,hj,e⟩;have hjl:=Pu hj;rw [List.length_map] at hjl;have:=TX h.s.i hjl hi e;subst this;have:=(List.mem_filter.1 hj).2;rw [hg] at this;exact of_decide_eq_true this
  ·intro ha;refine ⟨i,?_,rfl⟩;rw [c1,if_pos ha];simp
 unfold blkR
 by_cases ha:DG (dltS (its.getD i itm0)) x.r<0
 ·rw [if_pos (hin.2 ha),if_pos ha];rw [if_pos ha] at c1
  obtain ⟨A,hA⟩:∃A,negQ ((its.map dltS).take i) x.r=A:=⟨_,rfl⟩
  rw [hA] at c1 c2⊢
  have hQ:qIds its x.r=A.map (fun j=>(its.getD j itm0).id)++((its.getD i itm0).id::B.map fun j=>(its.getD j itm0).id):=by
   rw [hq,c1,List.map_append,List.singleton_append,List.map_cons]
  have hAl:(A.map fun j=>(its.getD j itm0).id).length=A.length:=List.length_map _;have hlt:A.length<(qIds its x.r).length:=by rw [hQ,List.length_append,hAl];simp
  have htk:(qIds its x.r).take A.length=A.map fun j=>(its.getD j itm0).id:=by rw [hQ,←hAl,List.take_left'];rfl
  have hat:(qIds its x.r)[A.length]=(its.getD i itm0).id:=by
   have:(qIds its x.r)[A.length]?=some (its.getD i itm0).id:=by
    rw [hQ,List.getElem?_append_right (by omega),hAl,Nat.sub_self];rfl
   rw [List.getElem?_eq_getElem hlt] at this;exact Option.some.inj this
  rw [P1 hlt (fun a ha=>by
   rw [htk] at ha;obtain ⟨j,hj,rfl⟩:=List.mem_map.1 ha;have:=c2 j hj
   exact decide_eq_true fun e=>by have:=TX h.s.i (by omega) hi e;omega) (by rw [hat];simp),htk,List.find?_map]
  have e1:A.find? ((fun a=>decide (a∉Bh its on its.length))∘fun j=>(its.getD j itm0).id)=A.find? fun j=>!on j:=Gv fun j hj=>by
   have hjl:j<its.length:=by have:=c2 j hj;omega
   have:=Pn h.s.i on hjl;show decide ((its.getD j itm0).id∉_)=!on j
   cases ho:on j with
   | true=>exact decide_eq_false fun hn=>hn (this.2 ho)
   | false=>exact decide_eq_true fun hn=>by rw [this.1 hn] at ho;cases ho
  rw [e1,Rm]
  have hmi:((netS ros its on).po.getD ((ros.map Roo.r).idxOf x.r) DI).mi=if A.findIdx (fun j=>!on j)<A.length then A.findIdx fun j=>!on j else (([i]:List Nat)++B).findIdx (fun j=>!on j)+A.length:=by
   rw [XY h on hx];show YC on (negQ (its.map dltS) x.r)=_;unfold YC;rw [c1,Hn]
  have hpq:((netS ros its on).po.getD ((ros.map Roo.r).idxOf x.r) DI).q=negQ (its.map dltS) x.r:=by rw [XY h on hx];rfl
  have hpr:((netS ros its on).po.getD ((ros.map Roo.r).idxOf x.r) DI).r=x.r:=by rw [XY h on hx];rfl
  unfold badP N1;dsimp only;rw [hmi,hpq,hpr]
  by_cases hm:A.findIdx (fun j=>!on j)<A.length
  ·rw [if_pos hm,if_pos (decide_eq_true hm),List.getElem?_eq_getElem hm];have hjm:=List.getElem_mem hm;have hjl:A[A.findIdx fun j=>!on j]<its.length:=by have:=c2 _ hjm;omega
   have e2:(negQ (its.map dltS) x.r).getD (A.findIdx fun j=>!on j) 0=A[A.findIdx fun j=>!on j]:=by
    rw [c1,List.getD_eq_getElem?_getD,List.getElem?_append_left hm,List.getElem?_eq_getElem hm];rfl
   rw [e2,QZ hjl];rfl
  ·rw [if_neg hm,if_neg (by simp),List.getElem?_eq_none (by omega)];rfl
 ·rw [if_neg (fun hh=>ha (hin.1 hh)),if_neg ha]
theorem Yk {p:Prb} {ros:List Roo} {its:List AT} (h:PVO p ros its) (on:Nat ->Bool) {i:Nat} (hi:i<its.length):Ck p (Bh its on its.length) (its.getD i itm0).id=Fc (netS ros its on) (Q1 (ros.map Roo.r) its on i):=by
 have hXm:its.getD i itm0∈its:=by rw [Bg itm0 hi];exact List.getElem_mem hi
 have hXp:its.getD i itm0∈p.it:=by rw [←h.hi] at hXm;rw [←h.hi];exact (S2 p.it).mem_iff.1 hXm
 have e1:ros.findSome? (blkR its (Bh its on its.length) (its.getD i itm0).id)=((plK (ros.map Roo.r) ((its.map dltS).take i) (dltS (its.getD i itm0))).find? (badP (netS ros its on))).map (N1 (netS ros its on) (Q1 (ros.map Roo.r) its on i)):=by
  rw [pl_eq h,La,←LI (p:=fun x=>decide (DG (dltS (its.getD i itm0)) x.r<0)) (fun x hx hp=>by rw [Ul h on hi hx,if_neg (of_decide_eq_false hp)])];refine KP fun x hx=>?_;obtain ⟨h1,h2⟩:=List.mem_filter.1 hx;rw [Ul h on hi h1,if_pos (of_decide_eq_true h2)]
 have e2:Ar p (its.getD i itm0).id=its.getD i itm0:=by
  obtain ⟨hk,_,h2,h3⟩:=Yz (p:=p) (id:=(its.getD i itm0).id) (List.mem_map.2 ⟨_,hXp,rfl⟩);refine ML (S0 (Ia h.e).2.1) (by rw [h2];exact List.getElem_mem hk) hXp h3
 have e3:(its.getD i itm0).af.find? (fun a=>decide (a∉Bh its on its.length))=(its.getD i itm0).af.find? (offOf (netS ros its on)):=Gv fun a ha=>by
  have hm:=h.s.a _ hXm a ha;have hj:=List.idxOf_lt_length_of_mem hm;have hja:=List.getElem_idxOf hj;unfold offOf;rw [SV]
  generalize (its.map AT.id).idxOf a=j at hj hja⊢
  have hj':j<its.length:=by simpa using hj
  rw [List.getElem_map] at hja;rw [QZ hj'];show _=!on j;have:=Pn h.s.i on hj';rw [Bg itm0 hj',hja] at this
  cases ho:on j with
  | true=>exact decide_eq_false fun hn=>hn (this.2 ho)
  | false=>exact decide_eq_true fun hn=>by rw [this.1 hn] at ho;cases ho
 unfold Ck;rw [h.hr,h.hi,e1,e2,e3];unfold Fc
 show _=match (plK (ros.map Roo.r) ((its.map dltS).take i) (dltS (its.getD i itm0))).find? (badP (netS ros its on)) with
  | some e=>some (N1 (netS ros its on) (Q1 (ros.map Roo.r) its on i) e)
  | none=>match (its.getD i itm0).af.find? (offOf (netS ros its on)) with
   | some id=>some ⟨(its.getD i itm0).id,2,Db,id⟩
   | none=>none
 cases (plK (ros.map Roo.r) ((its.map dltS).take i) (dltS (its.getD i itm0))).find? (badP (netS ros its on)) with
 | some e=>rfl
 | none=>
  show ((its.getD i itm0).af.find? (offOf (netS ros its on))).map _=_
  cases (its.getD i itm0).af.find? (offOf (netS ros its on))<;>rfl
theorem U1 {p:Prb} {ros:List Roo} {its:List AT} (h:PVO p ros its) (on:Nat ->Bool):NC p (Bh its on its.length)=Cs (netS ros its on):=by
 have e1:(Bh its on its.length).findSome? (Ck p (Bh its on its.length))=(netS ros its on).nd.findSome? (ndX (netS ros its on)):=by
  show (((List.range its.length).filter on).map fun i=>(its.getD i itm0).id).findSome? _=((List.range its.length).map _).findSome? _;rw [List.findSome?_map,List.findSome?_map]
  rw [←LI (p:=on) (l:=List.range its.length) (f:=ndX (netS ros its on)∘Q1 (ros.map Roo.r) its on) (fun i _ ho=>by
   show ndX _ (Q1 _ _ _ i)=none;unfold ndX;rw [if_neg];show ¬(on i=true)
   rw [ho];simp)]
  refine KP fun i hi=>?_;obtain ⟨h1,h2⟩:=List.mem_filter.1 hi;show Ck p _ (its.getD i itm0).id=ndX _ (Q1 _ _ _ i);rw [Yk h on (List.mem_range.1 h1)];unfold ndX;rw [if_pos];exact h2
 have e2:ros.findSome? (Oa its p.it (Bh its on its.length))=(netS ros its on).po.findSome? (SZ (netS ros its on)):=by
  show _=(ros.map _).findSome? _;rw [List.findSome?_map];exact KP fun x hx=>over_eq h on hx
 unfold NC Cs;rw [h.hr,h.hi,e1,e2]
 cases (netS ros its on).nd.findSome? (ndX (netS ros its on))<;>rfl
theorem Q9 {its:List AT} (hn:(its.map AT.id).Nodup) (on:Nat ->Bool) {i:Nat} (hi:i<its.length):PZ (Bh its on its.length) (its.getD i itm0).id=Bh its (BG on i) its.length:=by
 unfold PZ Bh;rw [List.filter_map,List.filter_filter]
 congr 1
 refine List.filter_congr fun j hj=>?_;have hj':=List.mem_range.1 hj;show (decide ((its.getD j itm0).id≠(its.getD i itm0).id) && on j)=BG on i j
 by_cases e:j=i
 ·subst e;rw [IL];simp
 ·have hne:(its.getD j itm0).id≠(its.getD i itm0).id:=fun h=>e (TX hn hj' hi h);rw [Dk e,decide_eq_true hne,Bool.true_and]
def FewQ (p:Prb) (n:Nat):Prop:=p.it.length≤n∧p.ro.length≤30∧∀i∈p.it,i.po.length≤8∧i.pa.length≤8∧i.af.length≤8
instance (p:Prb) (n:Nat):Decidable (FewQ p n):=inferInstanceAs (Decidable (_∧_∧∀i∈p.it,_))
def Ld (p:Prb) (l:List Int):Prop:=(∀id∈l,Ck p l id=none)∧∀x∈p.ro,¬H7 p.it x l<0
noncomputable instance (p:Prb) (l:List Int):Decidable (Ld p l):=Classical.propDecidable _
theorem Xs (ros:List Roo) (its:List AT) (on:Nat ->Bool):BR (netS ros its on)=netS ros its on:=by
 unfold BR netS;dsimp only;rw [List.map_map,List.map_map];rfl
theorem Pt {ros:List Roo} {its:List AT} (hn:(its.map AT.id).Nodup) {on:Nat ->Bool} {e:Exc} (h:Cs (netS ros its on)=some e):∃i,i<its.length∧on i=true∧(its.getD i itm0).id=e.id∧(its.map AT.id).idxOf e.id=i:=by
 obtain ⟨i,x,hx,hon,hid⟩:=U0 h;obtain ⟨hi,ho,hit⟩:=QY (Xs ros its on) hx;have hei:(its.getD i itm0).id=e.id:=by rw [hid,hit]
 refine ⟨i,hi,by rw [←ho];exact hon,hei,?_⟩;have h1:=LE hn (i:=i) (by simpa using hi);rw [List.getElem_map] at h1;rw [←hei,Bg itm0 hi];exact h1
theorem UH {ros:List Roo} {its:List AT} (hn:(its.map AT.id).Nodup):∀(f:Nat) (on:Nat ->Bool),Li its.length on≤f ->Cs (netS ros its (GD ros its f on).2)=none
 | 0,on,h=>by
  show Cs (netS ros its on)=none
  cases hne:Cs (netS ros its on) with
  | none=>rfl
  | some e=>
   obtain ⟨i,hi,ho,_,_⟩:=Pt hn hne;have:=LQ hi ho;omega
 | f+1,on,h=>by
  cases hne:Cs (netS ros its on) with
  | none=>rw [Me hne];exact hne
  | some e=>
   obtain ⟨i,hi,ho,_,hx⟩:=Pt hn hne;have:=LQ hi ho;rw [Md hne,hx];exact UH hn f (BG on i) (by omega)
theorem Yh (n:Nat) (on:Nat ->Bool):Li n on≤n:=by
 unfold Li;exact Nat.le_trans (List.length_filter_le _ _) (by simp)
theorem TP {p:Prb} (hE:Ak p=0) (hf:IH p):NC p (largeS p)=none:=by
 have h:=pv_of hE hf;have h1:ordP p=sortO p.it:=if_pos hE;unfold largeS N0;rw [h1,U1 h];exact UH h.s.i _ _ (Yh _ _)
theorem Pk {its:List AT} {x:Roo} {l:List Int} (h:∀i∈its,i.id∈l ->0≤CM i x.r):0≤H7 its x l:=by
 have h0:(0:Int)≤max x.n 0:=Int.le_max_right _ _
 have h1:∀m:List AT,(∀i∈m,0≤CM i x.r) ->0≤(m.map fun i=>CM i x.r).sum:=fun m=>by
  induction m with
  | nil=>intro _;simp
  | cons a m ih=>
   intro hm;have:=hm a (List.mem_cons_self ..);have:=ih fun i hi=>hm i (List.mem_cons_of_mem _ hi);simp only [List.map_cons,List.sum_cons];omega
 have:=h1 (its.filter fun i=>decide (i.id∈l)) fun i hi=>by
  obtain ⟨h2,h3⟩:=List.mem_filter.1 hi;exact h i h2 (of_decide_eq_true h3)
 unfold H7;omega
theorem WA {p:Prb} {l:List Int} (h:NC p l=none):Ld p l:=by
 unfold NC at h
 cases h1:l.findSome? (Ck p l) with
 | some e=>rw [h1] at h;cases h
 | none=>
  rw [h1] at h;refine ⟨fun id hid=>List.findSome?_eq_none_iff.1 h1 id hid,fun x hx ho=>?_⟩;have h2:=List.findSome?_eq_none_iff.1 h x ((GF p).mem_iff.2 hx);unfold Oa at h2;rw [if_pos ho] at h2
  have h3:(qIds (sortO p.it) x.r).reverse.find? (fun a=>decide (a∈l))=none:=by
   cases hf:(qIds (sortO p.it) x.r).reverse.find? (fun a=>decide (a∈l)) with
   | none=>rfl
   | some a=>rw [hf] at h2;cases h2
  have h4:=List.find?_eq_none.1 h3
  have:=Pk (its:=p.it) (x:=x) (l:=l) fun i hi hl=>Classical.byContradiction fun hneg=>by
   have hq:i.id∈qIds (sortO p.it) x.r:=List.mem_map.2 ⟨i,List.mem_filter.2 ⟨(S2 p.it).mem_iff.2 hi,by simpa using hneg⟩,rfl⟩;have:=h4 _ (List.mem_reverse.2 hq)
   simp at this
   exact this hl
  omega
theorem TQ {p:Prb} (hE:Ak p=0) (hf:IH p):Ld p (largeS p):=WA (TP hE hf)
theorem T8 {p:Prb} {l t:List Int} {id:Int} (hs:∀x∈t,x∈l) (h:Ck p t id=none):Ck p l id=none:=by
 unfold Ck at h⊢
 cases h1:(rosS p).findSome? (blkR (sortO p.it) t id) with
 | some e=>rw [h1] at h;cases h
 | none=>
  rw [h1] at h
  have h2:(rosS p).findSome? (blkR (sortO p.it) l id)=none:=Hj fun x hx=>by
   have h3:=List.findSome?_eq_none_iff.1 h1 x hx;unfold blkR at h3⊢
   split
   ·rename_i hq
    rw [if_pos hq] at h3
    have h4:((qIds (sortO p.it) x.r).takeWhile fun a=>decide (a≠id)).find? (fun a=>decide (a∉t))=none:=by
     cases hf:((qIds (sortO p.it) x.r).takeWhile fun a=>decide (a≠id)).find? (fun a=>decide (a∉t)) with
     | none=>rfl
     | some a=>rw [hf] at h3;cases h3
    rw [IV (fun a ha=>by
     have:=List.find?_eq_none.1 h4 a ha
     simp at this
     simpa using hs a this)];rfl
   ·rfl
  rw [h2];dsimp only at h⊢
  have h5:(Ar p id).af.find? (fun a=>decide (a∉t))=none:=by
   cases hf:(Ar p id).af.find? (fun a=>decide (a∉t)) with
   | none=>rfl
   | some a=>rw [hf] at h;cases h
  rw [IV (fun a ha=>by
   have:=List.find?_eq_none.1 h5 a ha
   simp at this
   simpa using hs a this)];rfl
theorem RK {x:Roo} {l t:List Int} (hs:∀y∈t,y∈l):∀{its:List AT},(∀i∈its,i.id∈l ->i.id∉t ->0≤CM i x.r) ->H7 its x t≤H7 its x l
 | [],_=>Int.le_refl _
 | a::its,h=>by
  have ih:=RK hs (its:=its) fun i hi=>h i (List.mem_cons_of_mem _ hi);have ha:=h a (List.mem_cons_self ..);unfold H7 at ih⊢;rw [List.filter_cons,List.filter_cons]
  by_cases h1:a.id∈t
  ·rw [if_pos (decide_eq_true h1),if_pos (decide_eq_true (hs _ h1))];simp only [List.map_cons,List.sum_cons];omega
  ·rw [if_neg (by simpa using h1)]
   by_cases h2:a.id∈l
   ·rw [if_pos (decide_eq_true h2)];have:=ha h2 h1;simp only [List.map_cons,List.sum_cons];omega
   ·rw [if_neg (by simpa using h2)];exact ih
theorem Xn {p:Prb} (hE:Ak p=0) {l t:List Int} (ht:Ld p t) (hs:∀y∈t,y∈l) {e:Exc} (hn:NC p l=some e):e.id∉t:=fun het=>by
 unfold NC at hn
 split at hn
 ·rename_i e' h1
  injection hn with hn;subst hn
  obtain ⟨id,hid,h2⟩:=List.exists_of_findSome?_eq_some h1;have h3:=WN h2;rw [h3] at het;rw [T8 hs (ht.1 id het)] at h2;cases h2
 ·obtain ⟨x,hx,h2⟩:=List.exists_of_findSome?_eq_some hn;have hxp:=(GF p).mem_iff.1 hx;unfold Oa at h2
  split at h2
  ·rename_i ho
   obtain ⟨a,ha,rfl⟩:=Option.map_eq_some_iff.1 h2;dsimp only at het;obtain ⟨hal,u,v,huv,hu⟩:=List.find?_eq_some_iff_append.1 ha
   have hQ:qIds (sortO p.it) x.r=v.reverse++a::u.reverse:=by
    have:=congrArg List.reverse huv;rw [List.reverse_reverse,List.reverse_append,List.reverse_cons,List.append_assoc] at this;exact this
   have hQn:(qIds (sortO p.it) x.r).Nodup:=by
    have h1:((sortO p.it).map AT.id).Nodup:=((S2 p.it).map AT.id).nodup_iff.2 (S0 (Ia hE).2.1);unfold qIds;exact h1.sublist ((List.filter_sublist).map AT.id)
   have hav:a∉v.reverse:=fun hm=>by
    rw [hQ,List.nodup_append] at hQn;exact hQn.2.2 _ hm _ (List.mem_cons_self ..) rfl
   have hblk:=ht.1 a het
   have hall:∀b∈v.reverse,b∈t:=fun b hb=>by
    unfold Ck at hblk
    cases h1:(rosS p).findSome? (blkR (sortO p.it) t a) with
    | some e=>rw [h1] at hblk;cases hblk
    | none=>
     have h3:=List.findSome?_eq_none_iff.1 h1 x hx;unfold blkR at h3;rw [if_pos (by rw [hQ];simp)] at h3;have hlt:v.reverse.length<(qIds (sortO p.it) x.r).length:=by rw [hQ,List.length_append];simp
     have htk:(qIds (sortO p.it) x.r).take v.reverse.length=v.reverse:=by rw [hQ,List.take_left'];rfl
     have hat:(qIds (sortO p.it) x.r)[v.reverse.length]=a:=by
      have:(qIds (sortO p.it) x.r)[v.reverse.length]?=some a:=by
       rw [hQ,List.getElem?_append_right (Nat.le_refl _),Nat.sub_self];rfl
      rw [List.getElem?_eq_getElem hlt] at this;exact Option.some.inj this
     rw [P1 hlt (fun c hc=>by rw [htk] at hc;exact decide_eq_true fun e=>hav (e▸hc)) (by rw [hat];simp),htk] at h3
     have h4:v.reverse.find? (fun a=>decide (a∉t))=none:=by
      cases hf:v.reverse.find? (fun a=>decide (a∉t)) with
      | none=>rfl
      | some c=>rw [hf] at h3;cases h3
     have:=List.find?_eq_none.1 h4 b hb
     simpa using this
   have hle:=RK (x:=x) hs (its:=p.it) fun i hi h1 h2=>Classical.byContradiction fun hneg=>by
    have hq:i.id∈qIds (sortO p.it) x.r:=List.mem_map.2 ⟨i,List.mem_filter.2 ⟨(S2 p.it).mem_iff.2 hi,by simpa using hneg⟩,rfl⟩;rw [hQ] at hq;rcases List.mem_append.1 hq with hq | hq
    ·exact h2 (hall _ hq)
    ·rcases List.mem_cons.1 hq with hq | hq
     ·rw [hq] at h2;exact h2 het
     ·have:=hu _ (List.mem_reverse.1 hq)
      simp at this
      exact this h1
   exact ht.2 x hxp (by omega)
  ·cases h2
theorem Vp {p:Prb} (hE:Ak p=0) (hf:IH p) {t:List Int} (ht:Ld p t) (hs:∀y∈t,y∈p.it.map AT.id):∀y∈t,y∈largeS p:=by
 have h:=pv_of hE hf;have h1:ordP p=sortO p.it:=if_pos hE
 have key:∀(f:Nat) (on:Nat ->Bool),(∀y∈t,y∈Bh (sortO p.it) on (sortO p.it).length) ->∀y∈t,y∈Bh (sortO p.it) (GD (rosS p) (sortO p.it) f on).2 (sortO p.it).length:=by
  intro f
  induction f with
  | zero=>intro on ho;exact ho
  | succ f ih=>
   intro on ho
   cases hne:Cs (netS (rosS p) (sortO p.it) on) with
   | none=>rw [Me hne];exact ho
   | some e=>
    obtain ⟨i,hi,_,hei,hx⟩:=Pt h.s.i hne;rw [Md hne,hx];refine ih (BG on i) fun y hy=>?_;have hnt:=Xn hE ht ho (by rw [U1 h];exact hne);rw [←Q9 h.s.i on hi,hei];exact List.mem_filter.2 ⟨ho y hy,decide_eq_true fun e2=>hnt (e2▸hy)⟩
 unfold largeS N0;rw [h1];refine key _ _ fun y hy=>?_
 have h2:Bh (sortO p.it) (fun _=>true) (sortO p.it).length=(sortO p.it).map AT.id:=by
  conv=>rhs;rw [LD (sortO p.it)]
  unfold Bh;rw [List.map_map,List.filter_eq_self.2 (fun _ _=>rfl)];rfl
 rw [h2];exact ((S2 p.it).map AT.id).mem_iff.2 (hs y hy)
theorem Wb {x:Int} {A B:List Int} (h:x∉A):(A++x::B).takeWhile (fun a=>decide (a≠x))=A:=by
 induction A with
 | nil=>simp
 | cons a A ih=>
  have ha:a≠x:=fun e=>h (by simp [e]);rw [List.cons_append,List.takeWhile_cons,if_pos (by simpa using ha),ih fun hm=>h (by simp [hm])]
theorem Wv {x:Int} {q:List Int} (h:x∈q):∃A B,q=A++x::B∧x∉A:=by
 induction q with
 | nil=>cases h
 | cons a q ih=>
  by_cases e:a=x
  ·subst e;exact ⟨[],q,rfl,by simp⟩
  ·obtain ⟨A,B,h1,h2⟩:=ih ((List.mem_cons.1 h).resolve_left fun e2=>e e2.symm);exact ⟨a::A,B,by rw [h1];rfl,fun hm=>(List.mem_cons.1 hm).elim (fun e2=>e e2.symm) h2⟩
theorem tw_pref (x:Int) (q:List Int) (h:x∈q):q.takeWhile (fun a=>decide (a≠x))=prefQ x q:=by
 obtain ⟨A,B,rfl,hA⟩:=Wv h;rw [Wb hA,Ix hA]
theorem Ub {q S:List Int}:q.find? (fun a=>decide (a∉S))=none↔∀a∈q,a∈S:=by
 rw [List.find?_eq_none];exact ⟨fun h a ha=>Classical.byContradiction fun hn=>h a ha (decide_eq_true hn),fun h a ha hd=>of_decide_eq_true hd (h a ha)⟩
theorem Uk {its:List AT} {S:List Int} {id:Int} {x:Roo}:blkR its S id x=none↔∀a∈prefQ id (qIds its x.r),a∈S:=by
 unfold blkR
 by_cases h:id∈qIds its x.r
 ·rw [if_pos h,Option.map_eq_none_iff,Ub,tw_pref id _ h]
 ·rw [if_neg h,O3 h];exact ⟨fun _ a ha=>(by cases ha),fun _=>rfl⟩
theorem SH {p:Prb} (hE:Ak p=0) {S:List Int} {id:Int}:Ck p S id=none↔∀b∈req p id,b.m∈S:=by
 have hO:ordP p=sortO p.it:=if_pos hE
 have e1:Ck p S id=none↔(rosS p).findSome? (blkR (sortO p.it) S id)=none∧(Ar p id).af.find? (fun a=>decide (a∉S))=none:=by
  unfold Ck
  cases (rosS p).findSome? (blkR (sortO p.it) S id) with
  | some e=>exact ⟨fun h=>(by cases h),fun h=>(by cases h.1)⟩
  | none=>exact ⟨fun h=>⟨rfl,Option.map_eq_none_iff.1 h⟩,fun h=>Option.map_eq_none_iff.2 h.2⟩
 rw [e1,Ub,List.findSome?_eq_none_iff];unfold req Pf
 constructor
 ·rintro ⟨h1,h2⟩ b hb;rcases List.mem_append.1 hb with hb | hb
  ·obtain ⟨y,hy,rfl⟩:=List.mem_map.1 hb;exact h2 y ((Zc2 _).mem_iff.1 hy)
  ·obtain ⟨L,hL,hb⟩:=List.mem_flatMap.1 hb;obtain ⟨x,hx,rfl⟩:=List.mem_map.1 hL;obtain ⟨y,hy,rfl⟩:=List.mem_map.1 hb;have hxr:=(Zda p.ro).mem_iff.1 hx;have:=h1 x ((GF p).mem_iff.2 hxr);rw [←hO] at this;exact Uk.1 this y hy
 ·intro h;refine ⟨fun x hx=>?_,fun a ha=>h ⟨id,a,Km⟩ (List.mem_append_left _ (List.mem_map.2 ⟨a,(Zc2 _).mem_iff.2 ha,rfl⟩))⟩;rw [←hO];refine Uk.2 fun a ha=>?_;have hxr:=(GF p).mem_iff.1 hx;exact h ⟨id,a,x.r⟩ (List.mem_append_right _ (List.mem_flatMap.2 ⟨D0 p x,List.mem_map.2 ⟨x,(Zda p.ro).mem_iff.2 hxr,rfl⟩,List.mem_map.2 ⟨a,ha,rfl⟩⟩))
theorem blks_no {p:Prb} (hE:Ak p=0) {S:List Int} (hS:∀x∈S,x∈p.it.map AT.id):DN p (GQ S)=[]↔∀id∈S,Ck p S id=none:=by
 have e1:DN p (GQ S)=[]↔∀i∈G3 p,Gz p (GQ S) i=[]:=by unfold DN;rw [List.flatMap_eq_nil_iff]
 rw [e1]
 constructor
 ·intro h id hid;have:=h id ((GI hE).mem_iff.2 (hS id hid));unfold Gz at this;rw [if_pos (show GQ S id=true from decide_eq_true hid)] at this;refine (SH hE).2 fun b hb=>Classical.byContradiction fun hn=>?_;have h2:=List.filter_eq_nil_iff.1 this b hb;exact h2 (by show (!decide (b.m∈S))=true;rw [decide_eq_false hn];rfl)
 ·intro h i _;unfold Gz
  split
  ·rename_i hi
   have hi:i∈S:=of_decide_eq_true hi;refine List.filter_eq_nil_iff.2 fun b hb=>?_;show ¬(!decide (b.m∈S))=true;rw [decide_eq_true ((SH hE).1 (h i hi) b hb)]
   decide
  ·rfl
theorem RJ {p:Prb} (hE:Ak p=0) {S:List Int} (hn:S.Nodup) (hS:∀x∈S,x∈p.it.map AT.id) (x:Roo):H7 p.it x S=max x.n 0+CC p x.r (Ag S):=by
 unfold H7 CC Ag
 congr 1
 rw [List.map_map]
 have e1:(S.map ((fun e:Int×Bool=>if e.2=true then CM (Ar p e.1) x.r else 0)∘fun a=>(a,true)))=S.map fun y=>CM (Ar p y) x.r:=List.map_congr_left fun y _=>(by show (if true=true then CM (Ar p y) x.r else 0)=_;rw [if_pos rfl])
 rw [e1];have hid:=S0 (Ia hE).2.1
 have e2:(p.it.filter fun i=>decide (i.id∈S)).map (fun i=>CM i x.r)=((p.it.filter fun i=>decide (i.id∈S)).map AT.id).map fun y=>CM (Ar p y) x.r:=by
  rw [List.map_map];refine List.map_congr_left fun i hi=>?_;have hi:=(List.mem_filter.1 hi).1;show CM i x.r=CM (Ar p i.id) x.r;rw [TT hE hi]
 rw [e2];refine Mq ?_ _;refine (List.perm_ext_iff_of_nodup (List.Nodup.sublist (List.filter_sublist.map _) hid) hn).2 fun y=>?_;rw [List.mem_map]
 constructor
 ·rintro ⟨i,hi,rfl⟩;exact of_decide_eq_true (List.mem_filter.1 hi).2
 ·intro hy;obtain ⟨i,hi,rfl⟩:=List.mem_map.1 (hS y hy);exact ⟨i,List.mem_filter.2 ⟨hi,decide_eq_true hy⟩,rfl⟩
theorem fea_R {p:Prb} (hE:Ak p=0) {S:List Int}:Uv p S↔S.Nodup∧(∀x∈S,x∈p.it.map AT.id)∧Ld p S:=by
 have key:S.Nodup ->(∀x∈S,x∈p.it.map AT.id) ->((DN p (GQ S)=[]∧FU p (Ag S)=[])↔Ld p S):=fun hn hS=>by
  unfold Ld;rw [blks_no hE hS,FD];refine and_congr Iff.rfl ?_
  constructor
  ·intro h x hx;rw [RJ hE hn hS];have:=h (D0 p x) (List.mem_map.2 ⟨x,(Zda p.ro).mem_iff.2 hx,rfl⟩);have e:(D0 p x).n+CC p (D0 p x).r (Ag S)=max x.n 0+CC p x.r (Ag S):=rfl;omega
  ·intro h L hL;obtain ⟨x,hx,rfl⟩:=List.mem_map.1 hL;have:=h x ((Zda p.ro).mem_iff.1 hx);rw [RJ hE hn hS] at this;have e:(D0 p x).n+CC p (D0 p x).r (Ag S)=max x.n 0+CC p x.r (Ag S):=rfl;omega
 exact ⟨fun h=>⟨h.n,h.i,(key h.n h.i).1 ⟨h.a,h.v⟩⟩,fun ⟨h1,h2,h3⟩=>⟨h1,h2,((key h1 h2).2 h3).1,((key h1 h2).2 h3).2⟩⟩
theorem Xd (its:List AT) (on:Nat ->Bool):(Bh its on its.length).Sublist (its.map AT.id):=by
 have h1:its.map AT.id=(List.range its.length).map fun i=>(its.getD i itm0).id:=by
  conv=>lhs;rw [LD its]
  rw [List.map_map];rfl
 rw [h1];exact List.filter_sublist.map _
theorem Om {p:Prb} (hE:Ak p=0):(largeS p).Nodup∧∀x∈largeS p,x∈p.it.map AT.id:=by
 have hO:ordP p=sortO p.it:=if_pos hE;have h1:=Xd (ordP p) (N0 p).2;refine ⟨List.Nodup.sublist h1 (Pm hE),fun x hx=>?_⟩;have:=h1.subset hx;rw [hO] at this;exact ((S2 p.it).map AT.id).mem_iff.1 this
theorem Vr {p:Prb} (hE:Ak p=0) (hf:IH p):Uv p (largeS p):=(fea_R hE).2 ⟨(Om hE).1,(Om hE).2,TQ hE hf⟩
theorem Vq {p:Prb} (hE:Ak p=0) (hf:IH p) {S:List Int} (h:Uv p S):∀y∈S,y∈largeS p:=Vp hE hf ((fea_R hE).1 h).2.2 h.i
theorem Vt:AU Tryz.prog 20 [] (.raw (.bool true)):=by
 have hk:=known_p;refine BY Tryz.func20 Z Z Tryz.ntmps20 Z Z Z fun F hF=>(AF ?_);refine AJ (AD Z Z (AH (AF (AJ (J (BF (hk) Z Z) (AD Z Z (AH (Af ?_))))))));exact ⟨_,[],[],Ae rfl,rfl,rfl,rfl,rfl⟩
theorem TR:AU Tryz.prog 21 [] (.raw (.bool true)):=by
 have hk:=Vs;refine BY Tryz.func21 Z Z Tryz.ntmps21 Z Z Z fun F hF=>(AF ?_);refine AJ (AD Z Z (AH (AF (AJ (J (BF (hk) Z Z) (AD Z Z (AH (Af ?_))))))));exact ⟨_,[],[],Ae rfl,rfl,rfl,rfl,rfl⟩
theorem YM:AU Tryz.prog 7 [] (.raw (.bool true)):=by
 have h1:=Vt;have h2:=TR;refine BY Tryz.func7 Z Z Tryz.ntmps7 Z Z Z fun F hF=>(AF (AJ (AD Z Z (AH (AF (AJ ?_))))));refine J (BF (h1) Z Z) (AC Z Z (MS 2 rfl (rfl) (Ah Z Z Z (J (BF (h2) Z Z) (J (EB Z Z Z Z) (AD Z Z (AH (Af ?_))))))));exact ⟨_,[],[],Ae rfl,rfl,rfl,rfl,rfl⟩
theorem few_sml {p:Prb} (hf:Sml p):IH p:=⟨by have:=hf.1;omega,by have:=hf.2.1;omega,fun x hx=>by have:=hf.2.2 x hx;omega⟩
end Go.Proofs.YtnkkaeblokdifaaGreat
/- Layer 28: how the laws' arguments are opened. -/
namespace Go.Proofs.YtnkkaeblokdifaaGreat
open Go.ChangeShapes Go.WideShapes Go.ChangeAt Go.RowKit
section
variable {H:Type} {enc:TypeId×Value ->H} {w:World}
abbrev tt {α:Type}:α ->Prop:=fun _=>True
theorem oI:CT enc Tryz.prog w 3 1 AG tt:=(UU Tryz.underlying3).asQ id (fun _ _=>rfl) (fun _ _=>trivial)
theorem oJ:CT enc Tryz.prog w 2 1 AG tt:=(UU Tryz.underlying2).asQ id (fun _ _=>rfl) (fun _ _=>trivial)
theorem oS:CT enc Tryz.prog w 9 1 As tt:=(Xc Tryz.underlying9).asQ id (fun _ _=>rfl) (fun _ _=>trivial)
theorem oIs:CT enc Tryz.prog w 33 1 (fun l:List Int=> .sl none (l.map AG)) tt:=(Mt Tryz.underlying33 (by kernel_rfl) (by omega) (b:=8) (by kernel_rfl) oI).asQ id (fun _ _=>rfl) (fun _ _=>trivial)
theorem oAcc:CT enc Tryz.prog w 39 3 accD tt:=
 (JA Tryz.underlying39 (by kernel_rfl) (Bt rfl (by kernel_rfl) oS (Bt rfl (by kernel_rfl) oI (Bt rfl (by kernel_rfl) oS JB)))).asQ (fun a=>(⟨a.1,a.2.1,a.2.2.1⟩:PY)) (fun _ _=>rfl) (fun _ _=>trivial)
theorem oPost:CT enc Tryz.prog w 133 4 Cf tt:=
 (JA Tryz.underlying133 (by kernel_rfl) (Bt rfl (by kernel_rfl) oAcc (Bt rfl (by kernel_rfl) oJ JB))).asQ (fun a=>(⟨a.1,a.2.1⟩:Er)) (fun _ _=>rfl) (fun _ _=>trivial)
theorem oPay:CT enc Tryz.prog w 136 3 Gl tt:=
 (JA Tryz.underlying136 (by kernel_rfl) (Bt rfl (by kernel_rfl) oS (Bt rfl (by kernel_rfl) oS (Bt rfl (by kernel_rfl) oJ JB)))).asQ (fun a=>(⟨a.1,a.2.1,a.2.2.1⟩:Lo)) (fun _ _=>rfl) (fun _ _=>trivial)
theorem oRsc:CT enc Tryz.prog w 41 6 D5 tt:=
 (JA Tryz.underlying41 (by kernel_rfl) (Bt rfl (by kernel_rfl) oI (Bt rfl (by kernel_rfl) oAcc (Bt rfl (by kernel_rfl) oS (Bt rfl (by kernel_rfl) oS JB))))).asQ (fun a=>(⟨a.1,a.2.1,a.2.2.1,a.2.2.2.1⟩:A4)) (fun _ _=>rfl) (fun _ _=>trivial)
theorem oItm:CT enc Tryz.prog w 72 6 Aw tt:=
 (JA Tryz.underlying72 (by kernel_rfl) (Bt rfl (by kernel_rfl) oI (Bt rfl (by kernel_rfl) oI (Bt rfl (by kernel_rfl) oI
  (Bt rfl (by kernel_rfl) (Mt Tryz.underlying69 (by kernel_rfl) (by omega) (b:=48) (by kernel_rfl) oPost)
  (Bt rfl (by kernel_rfl) (Mt Tryz.underlying70 (by kernel_rfl) (by omega) (b:=40) (by kernel_rfl) oPay) (Bt rfl (by kernel_rfl) oIs JB))))))).asQ
  (fun a=>(⟨a.1,a.2.1,a.2.2.1,a.2.2.2.1,a.2.2.2.2.1,a.2.2.2.2.2.1⟩:AT)) (fun _ _=>rfl) (fun _ _=>trivial)
theorem oRoo:CT enc Tryz.prog w 43 7 DT tt:=
 (JA Tryz.underlying43 (by kernel_rfl) (Bt rfl (by kernel_rfl) oRsc (Bt rfl (by kernel_rfl) oJ JB))).asQ (fun a=>(⟨a.1,a.2.1⟩:Roo)) (fun _ _=>rfl) (fun _ _=>trivial)
theorem oPrb:CT enc Tryz.prog w 25 2 CI tt:=
 (JA Tryz.underlying25 (by kernel_rfl) (Bt rfl (by kernel_rfl) (Mt Tryz.underlying22 (by kernel_rfl) (by omega) (b:=88) (by kernel_rfl) oRoo) (Bt rfl (by kernel_rfl) (Mt Tryz.underlying23 (by kernel_rfl) (by omega) (b:=96) (by kernel_rfl) oItm) JB))).asQ
  (fun a=>(⟨a.1,a.2.1⟩:Prb)) (fun _ _=>rfl) (fun _ _=>trivial)
end
end Go.Proofs.YtnkkaeblokdifaaGreat
