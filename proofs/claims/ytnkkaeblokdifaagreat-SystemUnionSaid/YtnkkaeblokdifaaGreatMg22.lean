/- Layer 30: why an item is not admissible. -/
import Derived.Test.YtnkkaeblokdifaaGreatMg21
namespace Go.Proofs.YtnkkaeblokdifaaGreat
open Go.RowKit
set_option maxRecDepth 100000
def DR (N:Net):List Int:=N.nd.map fun x=>x.it.id
def L0 (nb:Nat ->Nat) (ids:List Int):List (Int×Value):=(List.range ids.length).map fun i=>(ids.getD i 0,pV (nb i) 0)
theorem UL {nb:Nat ->Nat} {ids:List Int} (hn:ids.Nodup) {i:Nat} (hi:i<ids.length):Ai (L0 nb ids) ids[i] (.pointer none)=pV (nb i) 0:=by
 refine Zc3 ?_ (List.mem_map.2 ⟨i,List.mem_range.2 hi,by rw [Bh 0 hi]⟩)
 have:(L0 nb ids).map Prod.fst=ids:=by
  unfold L0;rw [List.map_map];refine List.ext_getElem (by simp) fun j h1 h2=>?_;simp only [List.getElem_map,List.getElem_range,Function.comp];exact Bh 0 h2
 rw [this];exact hn
abbrev HW (mv:Nat) (bs:Option (List Nat×Nat)) (L:List (Int×Value)) (M:MF):Hp:=[(40,[.multi M]),(50,[.map bs (Bt AF KX L)]),(51,[.addr 50 0 (.map (some mv))])]
structure Exc where
 id:Int
 re:Int
 r:A5
 by_:Int
def DU:A5:=⟨0,Rb,[],[]⟩
def exc0:Exc:=⟨0,0,DU,0⟩
abbrev Xs (e:Exc):D:= .agg [AF e.id,AF e.re,AF e.r.k,Al e.r.acc.o,AF e.r.acc.k,Al e.r.acc.a,Al e.r.f,Al e.r.t,AF e.by_]
abbrev excR (o:Option Exc):D:= .tup [Xs (o.getD exc0),B5 o.isSome]
def badP (N:Net) (e:Nat×Nat):Bool:=decide ((N.po.getD e.1 Cy).mi<e.2)
def Mn (N:Net) (x:Nd) (e:Nat×Nat):Exc:=⟨x.it.id,1,(N.po.getD e.1 Cy).r,(N.nd.getD ((N.po.getD e.1 Cy).q.getD (N.po.getD e.1 Cy).mi 0) Bo).it.id⟩
def offOf (N:Net) (id:Int):Bool:=!(N.nd.getD ((DR N).idxOf id) Bo).on
def F1 (N:Net) (x:Nd):Option Exc:=match x.pl.find? (badP N) with
 | some e=>some (Mn N x e)
 | none=>match x.it.af.find? (offOf N) with
  | some id=>some ⟨x.it.id,2,DU,id⟩
  | none=>none
theorem P7 {α:Type} {p:α ->Bool}:∀{l:List α} {k:Nat} (hk:k<l.length),(∀x∈l.take k,p x=false) ->p l[k]=true ->l.find? p=some l[k]
 | a::l,0,_,_,h=>by simp at h;simp [h]
 | a::l,k+1,hk,h0,h=>by
  have h1:p a=false:=h0 a (by simp);have ih:=P7 (l:=l) (k:=k) (by simpa using hk) (fun x hx=>h0 x (by simp [hx])) (by simpa using h);rw [List.find?_cons,h1];simpa using ih
theorem Hy {α:Type} {p:α ->Bool} {l:List α} (h:∀x∈l,p x=false):l.find? p=none:=List.find?_eq_none.2 fun x hx=>by rw [h x hx];simp
structure NetW (N:Net):Prop where
 i:(DR N).Nodup
 a:∀x∈N.nd,∀id∈x.it.af,id∈DR N
 l:∀x∈N.nd,x.ef.length≤60∧x.pl.length≤1000∧x.it.af.length≤1000
 e:∀x∈N.nd,∀e∈x.ef,-100000000000000000≤e.2∧e.2≤100000000000000000
 p:∀x∈N.nd,∀e∈x.pl,e.2<(N.po.getD e.1 Cy).q.length∧e.2≤1000000
 m:∀y∈N.po,y.mi≤1000000
 rm:∀y∈N.po,-1000000000000000000≤y.room∧y.room≤1000000000000000000
 n:N.nd.length≤1000∧N.po.length≤1000
 ql:∀y∈N.po,y.q.length≤1000
set_option maxHeartbeats 1000000 in
theorem inadm_c {wb mv:Nat} {nb pb:Nat ->Nat} {N:Net} {M:MF} (bs:Option (List Nat×Nat)) (h:Cm wb mv nb pb N M) (hw:NetW N) {i:Nat} {x:Nd} (hx:N.nd[i]?=some x):
  A6 Tryz.prog 123 [.d (pD wb 0),.d (pD (nb i) 0)] (HW mv bs (L0 nb (DR N)) M) fun r H'=>r= .d (excR (F1 N x))∧H'=HW mv bs (L0 nb (DR N)) M:=by
 have hwb:=h.w;have hxm:=List.mem_of_getElem? hx;obtain ⟨hxb,hre,hrp⟩:=h.nn i x hx;have hpz:=Vq hrp;obtain ⟨_,hpl,hafl⟩:=hw.l x hxm;have hxe:=h.e x hxm;have hxp:=hw.p x hxm;have hxa:=hw.a x hxm;refine B6 Tryz.func123 Z Z Tryz.ntmps123 Z Z Z fun F hF=>?_;refine AG (AJ (G (DT 1 IM Z Z Z Z) (AD Z Z (AI (AG (AG (AJ (AC Z Z ?_))))))))
 first | refine J (B1 Z Z) ?_ | refine J (BY Z Z) ?_ | refine J (B2 Z Z) ?_ | refine J (BZ Z Z) ?_
 first | refine J (AO rfl L5 Z Z Z) ?_ | refine J (AQ rfl L5 Z Z Z) ?_ | refine J (AR rfl L5 Z Z Z) ?_ | refine J (AP rfl L5 Z Z Z) ?_ | refine J (AN rfl L5 Z Z Z) ?_
 refine J (He (f:=40) Z Z (hxb) rfl XB rfl) (J (DO hpz rfl Tryz.underlying105 rfl) (AC Z Z (AI (Aw (EN (α:=Nat) (fun k=>⟨85,[(0,.d (pD wb 0)),(1,.d (pD (nb i) 0)),(4,(.ptr 1 0 0)),(13,(.d (hdr x.ph x.pl.length))),(14,(.d (AF (x.pl.length:Int)))),(15,(.d (AF (k:Int))))],(1,[.blk 148 [.d (AF 0),.d (AF 0),.d (AF 0),.d (Al []),.d (AF 0),.d (Al []),.d (Al []),.d (Al []),.d (AF 0)]])::HW mv bs (L0 nb (DR N)) M⟩) (fun k=>k≤x.pl.length∧∀e∈x.pl.take k,badP N e=false) (fun k=>x.pl.length - k) (0) (⟨Nat.zero_le _,by simp⟩) (BS hF [1,40,50,51] Z Z ⟨rfl,rfl,rfl,rfl,rfl,rfl,trivial⟩) ?_)))));rintro k ⟨hk0,hkb⟩;refine AG (AJ ?_)
 first | refine J (Cc Z Z Z) ?_ | refine J (Cb Z Z Z) ?_
 refine AI (AG ?_)
 first | refine BP rfl (fun h16=>?_) (fun h16=>?_) | refine BK rfl (fun h16=>?_) (fun h16=>?_)
 ·have hk1:k<x.pl.length:=EF h16;refine An (AG (Aw (AG ?_)));obtain ⟨eb,ec,hee⟩:=ZcX hrp hk1;have hrow:=Vp hrp hee;have hjl:x.pl[k].1<N.po.length:=hxe.2 _ (List.getElem_mem hk1)
  obtain ⟨y,hy⟩:∃y,N.po[x.pl[k].1]?=some y:=⟨_,List.getElem?_eq_getElem hjl⟩
  have hgy:N.po.getD x.pl[k].1 Cy=y:=by rw [List.getD_eq_getElem?_getD,hy];rfl
  obtain ⟨hyb,hyq⟩:=h.pp _ y hy;have hpk:=hxp _ (List.getElem_mem hk1);rw [hgy] at hpk;refine AJ (J (Zc0 hee (k) Z Z Z hk1 Tryz.underlying105 TR rfl) (J (I5 (f:=40) (e:=k) rfl (rfl) rfl (hrow) (A3 hk1) rfl rw167 rfl) (G (DT 2 TK Z Z Z Z) (G (CC Z Z Z Z Z Z Z TR) (AI (AG (Gs [[],[0],[0,1],[0,1,2],[0,1,2,3],[],[5],[0,1,2,3,4,5,6]] BF rfl (IK ?_))))))))
  first | refine AE [7] [] Z Z (fun _=>AB (AO rfl DM Z Z Z)) ?_ | refine AH [7] Z Z (fun _=>AB (AO rfl DM Z Z Z)) ?_ | refine AE [7] [] Z Z (fun _=>AB (AQ rfl DM Z Z Z)) ?_ | refine AH [7] Z Z (fun _=>AB (AQ rfl DM Z Z Z)) ?_ | refine AE [7] [] Z Z (fun _=>AB (AR rfl DM Z Z Z)) ?_ | refine AH [7] Z Z (fun _=>AB (AR rfl DM Z Z Z)) ?_ | refine AE [7] [] Z Z (fun _=>AB (AP rfl DM Z Z Z)) ?_ | refine AH [7] Z Z (fun _=>AB (AP rfl DM Z Z Z)) ?_ | refine AE [7] [] Z Z (fun _=>AB (AN rfl DM Z Z Z)) ?_ | refine AH [7] Z Z (fun _=>AB (AN rfl DM Z Z Z)) ?_
  first | refine AE [19] [2] Z Z (fun _=>AB (A0 Z Z B3 rfl)) ?_ | refine AE [19] [2] Z Z (fun _=>AB (AX Z Z Z B3 rfl)) ?_ | refine AE [19] [2] Z Z (fun _=>AB (AZ Z Z (rfl) rfl B3 rfl)) ?_
  first | refine AE [20] [] Z Z (fun _=>AB (B1 Z Z)) ?_ | refine AH [20] Z Z (fun _=>AB (B1 Z Z)) ?_ | refine AE [20] [] Z Z (fun _=>AB (BY Z Z)) ?_ | refine AH [20] Z Z (fun _=>AB (BY Z Z)) ?_ | refine AE [20] [] Z Z (fun _=>AB (B2 Z Z)) ?_ | refine AH [20] Z Z (fun _=>AB (B2 Z Z)) ?_ | refine AE [20] [] Z Z (fun _=>AB (BZ Z Z)) ?_ | refine AH [20] Z Z (fun _=>AB (BZ Z Z)) ?_
  first | refine AE [21] [] Z Z (fun _=>AB (AO rfl GM Z Z Z)) ?_ | refine AH [21] Z Z (fun _=>AB (AO rfl GM Z Z Z)) ?_ | refine AE [21] [] Z Z (fun _=>AB (AQ rfl GM Z Z Z)) ?_ | refine AH [21] Z Z (fun _=>AB (AQ rfl GM Z Z Z)) ?_ | refine AE [21] [] Z Z (fun _=>AB (AR rfl GM Z Z Z)) ?_ | refine AH [21] Z Z (fun _=>AB (AR rfl GM Z Z Z)) ?_ | refine AE [21] [] Z Z (fun _=>AB (AP rfl GM Z Z Z)) ?_ | refine AH [21] Z Z (fun _=>AB (AP rfl GM Z Z Z)) ?_ | refine AE [21] [] Z Z (fun _=>AB (AN rfl GM Z Z Z)) ?_ | refine AH [21] Z Z (fun _=>AB (AN rfl GM Z Z Z)) ?_
  refine AE [22] [40] Z Z (fun _=>AB (He (f:=40) Z Z (hyb) rfl Aa rfl)) ?_
  first | refine AE [7] [] Z Z (fun _=>AB (AO rfl Oc Z Z Z)) ?_ | refine AH [7] Z Z (fun _=>AB (AO rfl Oc Z Z Z)) ?_ | refine AE [7] [] Z Z (fun _=>AB (AQ rfl Oc Z Z Z)) ?_ | refine AH [7] Z Z (fun _=>AB (AQ rfl Oc Z Z Z)) ?_ | refine AE [7] [] Z Z (fun _=>AB (AR rfl Oc Z Z Z)) ?_ | refine AH [7] Z Z (fun _=>AB (AR rfl Oc Z Z Z)) ?_ | refine AE [7] [] Z Z (fun _=>AB (AP rfl Oc Z Z Z)) ?_ | refine AH [7] Z Z (fun _=>AB (AP rfl Oc Z Z Z)) ?_ | refine AE [7] [] Z Z (fun _=>AB (AN rfl Oc Z Z Z)) ?_ | refine AH [7] Z Z (fun _=>AB (AN rfl Oc Z Z Z)) ?_
  first | refine AE [24] [2] Z Z (fun _=>AB (A0 Z Z Aa rfl)) ?_ | refine AE [24] [2] Z Z (fun _=>AB (AX Z Z Z Aa rfl)) ?_ | refine AE [24] [2] Z Z (fun _=>AB (AZ Z Z (rfl) rfl Aa rfl)) ?_
  refine Gf 7 Z Z Z (BE 8 Z Z ?_)
  first | refine J (Cc Z Z Z) ?_ | refine J (Cb Z Z Z) ?_
  refine AI ⟨rfl,?_⟩;refine Ge ?_
  first | refine BP rfl (fun h26=>?_) (fun h26=>?_) | refine BK rfl (fun h26=>?_) (fun h26=>?_)
  ·refine AG ?_;have hmq:y.mi<y.q.length:=by have h:=h26;omega
   obtain ⟨qb,qc,hqe⟩:=ZcX hyq hmq;have hqrow:=Vp hyq hqe;have hni:y.q[y.mi]<N.nd.length:=h.q y (List.mem_of_getElem? hy) _ (List.getElem_mem hmq)
   obtain ⟨z,hz⟩:∃z,N.nd[y.q[y.mi]]?=some z:=⟨_,List.getElem?_eq_getElem hni⟩
   obtain ⟨hzb,_,_⟩:=h.nn _ z hz;have hbad:F1 N x=some ⟨x.it.id,1,y.r,z.it.id⟩:=by unfold F1;rw [P7 hk1 hkb (by unfold badP;rw [hgy];exact decide_eq_true (by have h:=h26;omega))];unfold Mn;dsimp only;rw [hgy,Bh 0 hmq,List.getD_eq_getElem?_getD,hz];rfl
   refine Gs [[],[0],[0,1],[0,1,2],[0,1,2,3],[],[5],[5,6],[5,6,7],[5,6,7,8],[],[10],[10,11],[10,11,12],[10,11,12,13],[],[15],[15,16],[15,16,17],[15,16,17,18],[10,11,12,13,14,15,16,17,18,19],[10,11,12,13,14,15,16,17,18,19,20],[10,11,12,13,14,15,16,17,18,19,20,21],[10,11,12,13,14,15,16,17,18,19,20,21,22],[10,11,12,13,14,15,16,17,18,19,20,21,22,23],[10,11,12,13,14,15,16,17,18,19,20,21,22,23,24],[0,1,2,3,4,5,6,7,8,9,10,11,12,13,14,15,16,17,18,19,20,21,22,23,24,25],[0,1,2,3,4,5,6,7,8,9,10,11,12,13,14,15,16,17,18,19,20,21,22,23,24,25,26],[0,1,2,3,4,5,6,7,8,9,10,11,12,13,14,15,16,17,18,19,20,21,22,23,24,25,26,27]] BF rfl (IK ?_)
   first | refine AE [1] [] Z Z (fun _=>AB (Bb Z Z)) ?_ | refine AH [1] Z Z (fun _=>AB (Bb Z Z)) ?_
   first | refine AE [27] [] Z Z (fun _=>AB (B1 Z Z)) ?_ | refine AH [27] Z Z (fun _=>AB (B1 Z Z)) ?_ | refine AE [27] [] Z Z (fun _=>AB (BY Z Z)) ?_ | refine AH [27] Z Z (fun _=>AB (BY Z Z)) ?_ | refine AE [27] [] Z Z (fun _=>AB (B2 Z Z)) ?_ | refine AH [27] Z Z (fun _=>AB (B2 Z Z)) ?_ | refine AE [27] [] Z Z (fun _=>AB (BZ Z Z)) ?_ | refine AH [27] Z Z (fun _=>AB (BZ Z Z)) ?_
   first | refine AE [28] [] Z Z (fun _=>AB (AO rfl FK Z Z Z)) ?_ | refine AH [28] Z Z (fun _=>AB (AO rfl FK Z Z Z)) ?_ | refine AE [28] [] Z Z (fun _=>AB (AQ rfl FK Z Z Z)) ?_ | refine AH [28] Z Z (fun _=>AB (AQ rfl FK Z Z Z)) ?_ | refine AE [28] [] Z Z (fun _=>AB (AR rfl FK Z Z Z)) ?_ | refine AH [28] Z Z (fun _=>AB (AR rfl FK Z Z Z)) ?_ | refine AE [28] [] Z Z (fun _=>AB (AP rfl FK Z Z Z)) ?_ | refine AH [28] Z Z (fun _=>AB (AP rfl FK Z Z Z)) ?_ | refine AE [28] [] Z Z (fun _=>AB (AN rfl FK Z Z Z)) ?_ | refine AH [28] Z Z (fun _=>AB (AN rfl FK Z Z Z)) ?_
   first | refine AE [29] [] Z Z (fun _=>AB (AO rfl Bq Z Z Z)) ?_ | refine AH [29] Z Z (fun _=>AB (AO rfl Bq Z Z Z)) ?_ | refine AE [29] [] Z Z (fun _=>AB (AQ rfl Bq Z Z Z)) ?_ | refine AH [29] Z Z (fun _=>AB (AQ rfl Bq Z Z Z)) ?_ | refine AE [29] [] Z Z (fun _=>AB (AR rfl Bq Z Z Z)) ?_ | refine AH [29] Z Z (fun _=>AB (AR rfl Bq Z Z Z)) ?_ | refine AE [29] [] Z Z (fun _=>AB (AP rfl Bq Z Z Z)) ?_ | refine AH [29] Z Z (fun _=>AB (AP rfl Bq Z Z Z)) ?_ | refine AE [29] [] Z Z (fun _=>AB (AN rfl Bq Z Z Z)) ?_ | refine AH [29] Z Z (fun _=>AB (AN rfl Bq Z Z Z)) ?_
   refine AE [30] [40] Z Z (fun _=>AB (He (f:=40) Z Z (hxb) rfl Aa rfl)) ?_
   first | refine AE [7] [] Z Z (fun _=>AB (AO rfl DM Z Z Z)) ?_ | refine AH [7] Z Z (fun _=>AB (AO rfl DM Z Z Z)) ?_ | refine AE [7] [] Z Z (fun _=>AB (AQ rfl DM Z Z Z)) ?_ | refine AH [7] Z Z (fun _=>AB (AQ rfl DM Z Z Z)) ?_ | refine AE [7] [] Z Z (fun _=>AB (AR rfl DM Z Z Z)) ?_ | refine AH [7] Z Z (fun _=>AB (AR rfl DM Z Z Z)) ?_ | refine AE [7] [] Z Z (fun _=>AB (AP rfl DM Z Z Z)) ?_ | refine AH [7] Z Z (fun _=>AB (AP rfl DM Z Z Z)) ?_ | refine AE [7] [] Z Z (fun _=>AB (AN rfl DM Z Z Z)) ?_ | refine AH [7] Z Z (fun _=>AB (AN rfl DM Z Z Z)) ?_
   first | refine AE [32] [2] Z Z (fun _=>AB (A0 Z Z B3 rfl)) ?_ | refine AE [32] [2] Z Z (fun _=>AB (AX Z Z Z B3 rfl)) ?_ | refine AE [32] [2] Z Z (fun _=>AB (AZ Z Z (rfl) rfl B3 rfl)) ?_
   first | refine AE [33] [] Z Z (fun _=>AB (B1 Z Z)) ?_ | refine AH [33] Z Z (fun _=>AB (B1 Z Z)) ?_ | refine AE [33] [] Z Z (fun _=>AB (BY Z Z)) ?_ | refine AH [33] Z Z (fun _=>AB (BY Z Z)) ?_ | refine AE [33] [] Z Z (fun _=>AB (B2 Z Z)) ?_ | refine AH [33] Z Z (fun _=>AB (B2 Z Z)) ?_ | refine AE [33] [] Z Z (fun _=>AB (BZ Z Z)) ?_ | refine AH [33] Z Z (fun _=>AB (BZ Z Z)) ?_
   first | refine AE [34] [] Z Z (fun _=>AB (AO rfl GK Z Z Z)) ?_ | refine AH [34] Z Z (fun _=>AB (AO rfl GK Z Z Z)) ?_ | refine AE [34] [] Z Z (fun _=>AB (AQ rfl GK Z Z Z)) ?_ | refine AH [34] Z Z (fun _=>AB (AQ rfl GK Z Z Z)) ?_ | refine AE [34] [] Z Z (fun _=>AB (AR rfl GK Z Z Z)) ?_ | refine AH [34] Z Z (fun _=>AB (AR rfl GK Z Z Z)) ?_ | refine AE [34] [] Z Z (fun _=>AB (AP rfl GK Z Z Z)) ?_ | refine AH [34] Z Z (fun _=>AB (AP rfl GK Z Z Z)) ?_ | refine AE [34] [] Z Z (fun _=>AB (AN rfl GK Z Z Z)) ?_ | refine AH [34] Z Z (fun _=>AB (AN rfl GK Z Z Z)) ?_
   refine AE [35] [40] Z Z (fun _=>AB (Nj (f:=40) Z Z (hyb) Ah Z Z (by simp [D.one]) rfl)) ?_
   first | refine AE [7] [] Z Z (fun _=>AB (AO rfl DM Z Z Z)) ?_ | refine AH [7] Z Z (fun _=>AB (AO rfl DM Z Z Z)) ?_ | refine AE [7] [] Z Z (fun _=>AB (AQ rfl DM Z Z Z)) ?_ | refine AH [7] Z Z (fun _=>AB (AQ rfl DM Z Z Z)) ?_ | refine AE [7] [] Z Z (fun _=>AB (AR rfl DM Z Z Z)) ?_ | refine AH [7] Z Z (fun _=>AB (AR rfl DM Z Z Z)) ?_ | refine AE [7] [] Z Z (fun _=>AB (AP rfl DM Z Z Z)) ?_ | refine AH [7] Z Z (fun _=>AB (AP rfl DM Z Z Z)) ?_ | refine AE [7] [] Z Z (fun _=>AB (AN rfl DM Z Z Z)) ?_ | refine AH [7] Z Z (fun _=>AB (AN rfl DM Z Z Z)) ?_
   first | refine AE [37] [2] Z Z (fun _=>AB (A0 Z Z B3 rfl)) ?_ | refine AE [37] [2] Z Z (fun _=>AB (AX Z Z Z B3 rfl)) ?_ | refine AE [37] [2] Z Z (fun _=>AB (AZ Z Z (rfl) rfl B3 rfl)) ?_
   first | refine AE [38] [] Z Z (fun _=>AB (B1 Z Z)) ?_ | refine AH [38] Z Z (fun _=>AB (B1 Z Z)) ?_ | refine AE [38] [] Z Z (fun _=>AB (BY Z Z)) ?_ | refine AH [38] Z Z (fun _=>AB (BY Z Z)) ?_ | refine AE [38] [] Z Z (fun _=>AB (B2 Z Z)) ?_ | refine AH [38] Z Z (fun _=>AB (B2 Z Z)) ?_ | refine AE [38] [] Z Z (fun _=>AB (BZ Z Z)) ?_ | refine AH [38] Z Z (fun _=>AB (BZ Z Z)) ?_
   first | refine AE [39] [] Z Z (fun _=>AB (AO rfl GL Z Z Z)) ?_ | refine AH [39] Z Z (fun _=>AB (AO rfl GL Z Z Z)) ?_ | refine AE [39] [] Z Z (fun _=>AB (AQ rfl GL Z Z Z)) ?_ | refine AH [39] Z Z (fun _=>AB (AQ rfl GL Z Z Z)) ?_ | refine AE [39] [] Z Z (fun _=>AB (AR rfl GL Z Z Z)) ?_ | refine AH [39] Z Z (fun _=>AB (AR rfl GL Z Z Z)) ?_ | refine AE [39] [] Z Z (fun _=>AB (AP rfl GL Z Z Z)) ?_ | refine AH [39] Z Z (fun _=>AB (AP rfl GL Z Z Z)) ?_ | refine AE [39] [] Z Z (fun _=>AB (AN rfl GL Z Z Z)) ?_ | refine AH [39] Z Z (fun _=>AB (AN rfl GL Z Z Z)) ?_
   refine AE [40] [40] Z Z (fun _=>AB (He (f:=40) Z Z (hyb) rfl IH rfl)) ?_
   first | refine AE [7] [] Z Z (fun _=>AB (AO rfl DM Z Z Z)) ?_ | refine AH [7] Z Z (fun _=>AB (AO rfl DM Z Z Z)) ?_ | refine AE [7] [] Z Z (fun _=>AB (AQ rfl DM Z Z Z)) ?_ | refine AH [7] Z Z (fun _=>AB (AQ rfl DM Z Z Z)) ?_ | refine AE [7] [] Z Z (fun _=>AB (AR rfl DM Z Z Z)) ?_ | refine AH [7] Z Z (fun _=>AB (AR rfl DM Z Z Z)) ?_ | refine AE [7] [] Z Z (fun _=>AB (AP rfl DM Z Z Z)) ?_ | refine AH [7] Z Z (fun _=>AB (AP rfl DM Z Z Z)) ?_ | refine AE [7] [] Z Z (fun _=>AB (AN rfl DM Z Z Z)) ?_ | refine AH [7] Z Z (fun _=>AB (AN rfl DM Z Z Z)) ?_
   first | refine AE [42] [2] Z Z (fun _=>AB (A0 Z Z B3 rfl)) ?_ | refine AE [42] [2] Z Z (fun _=>AB (AX Z Z Z B3 rfl)) ?_ | refine AE [42] [2] Z Z (fun _=>AB (AZ Z Z (rfl) rfl B3 rfl)) ?_
   first | refine AE [43] [] Z Z (fun _=>AB (B1 Z Z)) ?_ | refine AH [43] Z Z (fun _=>AB (B1 Z Z)) ?_ | refine AE [43] [] Z Z (fun _=>AB (BY Z Z)) ?_ | refine AH [43] Z Z (fun _=>AB (BY Z Z)) ?_ | refine AE [43] [] Z Z (fun _=>AB (B2 Z Z)) ?_ | refine AH [43] Z Z (fun _=>AB (B2 Z Z)) ?_ | refine AE [43] [] Z Z (fun _=>AB (BZ Z Z)) ?_ | refine AH [43] Z Z (fun _=>AB (BZ Z Z)) ?_
   first | refine AE [44] [] Z Z (fun _=>AB (AO rfl GM Z Z Z)) ?_ | refine AH [44] Z Z (fun _=>AB (AO rfl GM Z Z Z)) ?_ | refine AE [44] [] Z Z (fun _=>AB (AQ rfl GM Z Z Z)) ?_ | refine AH [44] Z Z (fun _=>AB (AQ rfl GM Z Z Z)) ?_ | refine AE [44] [] Z Z (fun _=>AB (AR rfl GM Z Z Z)) ?_ | refine AH [44] Z Z (fun _=>AB (AR rfl GM Z Z Z)) ?_ | refine AE [44] [] Z Z (fun _=>AB (AP rfl GM Z Z Z)) ?_ | refine AH [44] Z Z (fun _=>AB (AP rfl GM Z Z Z)) ?_ | refine AE [44] [] Z Z (fun _=>AB (AN rfl GM Z Z Z)) ?_ | refine AH [44] Z Z (fun _=>AB (AN rfl GM Z Z Z)) ?_
   refine AE [45] [40] Z Z (fun _=>AB (He (f:=40) Z Z (hyb) rfl Aa rfl)) ?_
   first | refine AE [41,46] [] Z Z (fun _=>AB (Zc0 hqe (y.mi) Z Z Z hmq Tryz.underlying98 WF rfl)) ?_ | refine AH [41,46] Z Z (fun _=>AB (Zc0 hqe (y.mi) Z Z Z hmq Tryz.underlying98 WF rfl)) ?_
   refine AE [47] [40] Z Z (fun _=>AB (Eh (f:=40) (e:=y.mi) (off:=0) rfl (by omega) rfl (hqrow) (A3 hmq) rfl on99 rfl)) ?_
   first | refine AE [48] [] Z Z (fun _=>AB (B1 Z Z)) ?_ | refine AH [48] Z Z (fun _=>AB (B1 Z Z)) ?_ | refine AE [48] [] Z Z (fun _=>AB (BY Z Z)) ?_ | refine AH [48] Z Z (fun _=>AB (BY Z Z)) ?_ | refine AE [48] [] Z Z (fun _=>AB (B2 Z Z)) ?_ | refine AH [48] Z Z (fun _=>AB (B2 Z Z)) ?_ | refine AE [48] [] Z Z (fun _=>AB (BZ Z Z)) ?_ | refine AH [48] Z Z (fun _=>AB (BZ Z Z)) ?_
   first | refine AE [49] [] Z Z (fun _=>AB (AO rfl FK Z Z Z)) ?_ | refine AH [49] Z Z (fun _=>AB (AO rfl FK Z Z Z)) ?_ | refine AE [49] [] Z Z (fun _=>AB (AQ rfl FK Z Z Z)) ?_ | refine AH [49] Z Z (fun _=>AB (AQ rfl FK Z Z Z)) ?_ | refine AE [49] [] Z Z (fun _=>AB (AR rfl FK Z Z Z)) ?_ | refine AH [49] Z Z (fun _=>AB (AR rfl FK Z Z Z)) ?_ | refine AE [49] [] Z Z (fun _=>AB (AP rfl FK Z Z Z)) ?_ | refine AH [49] Z Z (fun _=>AB (AP rfl FK Z Z Z)) ?_ | refine AE [49] [] Z Z (fun _=>AB (AN rfl FK Z Z Z)) ?_ | refine AH [49] Z Z (fun _=>AB (AN rfl FK Z Z Z)) ?_
   first | refine AE [50] [] Z Z (fun _=>AB (AO rfl Bq Z Z Z)) ?_ | refine AH [50] Z Z (fun _=>AB (AO rfl Bq Z Z Z)) ?_ | refine AE [50] [] Z Z (fun _=>AB (AQ rfl Bq Z Z Z)) ?_ | refine AH [50] Z Z (fun _=>AB (AQ rfl Bq Z Z Z)) ?_ | refine AE [50] [] Z Z (fun _=>AB (AR rfl Bq Z Z Z)) ?_ | refine AH [50] Z Z (fun _=>AB (AR rfl Bq Z Z Z)) ?_ | refine AE [50] [] Z Z (fun _=>AB (AP rfl Bq Z Z Z)) ?_ | refine AH [50] Z Z (fun _=>AB (AP rfl Bq Z Z Z)) ?_ | refine AE [50] [] Z Z (fun _=>AB (AN rfl Bq Z Z Z)) ?_ | refine AH [50] Z Z (fun _=>AB (AN rfl Bq Z Z Z)) ?_
   refine AE [51] [40] Z Z (fun _=>AB (He (f:=40) Z Z (hzb) rfl Aa rfl)) (Gf 26 Z Z Z (BE 27 Z Z (J (DC IM Q0 Z Z Z) (AI ⟨rfl,?_⟩))));refine BE 28 Z Z (G (CC Z Z Z Z Z Z Z JQ) (AI ⟨rfl,?_⟩));refine BE 29 Z Z (AD Z Z (AI ⟨rfl,?_⟩));refine Ge (Af ?_);exact ⟨_,[40,50,51],_,Ae rfl,rfl,rfl,by rw [hbad];rfl,rfl⟩
  ·refine An (AJ (J (By Z Z (Ad (k+1) (by omega)) rfl) (AC Z Z (AI ?_))));exact ⟨k+1,⟨by show k+1≤_;omega,by rw [List.take_succ_eq_append_getElem hk1];intro e he;rcases List.mem_append.1 he with he | he;exact hkb e he;rw [List.mem_singleton.1 he];unfold badP;rw [hgy];exact decide_eq_false (by have h:=h26;omega)⟩,by show x.pl.length - (k+1)<x.pl.length - k;omega,BS hF [1,40,50,51] rfl (rfl) ⟨rfl,rfl,rfl,rfl,rfl,rfl,trivial⟩⟩
 ·refine Ct (AG (AG ?_));have hpn:x.pl.find? (badP N)=none:=Hy (by have e:k=x.pl.length:=(by have h:=h16;omega);rw [e,List.take_length] at hkb;exact hkb);refine AJ (AC Z Z ?_)
  first | refine J (B1 Z Z) ?_ | refine J (BY Z Z) ?_ | refine J (B2 Z Z) ?_ | refine J (BZ Z Z) ?_
  first | refine J (AO rfl FK Z Z Z) ?_ | refine J (AQ rfl FK Z Z Z) ?_ | refine J (AR rfl FK Z Z Z) ?_ | refine J (AP rfl FK Z Z Z) ?_ | refine J (AN rfl FK Z Z Z) ?_
  first | refine J (AO rfl Ff Z Z Z) ?_ | refine J (AQ rfl Ff Z Z Z) ?_ | refine J (AR rfl Ff Z Z Z) ?_ | refine J (AP rfl Ff Z Z Z) ?_ | refine J (AN rfl Ff Z Z Z) ?_
  refine J (He (f:=40) Z Z (hxb) rfl BD rfl) ?_
  first | refine J (Co rfl Tryz.underlying33 rfl) ?_ | refine J (C1 Z Z Tryz.underlying33 rfl) ?_ | refine J (Cp rfl Tryz.underlying33 rfl) ?_ | refine J (Cn rfl Tryz.underlying33 rfl) ?_ | refine J (Ca rfl Tryz.underlying33 rfl) ?_ | refine J (Ck rfl Tryz.underlying33 rfl) ?_
  refine AC Z Z (AI (Aw (EN (α:=Nat) (fun j=>⟨85,[(0,.d (pD wb 0)),(1,.d (pD (nb i) 0)),(4,(.ptr 1 0 0)),(59,(.d (.sl none (x.it.af.map AF)))),(60,(.d (AF (x.it.af.length:Int)))),(61,(.d (AF (j:Int))))],(1,[.blk 148 [.d (AF 0),.d (AF 0),.d (AF 0),.d (Al []),.d (AF 0),.d (Al []),.d (Al []),.d (Al []),.d (AF 0)]])::HW mv bs (L0 nb (DR N)) M⟩) (fun j=>j≤x.it.af.length∧∀id∈x.it.af.take j,offOf N id=false) (fun j=>x.it.af.length - j) (0) (⟨Nat.zero_le _,by simp⟩) (BS hF [1,40,50,51] Z Z ⟨rfl,rfl,rfl,rfl,rfl,rfl,trivial⟩) ?_)));rintro j ⟨hj0,hjb⟩;refine AG (AJ ?_)
  first | refine J (Cc Z Z Z) ?_ | refine J (Cb Z Z Z) ?_
  refine AI (AG ?_)
  first | refine BP rfl (fun h62=>?_) (fun h62=>?_) | refine BK rfl (fun h62=>?_) (fun h62=>?_)
  ·have hj1:j<x.it.af.length:=EF h62;refine An (AG (Aw (AG ?_)));have hidm:=hxa _ (List.getElem_mem hj1);have hil:=List.idxOf_lt_length_of_mem hidm;have hil2:(DR N).idxOf x.it.af[j]<N.nd.length:=by unfold DR at hil⊢;rw [List.length_map] at hil;exact hil
   obtain ⟨z,hz⟩:∃z,N.nd[(DR N).idxOf x.it.af[j]]?=some z:=⟨_,List.getElem?_eq_getElem hil2⟩
   have hgz:N.nd.getD ((DR N).idxOf x.it.af[j]) Bo=z:=by rw [List.getD_eq_getElem?_getD,hz];rfl
   obtain ⟨hzb,_,_⟩:=h.nn _ z hz;have hby:=UL (nb:=nb) hw.i hil;rw [List.getElem_idxOf hil] at hby;refine AJ ?_
   first | refine J (Ch (j) Z Z (rfl) (A3 hj1) Tryz.underlying33 rfl Et rfl) ?_ | refine J (Cj (j) Z Z (rfl) (A3 hj1) rfl Tryz.underlying33 Et rfl) ?_
   first | refine J (A0 Z Z Aa rfl) ?_ | refine J (AX Z Z Z Aa rfl) ?_ | refine J (AZ Z Z (rfl) rfl Aa rfl) ?_
   refine AD Z Z (AI (AG (AJ (AC Z Z ?_))))
   first | refine J (B1 Z Z) ?_ | refine J (BY Z Z) ?_ | refine J (B2 Z Z) ?_ | refine J (BZ Z Z) ?_
   first | refine J (AO rfl L4 Z Z Z) ?_ | refine J (AQ rfl L4 Z Z Z) ?_ | refine J (AR rfl L4 Z Z Z) ?_ | refine J (AP rfl L4 Z Z Z) ?_ | refine J (AN rfl L4 Z Z Z) ?_
   refine J (He (f:=40) Z Z (hwb) rfl XC rfl) (Ft 68 51 0 Z Z (AC Z Z (J (LT (L0 nb (DR N)) x.it.af[j] (.pointer none) (pV (nb ((DR N).idxOf x.it.af[j])) 0) Z Z Z XV KI za99 hby rfl) ?_)))
   first | refine J (B1 Z Z) ?_ | refine J (BY Z Z) ?_ | refine J (B2 Z Z) ?_ | refine J (BZ Z Z) ?_
   first | refine J (AO rfl L6 Z Z Z) ?_ | refine J (AQ rfl L6 Z Z Z) ?_ | refine J (AR rfl L6 Z Z Z) ?_ | refine J (AP rfl L6 Z Z Z) ?_ | refine J (AN rfl L6 Z Z Z) ?_
   refine J (He (f:=40) Z Z (hzb) rfl on4 rfl) ?_
   first | refine J (G9 Z Z) ?_ | refine J (GJ Z Z) ?_
   refine AI ?_
   first | refine BP rfl (fun h74=>?_) (fun h74=>?_) | refine BK rfl (fun h74=>?_) (fun h74=>?_)
   ·refine AG (AJ (AC Z Z ?_))
    first | refine J (B1 Z Z) ?_ | refine J (BY Z Z) ?_ | refine J (B2 Z Z) ?_ | refine J (BZ Z Z) ?_
    first | refine J (AO rfl FK Z Z Z) ?_ | refine J (AQ rfl FK Z Z Z) ?_ | refine J (AR rfl FK Z Z Z) ?_ | refine J (AP rfl FK Z Z Z) ?_ | refine J (AN rfl FK Z Z Z) ?_
    first | refine J (AO rfl Bq Z Z Z) ?_ | refine J (AQ rfl Bq Z Z Z) ?_ | refine J (AR rfl Bq Z Z Z) ?_ | refine J (AP rfl Bq Z Z Z) ?_ | refine J (AN rfl Bq Z Z Z) ?_
    refine J (He (f:=40) Z Z (hxb) rfl Aa rfl) (J (DC Gi J5 Z Z Z) (AC Z Z (J (DC IM Q0 Z Z Z) (G (CC Z Z Z Z Z Z Z JQ) (AD Z Z (AI (Af ?_)))))));exact ⟨_,[40,50,51],_,Ae rfl,rfl,rfl,by unfold F1;rw [hpn];dsimp only;rw [P7 hj1 hjb (by unfold offOf;rw [hgz];simpa using h74)];rfl,rfl⟩
   ·refine An (AJ (J (By Z Z (Ad (j+1) (by omega)) rfl) (AC Z Z (AI ?_))));exact ⟨j+1,⟨by show j+1≤_;omega,by rw [List.take_succ_eq_append_getElem hj1];intro e he;rcases List.mem_append.1 he with he | he;exact hjb e he;rw [List.mem_singleton.1 he];unfold offOf;rw [hgz];simpa using h74⟩,by show x.it.af.length - (j+1)<x.it.af.length - j;omega,BS hF [1,40,50,51] rfl (rfl) ⟨rfl,rfl,rfl,rfl,rfl,rfl,trivial⟩⟩
  ·refine Ct (AG (AJ (J (DC IM Q0 Z Z Z) (G (CC Z Z Z Z Z Z Z JQ) (AD Z Z (AI (Af ?_)))))));exact ⟨_,[40,50,51],_,Ae rfl,rfl,rfl,by unfold F1;rw [hpn];dsimp only;rw [Hy (by have e:j=x.it.af.length:=(by have h:=h62;omega);rw [e,List.take_length] at hjb;exact hjb)];rfl,rfl⟩
abbrev Xr:FuncId:=168
theorem backF_c (h:Hd) (n:Nat):A6 Tryz.prog 124 [.d (hdr h n)] [] fun r H'=>r= .fn Xr [.d (.ptr (hdr h n))]∧H'=[]:=by
 refine B6 Tryz.func124 Z Z Tryz.ntmps124 Z Z Z fun F hF=>(AG (AJ (G (CV 1 Z Z Z Z Z Z Z) ?_)));refine AD Z Z (AI (AG (AJ (Hq 1 1 (hdr h n) [] hF Z Z Z (by intro c hc;simp [D.cells] at hc;subst hc;rfl) Z Z Z (J (DD Z Z) (AD Z Z (AI (Af ?_))))))));exact ⟨_,[],[],Ae rfl,rfl,rfl,rfl,rfl⟩
def KU (q:List Nat):Nat ->List (Nat×Nat)
 | 0=> []
 | c+1=>(c,q.getD c 0)::KU q c
def Xv (nb:Nat ->Nat) (e:Nat×Nat):List AV:=[.d (AF (e.1:Int)),.d (BQ (nb e.2))]
section
variable {β:Type}
theorem back1_c (nb:Nat ->Nat) (q:List Nat) (hq:q.length≤100000) {M:MF} {h:Hd} (hrow:BW M h 99 1 (q.map fun i=>BQ (nb i))) (l:Nat) (H:β ->Hp) (N:List Nat) (step:β ->Nat×Nat ->β×Bool) (st0:β) (hN:∀st,hpN (H st)=N) (hI:∀st,DI N (H st)=true) (hP:∀st,Am (H st) N=some (H st)) (hM:∀st,hfam (H st) 40=some [.multi M])
  (hfe:C4 Tryz.prog l (Xv nb) H step st0 (KU q q.length)):
  A6 Tryz.prog Xr [.d (.raw (CA l)),.d (.ptr (hdr h q.length))] (H st0) fun r H'=>r= .tup []∧H'=H (Bj step st0 (KU q q.length)):=by
 have hz:=Vq hrow;have x5:∀st,AW N (H st)=true:=fun st=>by have h:=YY (H st);rw [hN] at h;exact h
 have x6:∀st,Bw N (H st)=some []:=fun st=>by have h:=Fp (H st);rw [hN] at h;exact h
 refine B6 Tryz.func168 Z Z Tryz.ntmps168 Z Z Z fun F hF=>(AG (AJ ?_))
 first | refine J (A0 Z Z IH rfl) ?_ | refine J (AX Z Z Z IH rfl) ?_ | refine J (AZ Z Z (rfl) rfl IH rfl) ?_
 refine J (DO hz rfl Tryz.underlying98 rfl) (J (Ev Z Z (IntWalk.i64_in _ (by omega)) rfl) (AD Z Z (AI (Aw (EK (α:=Nat×β) (fun p=>⟨19,[(0,.d (.raw (CA l))),(1,.d (.ptr (hdr h q.length))),(3,(.d (AF ((p.1:Int) - 1))))],H p.2⟩) (fun p=>p.1≤q.length∧C4 Tryz.prog l (Xv nb) H step p.2 (KU q p.1)∧Bj step p.2 (KU q p.1)=Bj step st0 (KU q q.length)) (fun p=>p.1) ((q.length,st0)) (⟨Nat.le_refl _,hfe,rfl⟩) (UX ⟨rfl,rfl,rfl,trivial⟩) ?_)))));rintro ⟨c,st⟩ ⟨hc0,hfk,hfin⟩;dsimp only at hc0 hfk hfin⊢;refine AG (AG (AJ (AC Z Z (J (KM Z Z Z) (AI ?_)))))
 first | refine BP rfl (fun h8=>?_) (fun h8=>?_) | refine BK rfl (fun h8=>?_) (fun h8=>?_)
 ·obtain ⟨k,rfl⟩:∃k,c=k+1:=⟨c - 1,by have h:=h8;omega⟩
  refine An (AG (Aw (AG ?_)));have hkq:k<q.length:=by omega
  obtain ⟨qb,qc,hqe⟩:=ZcX hrow hkq;have hqrow:=Vp hrow hqe;have hk1:((k+1:Nat):Int) - 1=(k:Int):=by omega
  rw [hk1];refine AJ (AC Z Z (AC Z Z ?_))
  first | refine J (A0 Z Z IH rfl) ?_ | refine J (AX Z Z Z IH rfl) ?_ | refine J (AZ Z Z (rfl) rfl IH rfl) ?_
  refine AC Z Z (J (Zc0 hqe (k) Z Z Z hkq Tryz.underlying98 WF rfl) (J (Eh (f:=40) (e:=k) (off:=0) rfl (by omega) (hM st) hqrow (A3 hkq) rfl on99 rfl) ?_));rw [←Bh 0 hkq];refine MQ Z Z hfk.1 N (Zdd fun _ _=>rfl) (x5 st) (x6 st) Z Z (fun r H' ⟨e1,e2⟩=>by subst e1 e2;exact ⟨x5 _,hI _,rfl⟩) rfl fun r H' ⟨e1,e2⟩=>?_;subst e1 e2;rw [List.append_nil]
  first | refine J (G9 Z Z) ?_ | refine J (GJ Z Z) ?_
  refine AI ?_
  first | refine BP rfl (fun h18=>?_) (fun h18=>?_) | refine BK rfl (fun h18=>?_) (fun h18=>?_)
  ·have hgo:(step st (k,q.getD k 0)).2=false:=by simpa using h18
   refine Af ?_;exact ⟨_,N,_,Ae rfl,hP _,x5 _,rfl,by rw [←hfin];show H _=H (Bj step st ((k,q.getD k 0)::KU q k));rw [Rm,if_neg (by rw [hgo];decide)]⟩
  ·have hgo:(step st (k,q.getD k 0)).2=true:=by simpa using h18
   refine An (AJ (AC Z Z (J (Ev Z Z (IntWalk.i64_in _ (by omega)) rfl) (AD Z Z (AI ?_)))));exact ⟨(k,(step st (k,q.getD k 0)).1),⟨by show k≤_;omega,hfk.2 hgo,by show Bj step (step st (k,q.getD k 0)).1 (KU q k)=_;rw [←hfin];show _=Bj step st ((k,q.getD k 0)::KU q k);rw [Rm,if_pos hgo]⟩,by show k<k+1;omega,⟨rfl,rfl,fun _ _=>NK.get (l:=[(0,_),(1,_),(3,_)]) ⟨rfl,rfl,rfl,trivial⟩⟩⟩
 ·refine Ct ?_;exact ⟨_,N,_,Ae rfl,hP _,x5 _,rfl,by rw [←hfin];have e:c=0:=(by have h:=h8;omega);rw [e];rfl⟩
end
def onN (N:Net) (i:Nat):Bool:=(N.nd.getD i Bo).on
def ndX (N:Net) (x:Nd):Option Exc:=if x.on=true then F1 N x else none
def Rl (N:Net) (y:Po):Option Exc:=if ovP y y.sum=true then (y.q.reverse.find? (onN N)).map fun i=>⟨(N.nd.getD i Bo).it.id,0,y.r,-1⟩ else none
def C9 (N:Net):Option Exc:=match N.nd.findSome? (ndX N) with
 | some e=>some e
 | none=>N.po.findSome? (Rl N)
theorem HU {α β:Type} {f:α ->Option β}:∀{l:List α} {k:Nat} (hk:k<l.length) {b:β},(∀x∈l.take k,f x=none) ->f l[k]=some b ->l.findSome? f=some b
 | a::l,0,_,b,_,h=>by simp at h;rw [List.findSome?_cons,h]
 | a::l,k+1,hk,b,h0,h=>by
  have h1:f a=none:=h0 a (by simp);have ih:=HU (l:=l) (k:=k) (by simpa using hk) (fun x hx=>h0 x (by simp [hx])) (by simpa using h);rw [List.findSome?_cons,h1];exact ih
theorem HT {α β:Type} {f:α ->Option β} {l:List α} (h:∀x∈l,f x=none):l.findSome? f=none:=List.findSome?_eq_none_iff.2 h
def stRO:Bool ->LoopState
 | true=> .done
 | false=> .ready
def pdRO:Bool ->Option Code
 | true=>some .ret
 | false=>none
def HB (N:Net) (_st:Option Nat) (e:Nat×Nat):Option Nat×Bool:=if onN N e.2=true then (some e.2,false) else (none,true)
theorem Xo (N:Net) (q:List Nat):∀n,n≤q.length ->Bj (HB N) none (KU q n)=((q.take n).reverse.find? (onN N))
 | 0,_=>rfl
 | n+1,h=>by
  have hn:n<q.length:=by omega
  show Bj (HB N) none ((n,q.getD n 0)::KU q n)=_;rw [Rm,List.take_succ_eq_append_getElem hn,List.reverse_append,List.reverse_singleton,List.singleton_append,List.find?_cons,Bh 0 hn];unfold HB;dsimp only
  cases ho:onN N q[n] with
  | true=>rfl
  | false=>exact Xo N q n (by omega)
theorem UF {P:Program} {l:Nat} {nb:Nat ->Nat} {H:Option Nat ->Hp} (N:Net) (q:List Nat) (hY:∀k (hk:k<q.length),Dh P l (Xv nb (k,q[k])) (H none) fun v H'=>v= .d (.raw (.bool (!onN N q[k])))∧H'=H (if onN N q[k]=true then some q[k] else none)):∀n,n≤q.length ->C4 P l (Xv nb) H (HB N) none (KU q n)
 | 0,_=>trivial
 | n+1,h=>by
  have hn:n<q.length:=by omega
  have hy:=hY n hn;show C4 P l (Xv nb) H (HB N) none ((n,q.getD n 0)::KU q n);rw [Bh 0 hn];refine ⟨hy.mono fun v H' ⟨e1,e2⟩=>⟨by rw [e1];unfold HB;cases onN N q[n]<;>rfl,by rw [e2];unfold HB;cases onN N q[n]<;>rfl⟩,fun hgo=>?_⟩
  have hoff:onN N q[n]=false:=by
   cases ho:onN N q[n] with
   | false=>rfl
   | true=>unfold HB at hgo;dsimp only at hgo;rw [ho] at hgo;cases hgo
  have:(HB N none (n,q[n])).1=none:=by unfold HB;dsimp only;rw [hoff];rfl
  rw [this];exact UF N q hY n (by omega)
abbrev excB (e:Exc):AL:= .blk 148 [.d (AF e.id),.d (AF e.re),.d (AF e.r.k),.d (Al e.r.acc.o),.d (AF e.r.acc.k),.d (Al e.r.acc.a),.d (Al e.r.f),.d (Al e.r.t),.d (AF e.by_)]
def fndE (N:Net) (y:Po) (o:Option Nat):Exc:=match o with
 | none=>exc0
 | some i=>⟨(N.nd.getD i Bo).it.id,0,y.r,-1⟩
abbrev hBk (N:Net) (y:Po) (pbk mv:Nat) (bs:Option (List Nat×Nat)) (L:List (Int×Value)) (M:MF) (o:Option Nat):Hp:=[(1,[excB (fndE N y o)]),(2,[.blk 4 [.d (B5 o.isSome)]]),(4,[.blk 109 [.d (BQ pbk)]]),(40,[.multi M]),(50,[.map bs (Bt AF KX L)]),(51,[.addr 50 0 (.map (some mv))])]
set_option maxHeartbeats 2000000 in
theorem next_c {wb mv:Nat} {nb pb:Nat ->Nat} {N:Net} {M:MF} (bs:Option (List Nat×Nat)) (h:Cm wb mv nb pb N M) (hw:NetW N) (hs:QH N.po 1000000000000000000):
  A6 Tryz.prog 63 [.d (pD wb 0)] (HW mv bs (L0 nb (DR N)) M) fun r H'=>r= .d (excR (C9 N))∧H'=HW mv bs (L0 nb (DR N)) M:=by
 have hwb:=h.w;have hnr:BW M N.nh 99 1 ((List.range N.nd.length).map fun i=>BQ (nb i)):=h.rs.1 .n;have hpr:BW M N.mh 109 1 ((List.range N.po.length).map fun j=>BQ (pb j)):=h.rs.1 .m;have hnz:=Vq hnr;have hpz:=Vq hpr;rw [List.length_range] at hnz hpz;have hnl:=hw.n
 obtain ⟨L,hL⟩:∃L,L0 nb (DR N)=L:=⟨_,rfl⟩
 have hina:=fun i x hx=>inadm_c (i:=i) (x:=x) bs h hw hx;rw [hL] at hina⊢;refine GE Tryz.func63 Z Z Tryz.ntmps63 Z Z Z fun F hF hFl=>?_;refine AG (AJ (G (DT 1 IM Z Z Z Z) (G (DT 2 zl4 Z Z Z Z) (AI (AG (AG (AJ (AC Z Z ?_))))))))
 first | refine J (B1 Z Z) ?_ | refine J (BY Z Z) ?_ | refine J (B2 Z Z) ?_ | refine J (BZ Z Z) ?_
 first | refine J (AO rfl JI Z Z Z) ?_ | refine J (AQ rfl JI Z Z Z) ?_ | refine J (AR rfl JI Z Z Z) ?_ | refine J (AP rfl JI Z Z Z) ?_ | refine J (AN rfl JI Z Z Z) ?_
 refine J (He (f:=40) Z Z (hwb) rfl IH rfl) (J (DO hnz rfl Tryz.underlying98 rfl) (AC Z Z (AI (Aw (EN (α:=Nat) (fun k=>⟨74,[(0,.d (pD wb 0)),(2,(.ptr 1 0 0)),(3,(.ptr 2 0 0)),(15,(.d (hdr N.nh N.nd.length))),(16,(.d (AF (N.nd.length:Int)))),(17,(.d (AF (k:Int))))],(1,[excB exc0])::(2,[.blk 4 [.d (B5 false)]])::HW mv bs L M⟩) (fun k=>k≤N.nd.length∧∀x∈N.nd.take k,ndX N x=none) (fun k=>N.nd.length - k) (0) (⟨Nat.zero_le _,by simp⟩) (BS hF [1,2,40,50,51] Z Z ⟨rfl,rfl,rfl,rfl,rfl,rfl,trivial⟩) ?_)))));rintro k ⟨hk0,hkb⟩;refine AG (AJ ?_)
 first | refine J (Cc Z Z Z) ?_ | refine J (Cb Z Z Z) ?_
 refine AI (AG ?_)
 first | refine BP rfl (fun h18=>?_) (fun h18=>?_) | refine BK rfl (fun h18=>?_) (fun h18=>?_)
 ·have hk1:k<N.nd.length:=EF h18;refine An (AG (Aw (AG ?_)))
  obtain ⟨x,hx⟩:∃x,N.nd[k]?=some x:=⟨_,List.getElem?_eq_getElem hk1⟩
  have hxk:N.nd[k]=x:=by rw [List.getElem?_eq_getElem hk1] at hx;injection hx
  obtain ⟨hxb,_,_⟩:=h.nn k x hx;obtain ⟨rb,rc,hre⟩:=ZcX hnr (j:=k) (by rw [List.length_range];exact hk1);have hrow:=Vp hnr hre;refine AJ (J (Zc0 hre (k) Z Z Z hk1 Tryz.underlying98 WF rfl) (J (Eh (f:=40) (e:=k) (off:=0) rfl (by omega) rfl (hrow) ((by rw [List.getElem?_map,List.getElem?_range hk1];rfl)) rfl on99 rfl) ?_));refine AD Z Z (AI (AG (AG (AJ (AC Z Z ?_)))))
  first | refine J (B1 Z Z) ?_ | refine J (BY Z Z) ?_ | refine J (B2 Z Z) ?_ | refine J (BZ Z Z) ?_
  first | refine J (AO rfl L6 Z Z Z) ?_ | refine J (AQ rfl L6 Z Z Z) ?_ | refine J (AR rfl L6 Z Z Z) ?_ | refine J (AP rfl L6 Z Z Z) ?_ | refine J (AN rfl L6 Z Z Z) ?_
  refine J (He (f:=40) Z Z (hxb) rfl on4 rfl) ?_
  first | refine J (G9 Z Z) ?_ | refine J (GJ Z Z) ?_
  refine AI ?_
  first | refine BP rfl (fun h25=>?_) (fun h25=>?_) | refine BK rfl (fun h25=>?_) (fun h25=>?_)
  ·have hnone:ndX N x=none:=by unfold ndX;rw [if_neg (by simpa using h25)]
   refine Ct ?_
   try have hnone:ndX N x=none:=by unfold ndX;split<;>first | exact hin | rfl
   refine AJ (J (By Z Z (Ad (k+1) (by omega)) rfl) (AC Z Z (AI ?_)));exact ⟨k+1,⟨by show k+1≤_;omega,by rw [List.take_succ_eq_append_getElem hk1];intro e he;rcases List.mem_append.1 he with he | he;exact hkb e he;rw [List.mem_singleton.1 he,hxk];exact hnone⟩,by show N.nd.length - (k+1)<N.nd.length - k;omega,BS hF [1,2,40,50,51] rfl (rfl) ⟨rfl,rfl,rfl,rfl,rfl,rfl,trivial⟩⟩
  ·refine An (AG (AJ (AC Z Z (AC Z Z (G (IL (hina k x hx) rfl [40,50,51] ⟨rfl,rfl,rfl,trivial⟩ Z Z Z Z Z Z Z Z Z) (AC Z Z ?_))))))
   first | refine J (BU Z Z Z) ?_ | refine J (BV Z Z Z) ?_
   first | refine J (BU Z Z Z) ?_ | refine J (BV Z Z Z) ?_
   refine G (DT 3 IM Z Z Z Z) (G (CC Z Z Z Z Z Z Z JQ) (AD Z Z (AI (AG (AJ ?_)))))
   cases hin:F1 N x
   ·refine AC Z Z (AI (F4 rfl (rfl) (An ?_)))
    try have hnone:ndX N x=none:=by unfold ndX;split<;>first | exact hin | rfl
    refine AJ (J (By Z Z (Ad (k+1) (by omega)) rfl) (AC Z Z (AI ?_)));exact ⟨k+1,⟨by show k+1≤_;omega,by rw [List.take_succ_eq_append_getElem hk1];intro e he;rcases List.mem_append.1 he with he | he;exact hkb e he;rw [List.mem_singleton.1 he,hxk];exact hnone⟩,by show N.nd.length - (k+1)<N.nd.length - k;omega,BS hF [1,2,40,50,51] rfl (rfl) ⟨rfl,rfl,rfl,rfl,rfl,rfl,trivial⟩⟩
   ·refine AC Z Z (AI (EL rfl (rfl) (AG (AJ ?_))))
    first | refine J (At Z Z Nn rfl) ?_ | refine J (Au Z Z Nn Z Z Z) ?_ | refine J (Av Z Z (rfl) rfl Nn rfl) ?_
    refine G (CC Z Z Z Z Z Z Z JQ) (G (CC Z Z Z Z Z Z Z sz4) (AI (Af ?_)));exact ⟨_,[40,50,51],_,Ae rfl,rfl,rfl,by unfold C9;rw [HU hk1 hkb (by rw [hxk];unfold ndX;rw [if_pos (by simpa using h25)];exact hin)];rfl,rfl⟩
 ·refine Ct (AG (AG ?_));have hnn:N.nd.findSome? (ndX N)=none:=HT (by have e:k=N.nd.length:=(by have h:=h18;omega);rw [e,List.take_length] at hkb;exact hkb);refine AJ (AC Z Z ?_)
  first | refine J (B1 Z Z) ?_ | refine J (BY Z Z) ?_ | refine J (B2 Z Z) ?_ | refine J (BZ Z Z) ?_
  first | refine J (AO rfl JJ Z Z Z) ?_ | refine J (AQ rfl JJ Z Z Z) ?_ | refine J (AR rfl JJ Z Z Z) ?_ | refine J (AP rfl JJ Z Z Z) ?_ | refine J (AN rfl JJ Z Z Z) ?_
  refine J (He (f:=40) Z Z (hwb) rfl Tm rfl) (J (DO hpz rfl Tryz.underlying100 rfl) (AC Z Z (AI (Aw (EN (α:=Nat) (fun j=>⟨74,[(2,(.ptr 1 0 0)),(3,(.ptr 2 0 0)),(38,(.d (hdr N.mh N.po.length))),(39,(.d (AF (N.po.length:Int)))),(40,(.d (AF (j:Int))))],(1,[excB exc0])::(2,[.blk 4 [.d (B5 false)]])::HW mv bs L M⟩) (fun j=>j≤N.po.length∧∀y∈N.po.take j,Rl N y=none) (fun j=>N.po.length - j) (0) (⟨Nat.zero_le _,by simp⟩) (BS hF [1,2,40,50,51] Z Z ⟨rfl,rfl,rfl,rfl,rfl,trivial⟩) ?_)))));rintro j ⟨hj0,hjb⟩;refine AG (AJ ?_)
  first | refine J (Cc Z Z Z) ?_ | refine J (Cb Z Z Z) ?_
  refine AI (AG ?_)
  first | refine BP rfl (fun h41=>?_) (fun h41=>?_) | refine BK rfl (fun h41=>?_) (fun h41=>?_)
  ·have hj1:j<N.po.length:=EF h41;refine An (AG (Aw (AG ?_)))
   obtain ⟨y,hy⟩:∃y,N.po[j]?=some y:=⟨_,List.getElem?_eq_getElem hj1⟩
   have hyk:N.po[j]=y:=by rw [List.getElem?_eq_getElem hj1] at hy;injection hy
   have hym:=List.mem_of_getElem? hy;obtain ⟨hyb,hyq⟩:=h.pp j y hy;obtain ⟨rb,rc,hre⟩:=ZcX hpr (j:=j) (by rw [List.length_range];exact hj1);have hrow:=Vp hpr hre;have hys:=hs y hym;have hov:=Q6 h hy y.sum (hw.rm y hym) (by omega);have hql:=hw.ql y hym;refine AJ (J (Zc0 hre (j) Z Z Z hj1 Tryz.underlying100 WI rfl) (J (Eh (f:=40) (e:=j) (off:=0) rfl (by omega) rfl (hrow) ((by rw [List.getElem?_map,List.getElem?_range hj1];rfl)) rfl B3 rfl) ?_));refine G (DT 4 zl109 Z Z Z Z) (G (CC Z Z Z Z Z Z Z WI) (AI (AG (AG (Gs [[],[],[1],[1,2],[1,2,3],[0,1,2,3,4],[0,1,2,3,4,5]] BF rfl (IK ?_))))))
   first | refine AE [9] [4] Z Z (fun _=>AB (A0 Z Z B3 rfl)) ?_ | refine AE [9] [4] Z Z (fun _=>AB (AX Z Z Z B3 rfl)) ?_ | refine AE [9] [4] Z Z (fun _=>AB (AZ Z Z (rfl) rfl B3 rfl)) ?_
   first | refine AE [9] [4] Z Z (fun _=>AB (A0 Z Z B3 rfl)) ?_ | refine AE [9] [4] Z Z (fun _=>AB (AX Z Z Z B3 rfl)) ?_ | refine AE [9] [4] Z Z (fun _=>AB (AZ Z Z (rfl) rfl B3 rfl)) ?_
   first | refine AE [45] [] Z Z (fun _=>AB (B1 Z Z)) ?_ | refine AH [45] Z Z (fun _=>AB (B1 Z Z)) ?_ | refine AE [45] [] Z Z (fun _=>AB (BY Z Z)) ?_ | refine AH [45] Z Z (fun _=>AB (BY Z Z)) ?_ | refine AE [45] [] Z Z (fun _=>AB (B2 Z Z)) ?_ | refine AH [45] Z Z (fun _=>AB (B2 Z Z)) ?_ | refine AE [45] [] Z Z (fun _=>AB (BZ Z Z)) ?_ | refine AH [45] Z Z (fun _=>AB (BZ Z Z)) ?_
   first | refine AE [46] [] Z Z (fun _=>AB (AO rfl Ha Z Z Z)) ?_ | refine AH [46] Z Z (fun _=>AB (AO rfl Ha Z Z Z)) ?_ | refine AE [46] [] Z Z (fun _=>AB (AQ rfl Ha Z Z Z)) ?_ | refine AH [46] Z Z (fun _=>AB (AQ rfl Ha Z Z Z)) ?_ | refine AE [46] [] Z Z (fun _=>AB (AR rfl Ha Z Z Z)) ?_ | refine AH [46] Z Z (fun _=>AB (AR rfl Ha Z Z Z)) ?_ | refine AE [46] [] Z Z (fun _=>AB (AP rfl Ha Z Z Z)) ?_ | refine AH [46] Z Z (fun _=>AB (AP rfl Ha Z Z Z)) ?_ | refine AE [46] [] Z Z (fun _=>AB (AN rfl Ha Z Z Z)) ?_ | refine AH [46] Z Z (fun _=>AB (AN rfl Ha Z Z Z)) ?_
   refine AE [47] [40] Z Z (fun _=>AB (He (f:=40) Z Z (hyb) rfl Be rfl)) (Gf 5 Z Z Z (BE 6 Z Z (G (IL hov rfl [40] ⟨rfl,trivial⟩ Z Z Z Z Z Z Z Z Z) (AI ⟨rfl,?_⟩))));refine BE 7 Z Z ?_
   cases hovy:ovP y y.sum
   ·first | refine J (G9 Z Z) ?_ | refine J (GJ Z Z) ?_
    refine AI ⟨rfl,?_⟩;refine Ge (EL rfl (rfl) (Ct ?_));have hpnone:Rl N y=none:=by unfold Rl;first | (rw [if_neg (by rw [hovy];decide)]) | (rw [if_pos hovy,←ho];rfl)
    refine AJ (J (By Z Z (Ad (j+1) (by omega)) rfl) (AC Z Z (AI ?_)));exact ⟨j+1,⟨by show j+1≤_;omega,by rw [List.take_succ_eq_append_getElem hj1];intro e he;rcases List.mem_append.1 he with he | he;exact hjb e he;rw [List.mem_singleton.1 he,hyk];exact hpnone⟩,by show N.po.length - (j+1)<N.po.length - j;omega,BS hF [1,2,40,50,51] rfl (rfl) ⟨rfl,rfl,rfl,rfl,rfl,trivial⟩⟩
   ·first | refine J (G9 Z Z) ?_ | refine J (GJ Z Z) ?_
    refine AI ⟨rfl,?_⟩;refine Ge (F4 rfl (rfl) (An (AG (AJ ?_))))
    first | refine J (A0 Z Z B3 rfl) ?_ | refine J (AX Z Z Z B3 rfl) ?_ | refine J (AZ Z Z (rfl) rfl B3 rfl) ?_
    first | refine J (B1 Z Z) ?_ | refine J (BY Z Z) ?_ | refine J (B2 Z Z) ?_ | refine J (BZ Z Z) ?_
    first | refine J (AO rfl GL Z Z Z) ?_ | refine J (AQ rfl GL Z Z Z) ?_ | refine J (AR rfl GL Z Z Z) ?_ | refine J (AP rfl GL Z Z Z) ?_ | refine J (AN rfl GL Z Z Z) ?_
    refine J (He (f:=40) Z Z (hyb) rfl IH rfl) (G (IL (backF_c y.qh y.q.length) rfl [] trivial Z Z Z Z Z Z Z Z Z) (AI (Aw ?_)));refine NF [2,3,9,38,39,40,55] rfl ?_;refine KE (γ:=Option Nat) hFl 900 Z Z Z Z Z [1,2,4,40,50,51] (CHr:=hBk N y (pb j) mv bs L M none) (fun o=>o=y.q.reverse.find? (onN N)) (fun o=>hBk N y (pb j) mv bs L M o) (fun o=>stRO o.isSome) (fun o=>pdRO o.isSome) ⟨rfl,rfl,rfl,rfl,rfl,rfl,trivial⟩ Z Z Z (fun _=>rfl) (fun _=>rfl) rfl (fun o _=>by cases o<;>simp [stRO]) (fun _ _=>⟨rfl,rfl⟩) [1,2,4,40,50,51] hF Z Z (fun _ _=>rfl) (fun l A B hA hB=>?_) (fun o ho=>?_)
    ·refine (back1_c nb y.q (by omega) hyq l (fun o:Option Nat=>(900,[.loop ⟨l,74,[(2,.ptr 1 0 0),(3,.ptr 2 0 0),(9,.ptr 4 0 0),(38,.d (hdr N.mh N.po.length)),(39,.d (AF (N.po.length:Int))),(40,.d (AF (j:Int))),(55,.fn Xr [.d (.ptr (hdr y.qh y.q.length))])],stRO o.isSome,pdRO o.isSome, #[56,57],A,B⟩])::hBk N y (pb j) mv bs L M o) [900,1,2,4,40,50,51] (HB N) none (fun _=>rfl) (fun _=>rfl) (fun _=>rfl) (fun _=>rfl) ?_).mono (fun r H' ⟨e1,e2⟩=>⟨e1,_,rfl,by rw [e2,Xo N y.q y.q.length (Nat.le_refl _),List.take_length]⟩);refine UF N y.q (fun k2 hk2=>?_) y.q.length (Nat.le_refl _);have hni:y.q[k2]<N.nd.length:=h.q y hym _ (List.getElem_mem hk2)
     obtain ⟨x,hx⟩:∃x,N.nd[y.q[k2]]?=some x:=⟨_,List.getElem?_eq_getElem hni⟩
     obtain ⟨hxb,_,_⟩:=h.nn _ x hx;have hgx:N.nd.getD y.q[k2] Bo=x:=by rw [List.getD_eq_getElem?_getD,hx];rfl
     have hon:onN N y.q[k2]=x.on:=by unfold onN;rw [hgx]
     refine Gv (lf:=900) Z Z Z Z fun F hF hr=>(Bm.code hA (AJ (AD Z Z (AI (⟨rfl,_,_,rfl,rfl,rfl,rfl,?_⟩)))));refine Bm.code hB (Aw (AG (AJ (AC Z Z ?_))))
     first | refine J (B1 Z Z) ?_ | refine J (BY Z Z) ?_ | refine J (B2 Z Z) ?_ | refine J (BZ Z Z) ?_
     first | refine J (AO rfl L6 Z Z Z) ?_ | refine J (AQ rfl L6 Z Z Z) ?_ | refine J (AR rfl L6 Z Z Z) ?_ | refine J (AP rfl L6 Z Z Z) ?_ | refine J (AN rfl L6 Z Z Z) ?_
     refine J (He (f:=40) Z Z (hxb) rfl on4 rfl) (AI ?_)
     first | refine BP rfl (fun h61=>?_) (fun h61=>?_) | refine BK rfl (fun h61=>?_) (fun h61=>?_)
     ·refine AG (Gs [[],[0],[0,1],[0,1,2],[0,1,2,3],[],[5],[5,6],[5,6,7],[0,1,2,3,4,5,6,7,8],[0,1,2,3,4,5,6,7,8,9],[0,1,2,3,4,5,6,7,8,9,10]] BF rfl (IK ?_))
      first | refine AE [11] [] Z Z (fun _=>AB (Bb Z Z)) ?_ | refine AH [11] Z Z (fun _=>AB (Bb Z Z)) ?_
      first | refine AE [62] [] Z Z (fun _=>AB (B1 Z Z)) ?_ | refine AH [62] Z Z (fun _=>AB (B1 Z Z)) ?_ | refine AE [62] [] Z Z (fun _=>AB (BY Z Z)) ?_ | refine AH [62] Z Z (fun _=>AB (BY Z Z)) ?_ | refine AE [62] [] Z Z (fun _=>AB (B2 Z Z)) ?_ | refine AH [62] Z Z (fun _=>AB (B2 Z Z)) ?_ | refine AE [62] [] Z Z (fun _=>AB (BZ Z Z)) ?_ | refine AH [62] Z Z (fun _=>AB (BZ Z Z)) ?_
      first | refine AE [63] [] Z Z (fun _=>AB (AO rfl FK Z Z Z)) ?_ | refine AH [63] Z Z (fun _=>AB (AO rfl FK Z Z Z)) ?_ | refine AE [63] [] Z Z (fun _=>AB (AQ rfl FK Z Z Z)) ?_ | refine AH [63] Z Z (fun _=>AB (AQ rfl FK Z Z Z)) ?_ | refine AE [63] [] Z Z (fun _=>AB (AR rfl FK Z Z Z)) ?_ | refine AH [63] Z Z (fun _=>AB (AR rfl FK Z Z Z)) ?_ | refine AE [63] [] Z Z (fun _=>AB (AP rfl FK Z Z Z)) ?_ | refine AH [63] Z Z (fun _=>AB (AP rfl FK Z Z Z)) ?_ | refine AE [63] [] Z Z (fun _=>AB (AN rfl FK Z Z Z)) ?_ | refine AH [63] Z Z (fun _=>AB (AN rfl FK Z Z Z)) ?_
      first | refine AE [64] [] Z Z (fun _=>AB (AO rfl Bq Z Z Z)) ?_ | refine AH [64] Z Z (fun _=>AB (AO rfl Bq Z Z Z)) ?_ | refine AE [64] [] Z Z (fun _=>AB (AQ rfl Bq Z Z Z)) ?_ | refine AH [64] Z Z (fun _=>AB (AQ rfl Bq Z Z Z)) ?_ | refine AE [64] [] Z Z (fun _=>AB (AR rfl Bq Z Z Z)) ?_ | refine AH [64] Z Z (fun _=>AB (AR rfl Bq Z Z Z)) ?_ | refine AE [64] [] Z Z (fun _=>AB (AP rfl Bq Z Z Z)) ?_ | refine AH [64] Z Z (fun _=>AB (AP rfl Bq Z Z Z)) ?_ | refine AE [64] [] Z Z (fun _=>AB (AN rfl Bq Z Z Z)) ?_ | refine AH [64] Z Z (fun _=>AB (AN rfl Bq Z Z Z)) ?_
      refine AE [65] [40] Z Z (fun _=>AB (He (f:=40) Z Z (hxb) rfl Aa rfl)) ?_
      first | refine AE [9] [4] Z Z (fun _=>AB (A0 Z Z B3 rfl)) ?_ | refine AE [9] [4] Z Z (fun _=>AB (AX Z Z Z B3 rfl)) ?_ | refine AE [9] [4] Z Z (fun _=>AB (AZ Z Z (rfl) rfl B3 rfl)) ?_
      first | refine AE [67] [] Z Z (fun _=>AB (B1 Z Z)) ?_ | refine AH [67] Z Z (fun _=>AB (B1 Z Z)) ?_ | refine AE [67] [] Z Z (fun _=>AB (BY Z Z)) ?_ | refine AH [67] Z Z (fun _=>AB (BY Z Z)) ?_ | refine AE [67] [] Z Z (fun _=>AB (B2 Z Z)) ?_ | refine AH [67] Z Z (fun _=>AB (B2 Z Z)) ?_ | refine AE [67] [] Z Z (fun _=>AB (BZ Z Z)) ?_ | refine AH [67] Z Z (fun _=>AB (BZ Z Z)) ?_
      first | refine AE [68] [] Z Z (fun _=>AB (AO rfl GK Z Z Z)) ?_ | refine AH [68] Z Z (fun _=>AB (AO rfl GK Z Z Z)) ?_ | refine AE [68] [] Z Z (fun _=>AB (AQ rfl GK Z Z Z)) ?_ | refine AH [68] Z Z (fun _=>AB (AQ rfl GK Z Z Z)) ?_ | refine AE [68] [] Z Z (fun _=>AB (AR rfl GK Z Z Z)) ?_ | refine AH [68] Z Z (fun _=>AB (AR rfl GK Z Z Z)) ?_ | refine AE [68] [] Z Z (fun _=>AB (AP rfl GK Z Z Z)) ?_ | refine AH [68] Z Z (fun _=>AB (AP rfl GK Z Z Z)) ?_ | refine AE [68] [] Z Z (fun _=>AB (AN rfl GK Z Z Z)) ?_ | refine AH [68] Z Z (fun _=>AB (AN rfl GK Z Z Z)) ?_
      refine AE [69] [40] Z Z (fun _=>AB (Nj (f:=40) Z Z (hyb) Ah Z Z (by simp [D.one]) rfl)) (Gf 9 Z Z Z (BE 10 Z Z (J (DC IM Q0 Z Z Z) (AI ⟨rfl,?_⟩))));refine BE 11 Z Z (G (CC Z Z Z Z Z Z Z JQ) (AI ⟨rfl,?_⟩));refine BE 12 Z Z (G (CC Z Z Z Z Z Z Z sz4) (AI ⟨rfl,?_⟩));refine Ge (Af ?_);have ho1:onN N y.q[k2]=true:=by rw [hon];simpa using h61
      exact ⟨some .ret,_,_,[900,1,2,4,40,50,51],_,rfl,rfl,rfl,rfl,rfl,rfl,by rw [ho1];rfl,by rw [if_pos ho1];simp only [hBk,fndE,hgx];rfl⟩
     ·refine An ?_;have ho1:onN N y.q[k2]=false:=by rw [hon];simpa using h61
      exact ⟨none,_,_,[900,1,2,4,40,50,51],_,rfl,rfl,rfl,rfl,rfl,rfl,by rw [ho1];rfl,by rw [if_neg (by rw [ho1];decide)];rfl⟩
    ·rcases o with _ | i0
     ·have hpnone:Rl N y=none:=by unfold Rl;first | (rw [if_neg (by rw [hovy];decide)]) | (rw [if_pos hovy,←ho];rfl)
      refine AJ (J (By Z Z (Ad (j+1) (by omega)) rfl) (AC Z Z (AI ?_)));exact ⟨j+1,⟨by show j+1≤_;omega,by rw [List.take_succ_eq_append_getElem hj1];intro e he;rcases List.mem_append.1 he with he | he;exact hjb e he;rw [List.mem_singleton.1 he,hyk];exact hpnone⟩,by show N.po.length - (j+1)<N.po.length - j;omega,BS hF [1,2,40,50,51] rfl (rfl) ⟨rfl,rfl,rfl,rfl,rfl,trivial⟩⟩
     ·show Bm _ _ .ret _ _;refine Af ?_;exact ⟨_,[40,50,51],_,Ae rfl,rfl,rfl,by unfold C9;rw [hnn];dsimp only;rw [HU hj1 hjb (by rw [hyk];unfold Rl;rw [if_pos hovy,←ho];rfl)];rfl,rfl⟩
  ·refine Ct (AG (AJ (J (DC IM Q0 Z Z Z) (G (CC Z Z Z Z Z Z Z JQ) (G (CC Z Z Z Z Z Z Z sz4) (AI (Af ?_)))))));exact ⟨_,[40,50,51],_,Ae rfl,rfl,rfl,by unfold C9;rw [hnn];dsimp only;rw [HT (by have e:j=N.po.length:=(by have h:=h41;omega);rw [e,List.take_length] at hjb;exact hjb)];rfl,rfl⟩
theorem SR.splitH {F:Fr} {s:AS} {ρ:Nat ->Nat ->Value} {act:Act} {w:World} (hs:SR F s ρ act w) (t g f:Nat) {M:MF} {T:TypeId} {kk m:Nat} {h:Hd} {xs:List D} {env':List (Nat×AV)} {hp1 hp':Hp} (hne:Nat.beq g f=false)
  (ht:get s.env t=some (.d (hdr h m))) (hn:m=xs.length) (hM:hfam s.hp f=some [.multi M]) (hr:BW M h T kk xs) (hE:A8 g s.env=some env') (hH:A4 g s.hp=some hp1) (hz:hfam hp1 g=none) (hm:CG hp1 f (Bg M h)=some hp'):
  ∃v,SR F ⟨s.n,(t,.own g 0 m)::env',(g,[.rowD T kk xs])::hp'⟩ (upd ρ g 0 v) act w:=by
 match h,ht,hr,hm with
 | some (b,cap),ht,hr,hm=>exact ⟨_,hs.splitR t g f (cap:=cap) (b:=b) hne ht hn hM hr.2 hE hH hz hm⟩
 | none,ht,hr,hm=>
  have hxs:xs=[]:=hr;subst hxs hn;have hgf:g≠f:=Nat.ne_of_beq_eq_false hne;refine ⟨.slice none 0 0,?_⟩
  have hhp:hp'=hp1:=by
   have key:∀(H H':Hp),hfam H f=some [.multi M] ->CG H f M=some H' ->H'=H:=by
    intro H
    induction H with
    | nil=>intro H' h;cases h
    | cons p r ih=>
     obtain ⟨k,l⟩:=p;intro H' h1 h2;simp only [hfam] at h1;simp only [CG] at h2
     cases hk:Nat.beq k f with
     | true=>
      rw [hk] at h1 h2;injection h1 with h1
      subst h1;simp only [isM] at h2;injection h2 with h2;exact h2.symm
     | false=>
      rw [hk] at h1 h2;dsimp only at h1 h2
      cases hr:CG r f M with
      | none=>rw [hr] at h2;cases h2
      | some r'=>
       rw [hr] at h2;injection h2 with h2
       rw [←h2,ih r' h1 hr]
   obtain ⟨a1,a2⟩:=As hH
   have hM1:hfam hp1 f=some [.multi M]:=by
    have key2:∀(H H':Hp),CB (Bf g) H=some H' ->hfam H f=some [.multi M] ->hfam H' f=some [.multi M]:=by
     intro H
     induction H with
     | nil=>intro H' _ h;cases h
     | cons p r ih=>
      obtain ⟨k,l⟩:=p;intro H' h1 h2;simp only [CB] at h1
      cases hr:CB (Bf g) r with
      | none=>rw [hr] at h1;cases h1
      | some r'=>
       rw [hr] at h1
       cases hl:Cv (Bf g) l with
       | none=>rw [hl] at h1;cases h1
       | some l'=>
        rw [hl] at h1;injection h1 with h1;subst h1
        simp only [hfam] at h2⊢
        cases hk:Nat.beq k f with
        | true=>
         rw [hk] at h2;injection h2 with h2;subst h2
         simp only [Cv,CJ] at hl;injection hl with hl;rw [←hl]
        | false=>rw [hk] at h2;exact ih r' hr h2
    exact key2 _ _ hH hM
   exact key hp1 hp' hM1 hm
  rw [hhp]
  have h1:SR F ⟨s.n,(t,.d (.sl (some true) []))::s.env,s.hp⟩ ρ act w:=⟨hs.size,hs.defs,fun t' a ha=>by
   rcases KF ha with ⟨rfl,rfl⟩ | ⟨_,ha⟩
   ·have hr:=hs.env t _ ht
    generalize act.tmps.getD t undef=x at hr⊢
    cases hr with
    | d h=>cases h with
     | raw _=>exact .d (.sl 0 (fun b hb=>by cases hb;rfl) (fun _=>rfl) rfl (Nat.le_refl _) (Nat.zero_le _) (fun x hx=>by cases hx) (fun h=>absurd rfl h) (fun b o hb=>by cases hb))
   ·exact hs.env t' a ha,hs.heap⟩
  obtain ⟨k1,k2⟩:=As hH
  have hz':∀i,hget s.hp g i=none:=fun i=>by
   cases hq:hget s.hp g i with
   | none=>rfl
   | some o=>
    obtain ⟨o2,q1,_⟩:=k2 _ _ _ hq;unfold hget at q1;rw [hz] at q1;cases q1
  have h2:=hs.set g 0 (.rowD T kk []) (.slice none 0 0) (hp':=(g,[.rowD T kk []])::hp1) hE hH (fun f' i=>by
   by_cases e:g=f'
   ·subst e;simp only [hget,hfam,Nat.beq_refl,Option.bind_some,true_and,Kc (o:= .rowD T kk []) rfl,hz,Option.bind_none]
    cases i<;>simp
   ·simp only [hget,hfam,EM e]
    rw [if_neg (fun hh=>e hh.1.symm)]) (fun t cs e=>by rw [hz'] at e;cases e) (fun b hb=>by cases hb) rfl rfl rfl (Nat.le_refl _) (fun _ _ _=>rfl) (fun _=>⟨[],World.ownsRow_nil w 0 T kk,⟨by simp,by simp,fun i x hx=>by simp at hx⟩,by simp⟩)
  refine ⟨h2.size,h2.defs,fun t' a ha=>?_,h2.heap⟩;rcases KF ha with ⟨rfl,rfl⟩ | ⟨_,ha⟩
  ·have hr:=hs.env t _ ht
   generalize act.tmps.getD t undef=x at hr⊢
   cases hr with
   | d h=>cases h with | raw _=>exact .own Pm (Nat.le_refl _)
  ·exact h2.env t' a ha
section
variable {P:Program} {F:Fr} {Q:Exit ->AS ->Prop} {c:Code} {ops:Array Oper} {l:List Oper} {n:Nat} {env env1 env':List (Nat×AV)} {hp hp1 hp2 hp3:Hp}
theorem JX {o:Oper} (t g f:Nat) {M:MF} {T:TypeId} {kk m:Nat} {h:Hd} {xs:List D} {hp':Hp} {s2:AS} (hr:BW M h T kk xs) (hne:Nat.beq g f=false) (ht:get env t=some (.d (hdr h m))) (hn:m=xs.length) (hM:hfam hp f=some [.multi M]) (hE:A8 g env=some env') (hH:A4 g hp=some hp1) (hz:hfam hp1 g=none) (hm:CG hp1 f (Bg M h)=some hp')
  (h2:AM P F o ⟨n,(t,.own g 0 m)::env',(g,[.rowD T kk xs])::hp'⟩ s2 (Bf g)):AM P F o ⟨n,env,hp⟩ s2 (Bf g):=fun ρ act w hs=>by
 obtain ⟨v,h1⟩:=hs.splitH t g f hne ht hn hM hr hE hH hz hm;exact ZcZ (fun a w' ⟨ρ',h3,h4⟩=>⟨ρ',h3,fun f i hfi=>(h4 f i hfi).trans (NL fun e=>TE hfi e.1)⟩) (h2 _ act w h1)
end
theorem Cm.row {wb mv:Nat} {nb pb:Nat ->Nat} {N N':Net} {M:MF} (h:Cm wb mv nb pb N M) (r0:RI) {w0 w1:RowM} (e0:CP nb pb N r0=w0) (e1:CP nb pb N' r0=w1) (hR:∀r,r≠r0 ->CP nb pb N' r=CP nb pb N r) {b cap:Nat} (hb:Bg M w0.h b=none) (h0:w1.h=some (b,cap)) (hl:w1.xs.length≤cap):
  FH (Cg (Bg M w0.h) b (.row w1.t w1.k cap w1.xs)) (CP nb pb N')∧∀(b':Nat) (t:TypeId) (cs:List D),M b'=some (.cells t cs) ->Cg (Bg M w0.h) b (.row w1.t w1.k cap w1.xs) b'=some (.cells t cs):=by
 subst e0 e1;refine ⟨h.rs.upd r0 hR hb h0 hl,fun b' t cs hm=>keepM hb hm fun c hc=>?_⟩;have:=h.rs.blk hc;rw [hm] at this;cases this
theorem Cm.putNd {wb mv:Nat} {nb pb:Nat ->Nat} {N:Net} {M M1:MF} (h:Cm wb mv nb pb N M) {i:Nat} {x x':Nd} (hx:N.nd[i]?=some x) (hc:∀(b':Nat) (t:TypeId) (cs:List D),M b'=some (.cells t cs) ->M1 b'=some (.cells t cs)) (hr:FH M1 (CP nb pb {N with nd:=N.nd.set i x'})) (he:(∀e∈x'.ef,e.1<N.po.length)∧∀e∈x'.pl,e.1<N.po.length):
  Cm wb mv nb pb {N with nd:=N.nd.set i x'} (Cg M1 (nb i) (Sa x')):=by
 have hb:=h.n i x hx;have hil:=(List.getElem?_eq_some_iff.1 hx).1
 have hne:∀(b:Nat) (t:TypeId) (cs:List D),t≠107 ->M b=some (.cells t cs) ->Cg M1 (nb i) (Sa x') b=some (.cells t cs):=fun b t cs ht hm=>by
  rw [Od]
  ·exact hc _ _ _ hm
  ·rintro rfl;rw [hb] at hm;injection hm with hm;injection hm with hm;exact ht hm.symm
 refine ⟨fun j z hz=>?_,fun j y hy=>hne _ _ _ (by decide) (h.p j y hy),hr.cells (hc _ _ _ hb),?_,fun j k hj hk=>h.ni j k (by simpa using hj) (by simpa using hk),h.pi,fun z hz=>?_,fun y hy=>?_⟩
 ·have hz2:(N.nd.set i x')[j]?=some z:=hz
  clear hz
  have hjl:j<N.nd.length:=by have:=(List.getElem?_eq_some_iff.1 hz2).1;rw [List.length_set] at this;exact this
  rw [List.getElem?_set] at hz2
  split at hz2
  ·rename_i e;subst e
   have e2:z=x':=by first | exact (Option.some.inj hz2).symm | (rw [if_pos hil] at hz2;exact (Option.some.inj hz2).symm)
   rw [e2];exact Pt _ _ _
  ·rename_i e
   rw [Od]
   ·exact hc _ _ _ (h.n j z hz2)
   ·intro e2;exact e (h.ni j i hjl hil e2).symm
 ·show Cg M1 (nb i) (Sa x') wb=some (.cells _ [hdr N.nh (N.nd.set i x').length,hdr N.mh N.po.length,_]);rw [List.length_set];exact hne _ _ _ (by decide) h.w
 ·rcases List.mem_or_eq_of_mem_set hz with hz | rfl
  ·exact h.e z hz
  ·exact he
 ·have:=h.q y hy
  simpa using this
theorem Cm.putPo {wb mv:Nat} {nb pb:Nat ->Nat} {N:Net} {M M1:MF} (h:Cm wb mv nb pb N M) {j:Nat} {y y':Po} (hy:N.po[j]?=some y) (hc:∀(b':Nat) (t:TypeId) (cs:List D),M b'=some (.cells t cs) ->M1 b'=some (.cells t cs)) (hr:FH M1 (CP nb pb {N with po:=N.po.set j y'})) (hq:∀i∈y'.q,i<N.nd.length):
  Cm wb mv nb pb {N with po:=N.po.set j y'} (Cg M1 (pb j) (S1 y')):=by
 have hb:=h.p j y hy;have hjl:=(List.getElem?_eq_some_iff.1 hy).1
 have hne:∀(b:Nat) (t:TypeId) (cs:List D),t≠113 ->M b=some (.cells t cs) ->Cg M1 (pb j) (S1 y') b=some (.cells t cs):=fun b t cs ht hm=>by
  rw [Od]
  ·exact hc _ _ _ hm
  ·rintro rfl;rw [hb] at hm;injection hm with hm;injection hm with hm;exact ht hm.symm
 refine ⟨fun i x hx=>hne _ _ _ (by decide) (h.n i x hx),fun i z hz=>?_,hr.cells (hc _ _ _ hb),?_,h.ni,fun i k hi hk=>h.pi i k (by simpa using hi) (by simpa using hk),fun x hx=>?_,fun z hz=>?_⟩
 ·have hz2:(N.po.set j y')[i]?=some z:=hz
  clear hz
  have hil:i<N.po.length:=by have:=(List.getElem?_eq_some_iff.1 hz2).1;rw [List.length_set] at this;exact this
  rw [List.getElem?_set] at hz2
  split at hz2
  ·rename_i e;subst e
   have e2:z=y':=by first | exact (Option.some.inj hz2).symm | (rw [if_pos hjl] at hz2;exact (Option.some.inj hz2).symm)
   rw [e2];exact Pt _ _ _
  ·rename_i e
   rw [Od]
   ·exact hc _ _ _ (h.p i z hz2)
   ·intro e2;exact e (h.pi i j hil hjl e2).symm
 ·show Cg M1 (pb j) (S1 y') wb=some (.cells _ [hdr N.nh N.nd.length,hdr N.mh (N.po.set j y').length,_]);rw [List.length_set];exact hne _ _ _ (by decide) h.w
 ·have:=h.e x hx
  simpa using this
 ·rcases List.mem_or_eq_of_mem_set hz with hz | rfl
  ·exact h.q z hz
  ·exact hq
abbrev effT:TypeId:=111
abbrev plaT:TypeId:=167
abbrev pnT:TypeId:=99
abbrev Te:TypeId:=109
def FG (x:Nd) (b cap:Nat) (e:Nat×Int):Nd:={x with eh:=some (b,cap),ef:=x.ef++ [e]}
def H9 (x:Nd) (b cap:Nat) (e:Nat×Nat):Nd:={x with ph:=some (b,cap),pl:=x.pl++ [e]}
def KD (y:Po) (b cap:Nat) (i:Nat):Po:={y with qh:=some (b,cap),q:=y.q++ [i]}
theorem Cm.addE {wb mv:Nat} {nb pb:Nat ->Nat} {N:Net} {M:MF} (h:Cm wb mv nb pb N M) {i:Nat} {x:Nd} (hx:N.nd[i]?=some x) (e:Nat×Int) (he:e.1<N.po.length) {b cap:Nat} (hb:Bg M x.eh b=none) (hl:((x.ef++ [e]).map (efD pb)).length≤cap):
  Cm wb mv nb pb {N with nd:=N.nd.set i (FG x b cap e)} (Cg (Cg (Bg M x.eh) b (.row effT 2 cap ((x.ef++ [e]).map (efD pb)))) (nb i) (Sa (FG x b cap e))):=by
 have hil:=(List.getElem?_eq_some_iff.1 hx).1
 obtain ⟨h1,h2⟩:=h.row (N':={N with nd:=N.nd.set i (FG x b cap e)}) (.e i) (w0:=⟨x.eh,effT,2,x.ef.map (efD pb)⟩) (w1:=⟨some (b,cap),effT,2,(x.ef++ [e]).map (efD pb)⟩)
  (by show (⟨(N.nd.getD i Bo).eh,_,_,(N.nd.getD i Bo).ef.map _⟩:RowM)=_;rw [F2 hx])
  (by show (⟨((N.nd.set i (FG x b cap e)).getD i Bo).eh,_,_,((N.nd.set i (FG x b cap e)).getD i Bo).ef.map _⟩:RowM)=_;rw [YZ hil,if_pos rfl];rfl)
  (fun r hr=>by
   cases r with
   | q j=>rfl
   | m=>rfl
   | n=>show (⟨_,_,_,(List.range (N.nd.set i (FG x b cap e)).length).map _⟩:RowM)=_;rw [List.length_set];rfl
   | e k=>
    show (⟨((N.nd.set i (FG x b cap e)).getD k Bo).eh,_,_,((N.nd.set i (FG x b cap e)).getD k Bo).ef.map _⟩:RowM)=⟨(N.nd.getD k Bo).eh,_,_,(N.nd.getD k Bo).ef.map _⟩
    rw [YZ hil,if_neg (fun e=>hr (by rw [e]))]
   | p k=>
    show (⟨((N.nd.set i (FG x b cap e)).getD k Bo).ph,_,_,((N.nd.set i (FG x b cap e)).getD k Bo).pl.map _⟩:RowM)=⟨(N.nd.getD k Bo).ph,_,_,(N.nd.getD k Bo).pl.map _⟩
    rw [YZ hil,Fx hx k Bo]
    split<;>rfl) hb rfl hl
 refine h.putNd hx h2 h1 ⟨fun z hz=>?_,(h.e x (List.mem_of_getElem? hx)).2⟩;rcases List.mem_append.1 hz with hz | hz
 ·exact (h.e x (List.mem_of_getElem? hx)).1 z hz
 ·rw [List.mem_singleton.1 hz];exact he
theorem Cm.addP {wb mv:Nat} {nb pb:Nat ->Nat} {N:Net} {M:MF} (h:Cm wb mv nb pb N M) {i:Nat} {x:Nd} (hx:N.nd[i]?=some x) (e:Nat×Nat) (he:e.1<N.po.length) {b cap:Nat} (hb:Bg M x.ph b=none) (hl:((x.pl++ [e]).map (plD pb)).length≤cap):
  Cm wb mv nb pb {N with nd:=N.nd.set i (H9 x b cap e)} (Cg (Cg (Bg M x.ph) b (.row plaT 2 cap ((x.pl++ [e]).map (plD pb)))) (nb i) (Sa (H9 x b cap e))):=by
 have hil:=(List.getElem?_eq_some_iff.1 hx).1
 obtain ⟨h1,h2⟩:=h.row (N':={N with nd:=N.nd.set i (H9 x b cap e)}) (.p i) (w0:=⟨x.ph,plaT,2,x.pl.map (plD pb)⟩) (w1:=⟨some (b,cap),plaT,2,(x.pl++ [e]).map (plD pb)⟩)
  (by show (⟨(N.nd.getD i Bo).ph,_,_,(N.nd.getD i Bo).pl.map _⟩:RowM)=_;rw [F2 hx])
  (by show (⟨((N.nd.set i (H9 x b cap e)).getD i Bo).ph,_,_,((N.nd.set i (H9 x b cap e)).getD i Bo).pl.map _⟩:RowM)=_;rw [YZ hil,if_pos rfl];rfl)
  (fun r hr=>by
   cases r with
   | q j=>rfl
   | m=>rfl
   | n=>show (⟨_,_,_,(List.range (N.nd.set i (H9 x b cap e)).length).map _⟩:RowM)=_;rw [List.length_set];rfl
   | p k=>
    show (⟨((N.nd.set i (H9 x b cap e)).getD k Bo).ph,_,_,((N.nd.set i (H9 x b cap e)).getD k Bo).pl.map _⟩:RowM)=⟨(N.nd.getD k Bo).ph,_,_,(N.nd.getD k Bo).pl.map _⟩
    rw [YZ hil,if_neg (fun e=>hr (by rw [e]))]
   | e k=>
    show (⟨((N.nd.set i (H9 x b cap e)).getD k Bo).eh,_,_,((N.nd.set i (H9 x b cap e)).getD k Bo).ef.map _⟩:RowM)=⟨(N.nd.getD k Bo).eh,_,_,(N.nd.getD k Bo).ef.map _⟩
    rw [YZ hil,Fx hx k Bo]
    split<;>rfl) hb rfl hl
 refine h.putNd hx h2 h1 ⟨(h.e x (List.mem_of_getElem? hx)).1,fun z hz=>?_⟩;rcases List.mem_append.1 hz with hz | hz
 ·exact (h.e x (List.mem_of_getElem? hx)).2 z hz
 ·rw [List.mem_singleton.1 hz];exact he
theorem Cm.addQ {wb mv:Nat} {nb pb:Nat ->Nat} {N:Net} {M:MF} (h:Cm wb mv nb pb N M) {j:Nat} {y:Po} (hy:N.po[j]?=some y) {i:Nat} (hi:i<N.nd.length) {b cap:Nat} (hb:Bg M y.qh b=none) (hl:((y.q++ [i]).map fun i=>BQ (nb i)).length≤cap):
  Cm wb mv nb pb {N with po:=N.po.set j (KD y b cap i)} (Cg (Cg (Bg M y.qh) b (.row pnT 1 cap ((y.q++ [i]).map fun i=>BQ (nb i)))) (pb j) (S1 (KD y b cap i))):=by
 have hjl:=(List.getElem?_eq_some_iff.1 hy).1
 obtain ⟨h1,h2⟩:=h.row (N':={N with po:=N.po.set j (KD y b cap i)}) (.q j) (w0:=⟨y.qh,pnT,1,y.q.map fun i=>BQ (nb i)⟩) (w1:=⟨some (b,cap),pnT,1,(y.q++ [i]).map fun i=>BQ (nb i)⟩)
  (by show (⟨(N.po.getD j Cy).qh,_,_,(N.po.getD j Cy).q.map _⟩:RowM)=_;rw [F2 hy])
  (by show (⟨((N.po.set j (KD y b cap i)).getD j Cy).qh,_,_,((N.po.set j (KD y b cap i)).getD j Cy).q.map _⟩:RowM)=_;rw [YZ hjl,if_pos rfl];rfl)
  (fun r hr=>by
   cases r with
   | e k=>rfl
   | p k=>rfl
   | n=>rfl
   | m=>show (⟨_,_,_,(List.range (N.po.set j (KD y b cap i)).length).map _⟩:RowM)=_;rw [List.length_set];rfl
   | q k=>
    show (⟨((N.po.set j (KD y b cap i)).getD k Cy).qh,_,_,((N.po.set j (KD y b cap i)).getD k Cy).q.map _⟩:RowM)=⟨(N.po.getD k Cy).qh,_,_,(N.po.getD k Cy).q.map _⟩
    rw [YZ hjl,if_neg (fun e=>hr (by rw [e]))]) hb rfl hl
 refine h.putPo hy h2 h1 fun z hz=>?_;rcases List.mem_append.1 hz with hz | hz
 ·exact h.q y (List.mem_of_getElem? hy) z hz
 ·rw [List.mem_singleton.1 hz];exact hi
def GB (x:Nd):Nd:={x with eh:=none,ph:=none}
def Cf (y:Po):Po:={y with qh:=none}
def BI (N:Net):Net:=⟨N.nd.map GB,N.po.map Cf,none,none⟩
def jnX (x:Nd) (j:Nat) (n:Nat) (a:Int):Nd:={x with ef:=x.ef++ [(j,a)],pl:=if a<0 then x.pl++ [(j,n)] else x.pl}
def jnY (y:Po) (i:Nat) (a:Int):Po:={y with sum:=y.sum+a,q:=if a<0 then y.q++ [i] else y.q}
theorem Cm.keepE {wb mv:Nat} {nb pb:Nat ->Nat} {N:Net} {M:MF} (h:Cm wb mv nb pb N M) {i:Nat} {x:Nd} (hx:N.nd[i]?=some x) {b:Nat} (hb:Bg M x.eh b=none) {v:BN} {b':Nat} {t:TypeId} {cs:List D} (hm:M b'=some (.cells t cs)):Cg (Bg M x.eh) b v b'=some (.cells t cs):=
 keepM hb hm fun c hc=>by have:=Vp (h.nn i x hx).2.1 hc;rw [hm] at this;cases this
theorem Cm.keepP {wb mv:Nat} {nb pb:Nat ->Nat} {N:Net} {M:MF} (h:Cm wb mv nb pb N M) {i:Nat} {x:Nd} (hx:N.nd[i]?=some x) {b:Nat} (hb:Bg M x.ph b=none) {v:BN} {b':Nat} {t:TypeId} {cs:List D} (hm:M b'=some (.cells t cs)):Cg (Bg M x.ph) b v b'=some (.cells t cs):=
 keepM hb hm fun c hc=>by have:=Vp (h.nn i x hx).2.2 hc;rw [hm] at this;cases this
theorem Cm.keepQ {wb mv:Nat} {nb pb:Nat ->Nat} {N:Net} {M:MF} (h:Cm wb mv nb pb N M) {j:Nat} {y:Po} (hy:N.po[j]?=some y) {b:Nat} (hb:Bg M y.qh b=none) {v:BN} {b':Nat} {t:TypeId} {cs:List D} (hm:M b'=some (.cells t cs)):Cg (Bg M y.qh) b v b'=some (.cells t cs):=
 keepM hb hm fun c hc=>by have:=Vp (h.pp j y hy).2 hc;rw [hm] at this;cases this
set_option maxHeartbeats 1000000 in
theorem join_c {wb mv:Nat} {nb pb:Nat ->Nat} {N:Net} {M:MF} (h:Cm wb mv nb pb N M) {i j:Nat} {x:Nd} {y:Po} (hx:N.nd[i]?=some x) (hy:N.po[j]?=some y) (a:Int) (ha: -100000000000000000≤a∧a≤100000000000000000) (hs: -1000000000000000000≤y.sum∧y.sum≤1000000000000000000) (he:x.ef.length≤100000) (hp:x.pl.length≤100000) (hq:y.q.length≤100000):
  A6 Tryz.prog 81 [.d (pD (nb i) 0),.d (pD (pb j) 0),.d (AF a)] (HN M) fun r H'=>r= .tup []∧∃N' M',H'=HN M'∧Cm wb mv nb pb N' M'∧N'.nh=N.nh∧N'.mh=N.mh∧(∃x',N'.nd=N.nd.set i x'∧GB x'=GB (jnX x j y.q.length a))∧∃y',N'.po=N.po.set j y'∧Cf y'=Cf (jnY y i a):=by
 have hxb:=h.n i x hx;have hre:=(h.nn i x hx).2.1;have hrp:=(h.nn i x hx).2.2;have hil:=(List.getElem?_eq_some_iff.1 hx).1;have hjl:=(List.getElem?_eq_some_iff.1 hy).1;have hqz:=Vq (h.pp j y hy).2;refine B6 Tryz.func81 Z Z Tryz.ntmps81 Z Z Z fun F hF=>(AG (AJ (AC Z Z (AC Z Z ?_))))
 first | refine J (B1 Z Z) ?_ | refine J (BY Z Z) ?_ | refine J (B2 Z Z) ?_ | refine J (BZ Z Z) ?_
 first | refine J (AO rfl TF Z Z Z) ?_ | refine J (AQ rfl TF Z Z Z) ?_ | refine J (AR rfl TF Z Z Z) ?_ | refine J (AP rfl TF Z Z Z) ?_ | refine J (AN rfl TF Z Z Z) ?_
 refine J (He (f:=40) Z Z (hxb) rfl on104 rfl) (AC Z Z (AC Z Z (J (DC zl111 pl111 Z Z Z) (G (Fg 1 sl104 Z Z Z Z Z Z Z Z) (G (JX 10 60 40 hre Z Z (by simp) Z Z Z Z Z (IX (emb:=efD pb) x.ef [(j,a)] Z Z Z Z Z Z Z Z sl104 (by simp only [List.length_singleton];omega) Z Z Z Z)) (Hr 15 60 40 hF Z Z Z (by simp) (by simp) Z Z Z Z Z Z Z (fun _ _=>rfl) fun b1 c1 hb1 hc1=>?_))))))
 first | refine J (B1 Z Z) ?_ | refine J (BY Z Z) ?_ | refine J (B2 Z Z) ?_ | refine J (BZ Z Z) ?_
 first | refine J (AO rfl TF Z Z Z) ?_ | refine J (AQ rfl TF Z Z Z) ?_ | refine J (AR rfl TF Z Z Z) ?_ | refine J (AP rfl TF Z Z Z) ?_ | refine J (AN rfl TF Z Z Z) ?_
 refine G (Zda (f:=40) Z Z Z Z (h.keepE hx hb1 hxb) ((by show _<9;omega)) rfl sz104) (AI (AG ?_));have hR1:=h.addE hx (j,a) hjl hb1 hc1;have hyb:=hR1.p j y hy;refine AJ (AC Z Z ?_)
 first | refine J (B1 Z Z) ?_ | refine J (BY Z Z) ?_ | refine J (B2 Z Z) ?_ | refine J (BZ Z Z) ?_
 first | refine J (AO rfl Ha Z Z Z) ?_ | refine J (AQ rfl Ha Z Z Z) ?_ | refine J (AR rfl Ha Z Z Z) ?_ | refine J (AP rfl Ha Z Z Z) ?_ | refine J (AN rfl Ha Z Z Z) ?_
 refine J (He (f:=40) Z Z (hyb) rfl Be rfl) (AC Z Z (J (By Z Z (IntWalk.i64_in _ (by omega)) rfl) ?_))
 first | refine J (B1 Z Z) ?_ | refine J (BY Z Z) ?_ | refine J (B2 Z Z) ?_ | refine J (BZ Z Z) ?_
 first | refine J (AO rfl Ha Z Z Z) ?_ | refine J (AQ rfl Ha Z Z Z) ?_ | refine J (AR rfl Ha Z Z Z) ?_ | refine J (AP rfl Ha Z Z Z) ?_ | refine J (AN rfl Ha Z Z Z) ?_
 refine G (Zda (f:=40) Z Z Z Z (hyb) ((by show _<10;omega)) rfl sz2) (AI (AG ?_));have hR2:=hR1.setPo (y':={y with sum:=y.sum+a}) hy Z Z;have hx2:(N.nd.set i (FG x b1 c1 (j,a)))[i]?=some (FG x b1 c1 (j,a)):=List.getElem?_set_self hil;have hy2:(N.po.set j {y with sum:=y.sum+a})[j]?=some {y with sum:=y.sum+a}:=List.getElem?_set_self hjl;have hx2b:=hR2.n i _ hx2;have hy2b:=hR2.p j _ hy2;have hrp2:=(hR2.nn i _ hx2).2.2;refine AJ (AC Z Z ?_)
 first | refine J (Cc Z Z Z) ?_ | refine J (Cb Z Z Z) ?_
 refine AI ?_
 first | refine BP rfl (fun h27=>?_) (fun h27=>?_) | refine BK rfl (fun h27=>?_) (fun h27=>?_)
 ·refine AG (Gs [[],[],[1],[1,2],[1,2,3],[],[],[6],[6,7],[6,7,8],[6,7,8,9],[5,6,7,8,9,10],[5,6,7,8,9,10,11],[1,2,3,4,5,6,7,8,9,10,11,12],[0,1,2,3,4,5,6,7,8,9,10,11,12,13],[0,1,2,3,4,5,6,7,8,9,10,11,12,13,14],[0,1,2,3,4,5,6,7,8,9,10,11,12,13,14,15]] BF rfl (IK ?_))
  first | refine AE [0] [] Z Z (fun _=>AB (Bb Z Z)) ?_ | refine AH [0] Z Z (fun _=>AB (Bb Z Z)) ?_
  first | refine AE [0] [] Z Z (fun _=>AB (Bb Z Z)) ?_ | refine AH [0] Z Z (fun _=>AB (Bb Z Z)) ?_
  first | refine AE [29] [] Z Z (fun _=>AB (B1 Z Z)) ?_ | refine AH [29] Z Z (fun _=>AB (B1 Z Z)) ?_ | refine AE [29] [] Z Z (fun _=>AB (BY Z Z)) ?_ | refine AH [29] Z Z (fun _=>AB (BY Z Z)) ?_ | refine AE [29] [] Z Z (fun _=>AB (B2 Z Z)) ?_ | refine AH [29] Z Z (fun _=>AB (B2 Z Z)) ?_ | refine AE [29] [] Z Z (fun _=>AB (BZ Z Z)) ?_ | refine AH [29] Z Z (fun _=>AB (BZ Z Z)) ?_
  first | refine AE [30] [] Z Z (fun _=>AB (AO rfl L5 Z Z Z)) ?_ | refine AH [30] Z Z (fun _=>AB (AO rfl L5 Z Z Z)) ?_ | refine AE [30] [] Z Z (fun _=>AB (AQ rfl L5 Z Z Z)) ?_ | refine AH [30] Z Z (fun _=>AB (AQ rfl L5 Z Z Z)) ?_ | refine AE [30] [] Z Z (fun _=>AB (AR rfl L5 Z Z Z)) ?_ | refine AH [30] Z Z (fun _=>AB (AR rfl L5 Z Z Z)) ?_ | refine AE [30] [] Z Z (fun _=>AB (AP rfl L5 Z Z Z)) ?_ | refine AH [30] Z Z (fun _=>AB (AP rfl L5 Z Z Z)) ?_ | refine AE [30] [] Z Z (fun _=>AB (AN rfl L5 Z Z Z)) ?_ | refine AH [30] Z Z (fun _=>AB (AN rfl L5 Z Z Z)) ?_
  refine AE [31] [40] Z Z (fun _=>AB (He (f:=40) Z Z (hx2b) rfl XB rfl)) ?_
  first | refine AE [1] [] Z Z (fun _=>AB (Bb Z Z)) ?_ | refine AH [1] Z Z (fun _=>AB (Bb Z Z)) ?_
  first | refine AE [1] [] Z Z (fun _=>AB (Bb Z Z)) ?_ | refine AH [1] Z Z (fun _=>AB (Bb Z Z)) ?_
  first | refine AE [34] [] Z Z (fun _=>AB (B1 Z Z)) ?_ | refine AH [34] Z Z (fun _=>AB (B1 Z Z)) ?_ | refine AE [34] [] Z Z (fun _=>AB (BY Z Z)) ?_ | refine AH [34] Z Z (fun _=>AB (BY Z Z)) ?_ | refine AE [34] [] Z Z (fun _=>AB (B2 Z Z)) ?_ | refine AH [34] Z Z (fun _=>AB (B2 Z Z)) ?_ | refine AE [34] [] Z Z (fun _=>AB (BZ Z Z)) ?_ | refine AH [34] Z Z (fun _=>AB (BZ Z Z)) ?_
  first | refine AE [35] [] Z Z (fun _=>AB (AO rfl GL Z Z Z)) ?_ | refine AH [35] Z Z (fun _=>AB (AO rfl GL Z Z Z)) ?_ | refine AE [35] [] Z Z (fun _=>AB (AQ rfl GL Z Z Z)) ?_ | refine AH [35] Z Z (fun _=>AB (AQ rfl GL Z Z Z)) ?_ | refine AE [35] [] Z Z (fun _=>AB (AR rfl GL Z Z Z)) ?_ | refine AH [35] Z Z (fun _=>AB (AR rfl GL Z Z Z)) ?_ | refine AE [35] [] Z Z (fun _=>AB (AP rfl GL Z Z Z)) ?_ | refine AH [35] Z Z (fun _=>AB (AP rfl GL Z Z Z)) ?_ | refine AE [35] [] Z Z (fun _=>AB (AN rfl GL Z Z Z)) ?_ | refine AH [35] Z Z (fun _=>AB (AN rfl GL Z Z Z)) ?_
  refine AE [36] [40] Z Z (fun _=>AB (He (f:=40) Z Z (hy2b) rfl IH rfl)) ?_
  first | refine AE [37] [] Z Z (fun _=>AB (DO hqz rfl Tryz.underlying98 rfl)) ?_ | refine AH [37] Z Z (fun _=>AB (DO hqz rfl Tryz.underlying98 rfl)) ?_
  first | refine AE [33,38] [] Z Z (fun _=>AB (DC TK pl167 Z Z Z)) ?_ | refine AH [33,38] Z Z (fun _=>AB (DC TK pl167 Z Z Z)) ?_
  refine G7 [39] [2] [(40,_)] Z Z (fun _=>G8 (Fg 2 sl105 Z Z Z Z Z Z Z Z)) (.inr ⟨40,_,rfl,rfl,rfl,rfl,rfl⟩) Z Z Z Z Z (G7 [32,40] [61,40,2] [(41,_)] Z Z (fun _=>G8 (JX 32 61 40 hrp2 Z Z (by simp [FG]) Z Z Z Z Z (IX (emb:=plD pb) x.pl [(j,y.q.length)] Z Z Z Z Z Z Z Z sl105 (by simp only [List.length_singleton];omega) Z Z Z Z))) (.inr ⟨41,_,rfl,rfl,rfl,rfl,rfl⟩) Z Z Z Z Z (Gf 14 Z Z Z (BE 15 Z Z (Hr 41 61 40 hF Z Z Z (by simp) (by simp) Z Z Z Z Z Z Z (fun _ _=>rfl) fun b2 c2 hb2 hc2=>?_))))
  first | refine J (B1 Z Z) ?_ | refine J (BY Z Z) ?_ | refine J (B2 Z Z) ?_ | refine J (BZ Z Z) ?_
  refine AI ⟨rfl,?_⟩;refine BE 16 Z Z ?_
  first | refine J (AO rfl L5 Z Z Z) ?_ | refine J (AQ rfl L5 Z Z Z) ?_ | refine J (AR rfl L5 Z Z Z) ?_ | refine J (AP rfl L5 Z Z Z) ?_ | refine J (AN rfl L5 Z Z Z) ?_
  refine AI ⟨rfl,?_⟩;refine BE 17 Z Z (G (Zda (f:=40) Z Z Z Z (hR2.keepP hx2 hb2 hx2b) ((by show _<9;omega)) rfl sz105) (AI ⟨rfl,?_⟩));refine Ge ?_;have hR3:=hR2.addP hx2 (j,y.q.length) (by show j<(N.po.set j _).length;rw [List.length_set];exact hjl) hb2 hc2;have hy3b:=hR3.p j _ hy2;have hrq3:=(hR3.pp j _ hy2).2;refine AJ (AC Z Z (AC Z Z ?_))
  first | refine J (B1 Z Z) ?_ | refine J (BY Z Z) ?_ | refine J (B2 Z Z) ?_ | refine J (BZ Z Z) ?_
  first | refine J (AO rfl GL Z Z Z) ?_ | refine J (AQ rfl GL Z Z Z) ?_ | refine J (AR rfl GL Z Z Z) ?_ | refine J (AP rfl GL Z Z Z) ?_ | refine J (AN rfl GL Z Z Z) ?_
  refine J (He (f:=40) Z Z (hy3b) rfl IH rfl) (AC Z Z (G (Fg 3 sl98 Z Z Z Z Z Z Z Z) (G (JX 48 62 40 hrq3 Z Z (by simp) Z Z Z Z Z (IX (emb:=fun i=>BQ (nb i)) y.q [i] Z Z Z Z Z Z Z Z sl98 (by simp only [List.length_singleton];omega) Z Z Z Z)) (Hr 51 62 40 hF Z Z Z (by simp) (by simp) Z Z Z Z Z Z Z (fun _ _=>rfl) fun b3 c3 hb3 hc3=>?_))))
  first | refine J (B1 Z Z) ?_ | refine J (BY Z Z) ?_ | refine J (B2 Z Z) ?_ | refine J (BZ Z Z) ?_
  first | refine J (AO rfl GL Z Z Z) ?_ | refine J (AQ rfl GL Z Z Z) ?_ | refine J (AR rfl GL Z Z Z) ?_ | refine J (AP rfl GL Z Z Z) ?_ | refine J (AN rfl GL Z Z Z) ?_
  refine G (Zda (f:=40) Z Z Z Z (hR3.keepQ hy2 hb3 hy3b) ((by show _<10;omega)) rfl sz98) (AI ?_);have hR4:=hR3.addQ hy2 (i:=i) (by show i<((N.nd.set i _).set i _).length;rw [List.length_set,List.length_set];exact hil) hb3 hc3;exact ⟨_,[40],_,Ae rfl,rfl,rfl,rfl,_,_,rfl,hR4,rfl,rfl,⟨_,List.set_set _,by unfold GB H9 FG jnX;simp [h27]⟩,⟨_,List.set_set _,by unfold Cf KD jnY;simp [h27]⟩⟩
 ·refine An ?_;exact ⟨_,[40],_,Ae rfl,rfl,rfl,rfl,_,_,rfl,hR2,rfl,rfl,⟨_,rfl,by unfold GB FG jnX;simp [h27]⟩,⟨_,rfl,by unfold Cf jnY;simp [h27]⟩⟩
end Go.Proofs.YtnkkaeblokdifaaGreat
