/- Layer 30: why an item is not admissible. -/
import Derived.Test.YtnkkaeblokdifaaGreatMg22
namespace Go.Proofs.YtnkkaeblokdifaaGreat
open Go.RowKit
set_option maxRecDepth 100000
def D8 (N:Net):List Int:=N.nd.map fun x=>x.it.id
def Lw (nb:Nat ->Nat) (ids:List Int):List (Int×Value):=(List.range ids.length).map fun i=>(ids.getD i 0,pV (nb i) 0)
theorem Uj {nb:Nat ->Nat} {ids:List Int} (hn:ids.Nodup) {i:Nat} (hi:i<ids.length):Ad (Lw nb ids) ids[i] (.pointer none)=pV (nb i) 0:=by
 refine Zc9 ?_ (List.mem_map.2 ⟨i,List.mem_range.2 hi,by rw [Bg 0 hi]⟩)
 have:(Lw nb ids).map Prod.fst=ids:=by
  unfold Lw;rw [List.map_map];refine List.ext_getElem (by simp) fun j h1 h2=>?_;simp only [List.getElem_map,List.getElem_range,Function.comp];exact Bg 0 h2
 rw [this];exact hn
abbrev HW (mv:Nat) (bs:Option (List Nat×Nat)) (L:List (Int×Value)) (M:MF):Hp:=[(40,[.multi M]),(50,[.map bs (CB AG Kr L)]),(51,[.addr 50 0 (.map (some mv))])]
structure Exc where
 id:Int
 re:Int
 r:A4
 by_:Int
def Db:A4:=⟨0,SP,[],[]⟩
def exc0:Exc:=⟨0,0,Db,0⟩
abbrev Y8 (e:Exc):D:= .agg [AG e.id,AG e.re,AG e.r.k,As e.r.acc.o,AG e.r.acc.k,As e.r.acc.a,As e.r.f,As e.r.t,AG e.by_]
abbrev excR (o:Option Exc):D:= .tup [Y8 (o.getD exc0),BE o.isSome]
def badP (N:Net) (e:Nat×Nat):Bool:=decide ((N.po.getD e.1 DI).mi<e.2)
def N1 (N:Net) (x:Nd) (e:Nat×Nat):Exc:=⟨x.it.id,1,(N.po.getD e.1 DI).r,(N.nd.getD ((N.po.getD e.1 DI).q.getD (N.po.getD e.1 DI).mi 0) Bu).it.id⟩
def offOf (N:Net) (id:Int):Bool:=!(N.nd.getD ((D8 N).idxOf id) Bu).on
def Fc (N:Net) (x:Nd):Option Exc:=match x.pl.find? (badP N) with
 | some e=>some (N1 N x e)
 | none=>match x.it.af.find? (offOf N) with
  | some id=>some ⟨x.it.id,2,Db,id⟩
  | none=>none
theorem QF {α:Type} {p:α ->Bool}:∀{l:List α} {k:Nat} (hk:k<l.length),(∀x∈l.take k,p x=false) ->p l[k]=true ->l.find? p=some l[k]
 | a::l,0,_,_,h=>by simp at h;simp [h]
 | a::l,k+1,hk,h0,h=>by
  have h1:p a=false:=h0 a (by simp);have ih:=QF (l:=l) (k:=k) (by simpa using hk) (fun x hx=>h0 x (by simp [hx])) (by simpa using h);rw [List.find?_cons,h1];simpa using ih
theorem IV {α:Type} {p:α ->Bool} {l:List α} (h:∀x∈l,p x=false):l.find? p=none:=List.find?_eq_none.2 fun x hx=>by rw [h x hx];simp
structure NetW (N:Net):Prop where
 i:(D8 N).Nodup
 a:∀x∈N.nd,∀id∈x.it.af,id∈D8 N
 l:∀x∈N.nd,x.ef.length≤60∧x.pl.length≤1000∧x.it.af.length≤1000
 e:∀x∈N.nd,∀e∈x.ef,-100000000000000000≤e.2∧e.2≤100000000000000000
 p:∀x∈N.nd,∀e∈x.pl,e.2<(N.po.getD e.1 DI).q.length∧e.2≤1000000
 m:∀y∈N.po,y.mi≤1000000
 rm:∀y∈N.po,-1000000000000000000≤y.room∧y.room≤1000000000000000000
 n:N.nd.length≤1000∧N.po.length≤1000
 ql:∀y∈N.po,y.q.length≤1000
set_option maxHeartbeats 1000000 in
theorem inadm_c {wb mv:Nat} {nb pb:Nat ->Nat} {N:Net} {M:MF} (bs:Option (List Nat×Nat)) (h:Cy wb mv nb pb N M) (hw:NetW N) {i:Nat} {x:Nd} (hx:N.nd[i]?=some x):
  A8 Tryz.prog 123 [.d (pD wb 0),.d (pD (nb i) 0)] (HW mv bs (Lw nb (D8 N)) M) fun r H'=>r= .d (excR (Fc N x))∧H'=HW mv bs (Lw nb (D8 N)) M:=by
 have hwb:=h.w;have hxm:=List.mem_of_getElem? hx;obtain ⟨hxb,hre,hrp⟩:=h.nn i x hx;have hpz:=W0 hrp;obtain ⟨_,hpl,hafl⟩:=hw.l x hxm;have hxe:=h.e x hxm;have hxp:=hw.p x hxm;have hxa:=hw.a x hxm;refine BY Tryz.func123 Z Z Tryz.ntmps123 Z Z Z fun F hF=>?_;refine AF (AJ (U (Cm 1 Ic Z Z Z Z) (AD Z Z (AH (AF (AF (AJ (AC Z Z ?_))))))))
 first | refine J (Bc Z Z) ?_ | refine J (Ba Z Z) ?_ | refine J (Bd Z Z) ?_ | refine J (Bb Z Z) ?_
 first | refine J (AO rfl MA Z Z Z) ?_ | refine J (AQ rfl MA Z Z Z) ?_ | refine J (AR rfl MA Z Z Z) ?_ | refine J (AP rfl MA Z Z Z) ?_ | refine J (AN rfl MA Z Z Z) ?_
 refine J (ID (f:=40) Z Z (hxb) rfl Xe rfl) (J (D2 hpz rfl Tryz.underlying105 rfl) (AC Z Z (AH (Au (De (α:=Nat) (fun k=>⟨85,[(0,.d (pD wb 0)),(1,.d (pD (nb i) 0)),(4,(.ptr 1 0 0)),(13,(.d (hdr x.ph x.pl.length))),(14,(.d (AG (x.pl.length:Int)))),(15,(.d (AG (k:Int))))],(1,[.blk 148 [.d (AG 0),.d (AG 0),.d (AG 0),.d (As []),.d (AG 0),.d (As []),.d (As []),.d (As []),.d (AG 0)]])::HW mv bs (Lw nb (D8 N)) M⟩) (fun k=>k≤x.pl.length∧∀e∈x.pl.take k,badP N e=false) (fun k=>x.pl.length - k) (0) (⟨Nat.zero_le _,by simp⟩) (BP hF [1,40,50,51] Z Z ⟨rfl,rfl,rfl,rfl,rfl,rfl,trivial⟩) ?_)))));rintro k ⟨hk0,hkb⟩;refine AF (AJ ?_)
 first | refine J (C7 Z Z Z) ?_ | refine J (Ca Z Z Z) ?_
 refine AH (AF ?_)
 first | refine BJ rfl (fun h16=>?_) (fun h16=>?_) | refine BB rfl (fun h16=>?_) (fun h16=>?_)
 ·have hk1:k<x.pl.length:=DZ h16;refine Am (AF (Au (AF ?_)));obtain ⟨eb,ec,hee⟩:=Zc4 hrp hk1;have hrow:=W2 hrp hee;have hjl:x.pl[k].1<N.po.length:=hxe.2 _ (List.getElem_mem hk1)
  obtain ⟨y,hy⟩:∃y,N.po[x.pl[k].1]?=some y:=⟨_,List.getElem?_eq_getElem hjl⟩
  have hgy:N.po.getD x.pl[k].1 DI=y:=by rw [List.getD_eq_getElem?_getD,hy];rfl
  obtain ⟨hyb,hyq⟩:=h.pp _ y hy;have hpk:=hxp _ (List.getElem_mem hk1);rw [hgy] at hpk;refine AJ (J (Zc7 hee (k) Z Z Z hk1 Tryz.underlying105 Tt rfl) (J (Io (f:=40) (e:=k) rfl (rfl) rfl (hrow) (A2 hk1) rfl rw167 rfl) (U (Cm 2 Tm Z Z Z Z) (U (Bj Z Z Z Z Z Z Z Tt) (AH (AF (G8 [[],[0],[0,1],[0,1,2],[0,1,2,3],[],[5],[0,1,2,3,4,5,6]] BC rfl (Hq ?_))))))))
  first | refine AE [7] [] Z Z (fun _=>AB (AO rfl DY Z Z Z)) ?_ | refine AI [7] Z Z (fun _=>AB (AO rfl DY Z Z Z)) ?_ | refine AE [7] [] Z Z (fun _=>AB (AQ rfl DY Z Z Z)) ?_ | refine AI [7] Z Z (fun _=>AB (AQ rfl DY Z Z Z)) ?_ | refine AE [7] [] Z Z (fun _=>AB (AR rfl DY Z Z Z)) ?_ | refine AI [7] Z Z (fun _=>AB (AR rfl DY Z Z Z)) ?_ | refine AE [7] [] Z Z (fun _=>AB (AP rfl DY Z Z Z)) ?_ | refine AI [7] Z Z (fun _=>AB (AP rfl DY Z Z Z)) ?_ | refine AE [7] [] Z Z (fun _=>AB (AN rfl DY Z Z Z)) ?_ | refine AI [7] Z Z (fun _=>AB (AN rfl DY Z Z Z)) ?_
  first | refine AE [19] [2] Z Z (fun _=>AB (A0 Z Z B8 rfl)) ?_ | refine AE [19] [2] Z Z (fun _=>AB (AY Z Z Z B8 rfl)) ?_ | refine AE [19] [2] Z Z (fun _=>AB (AZ Z Z (rfl) rfl B8 rfl)) ?_
  first | refine AE [20] [] Z Z (fun _=>AB (Bc Z Z)) ?_ | refine AI [20] Z Z (fun _=>AB (Bc Z Z)) ?_ | refine AE [20] [] Z Z (fun _=>AB (Ba Z Z)) ?_ | refine AI [20] Z Z (fun _=>AB (Ba Z Z)) ?_ | refine AE [20] [] Z Z (fun _=>AB (Bd Z Z)) ?_ | refine AI [20] Z Z (fun _=>AB (Bd Z Z)) ?_ | refine AE [20] [] Z Z (fun _=>AB (Bb Z Z)) ?_ | refine AI [20] Z Z (fun _=>AB (Bb Z Z)) ?_
  first | refine AE [21] [] Z Z (fun _=>AB (AO rfl Gb Z Z Z)) ?_ | refine AI [21] Z Z (fun _=>AB (AO rfl Gb Z Z Z)) ?_ | refine AE [21] [] Z Z (fun _=>AB (AQ rfl Gb Z Z Z)) ?_ | refine AI [21] Z Z (fun _=>AB (AQ rfl Gb Z Z Z)) ?_ | refine AE [21] [] Z Z (fun _=>AB (AR rfl Gb Z Z Z)) ?_ | refine AI [21] Z Z (fun _=>AB (AR rfl Gb Z Z Z)) ?_ | refine AE [21] [] Z Z (fun _=>AB (AP rfl Gb Z Z Z)) ?_ | refine AI [21] Z Z (fun _=>AB (AP rfl Gb Z Z Z)) ?_ | refine AE [21] [] Z Z (fun _=>AB (AN rfl Gb Z Z Z)) ?_ | refine AI [21] Z Z (fun _=>AB (AN rfl Gb Z Z Z)) ?_
  refine AE [22] [40] Z Z (fun _=>AB (ID (f:=40) Z Z (hyb) rfl A9 rfl)) ?_
  first | refine AE [7] [] Z Z (fun _=>AB (AO rfl PW Z Z Z)) ?_ | refine AI [7] Z Z (fun _=>AB (AO rfl PW Z Z Z)) ?_ | refine AE [7] [] Z Z (fun _=>AB (AQ rfl PW Z Z Z)) ?_ | refine AI [7] Z Z (fun _=>AB (AQ rfl PW Z Z Z)) ?_ | refine AE [7] [] Z Z (fun _=>AB (AR rfl PW Z Z Z)) ?_ | refine AI [7] Z Z (fun _=>AB (AR rfl PW Z Z Z)) ?_ | refine AE [7] [] Z Z (fun _=>AB (AP rfl PW Z Z Z)) ?_ | refine AI [7] Z Z (fun _=>AB (AP rfl PW Z Z Z)) ?_ | refine AE [7] [] Z Z (fun _=>AB (AN rfl PW Z Z Z)) ?_ | refine AI [7] Z Z (fun _=>AB (AN rfl PW Z Z Z)) ?_
  first | refine AE [24] [2] Z Z (fun _=>AB (A0 Z Z A9 rfl)) ?_ | refine AE [24] [2] Z Z (fun _=>AB (AY Z Z Z A9 rfl)) ?_ | refine AE [24] [2] Z Z (fun _=>AB (AZ Z Z (rfl) rfl A9 rfl)) ?_
  refine GZ 7 Z Z Z (BD 8 Z Z ?_)
  first | refine J (C7 Z Z Z) ?_ | refine J (Ca Z Z Z) ?_
  refine AH ⟨rfl,?_⟩;refine GY ?_
  first | refine BJ rfl (fun h26=>?_) (fun h26=>?_) | refine BB rfl (fun h26=>?_) (fun h26=>?_)
  ·refine AF ?_;have hmq:y.mi<y.q.length:=by have h:=h26;omega
   obtain ⟨qb,qc,hqe⟩:=Zc4 hyq hmq;have hqrow:=W2 hyq hqe;have hni:y.q[y.mi]<N.nd.length:=h.q y (List.mem_of_getElem? hy) _ (List.getElem_mem hmq)
   obtain ⟨z,hz⟩:∃z,N.nd[y.q[y.mi]]?=some z:=⟨_,List.getElem?_eq_getElem hni⟩
   obtain ⟨hzb,_,_⟩:=h.nn _ z hz;have hbad:Fc N x=some ⟨x.it.id,1,y.r,z.it.id⟩:=by unfold Fc;rw [QF hk1 hkb (by unfold badP;rw [hgy];exact decide_eq_true (by have h:=h26;omega))];unfold N1;dsimp only;rw [hgy,Bg 0 hmq,List.getD_eq_getElem?_getD,hz];rfl
   refine G8 [[],[0],[0,1],[0,1,2],[0,1,2,3],[],[5],[5,6],[5,6,7],[5,6,7,8],[],[10],[10,11],[10,11,12],[10,11,12,13],[],[15],[15,16],[15,16,17],[15,16,17,18],[10,11,12,13,14,15,16,17,18,19],[10,11,12,13,14,15,16,17,18,19,20],[10,11,12,13,14,15,16,17,18,19,20,21],[10,11,12,13,14,15,16,17,18,19,20,21,22],[10,11,12,13,14,15,16,17,18,19,20,21,22,23],[10,11,12,13,14,15,16,17,18,19,20,21,22,23,24],[0,1,2,3,4,5,6,7,8,9,10,11,12,13,14,15,16,17,18,19,20,21,22,23,24,25],[0,1,2,3,4,5,6,7,8,9,10,11,12,13,14,15,16,17,18,19,20,21,22,23,24,25,26],[0,1,2,3,4,5,6,7,8,9,10,11,12,13,14,15,16,17,18,19,20,21,22,23,24,25,26,27]] BC rfl (Hq ?_)
   first | refine AE [1] [] Z Z (fun _=>AB (B7 Z Z)) ?_ | refine AI [1] Z Z (fun _=>AB (B7 Z Z)) ?_
   first | refine AE [27] [] Z Z (fun _=>AB (Bc Z Z)) ?_ | refine AI [27] Z Z (fun _=>AB (Bc Z Z)) ?_ | refine AE [27] [] Z Z (fun _=>AB (Ba Z Z)) ?_ | refine AI [27] Z Z (fun _=>AB (Ba Z Z)) ?_ | refine AE [27] [] Z Z (fun _=>AB (Bd Z Z)) ?_ | refine AI [27] Z Z (fun _=>AB (Bd Z Z)) ?_ | refine AE [27] [] Z Z (fun _=>AB (Bb Z Z)) ?_ | refine AI [27] Z Z (fun _=>AB (Bb Z Z)) ?_
   first | refine AE [28] [] Z Z (fun _=>AB (AO rfl FY Z Z Z)) ?_ | refine AI [28] Z Z (fun _=>AB (AO rfl FY Z Z Z)) ?_ | refine AE [28] [] Z Z (fun _=>AB (AQ rfl FY Z Z Z)) ?_ | refine AI [28] Z Z (fun _=>AB (AQ rfl FY Z Z Z)) ?_ | refine AE [28] [] Z Z (fun _=>AB (AR rfl FY Z Z Z)) ?_ | refine AI [28] Z Z (fun _=>AB (AR rfl FY Z Z Z)) ?_ | refine AE [28] [] Z Z (fun _=>AB (AP rfl FY Z Z Z)) ?_ | refine AI [28] Z Z (fun _=>AB (AP rfl FY Z Z Z)) ?_ | refine AE [28] [] Z Z (fun _=>AB (AN rfl FY Z Z Z)) ?_ | refine AI [28] Z Z (fun _=>AB (AN rfl FY Z Z Z)) ?_
   first | refine AE [29] [] Z Z (fun _=>AB (AO rfl B4 Z Z Z)) ?_ | refine AI [29] Z Z (fun _=>AB (AO rfl B4 Z Z Z)) ?_ | refine AE [29] [] Z Z (fun _=>AB (AQ rfl B4 Z Z Z)) ?_ | refine AI [29] Z Z (fun _=>AB (AQ rfl B4 Z Z Z)) ?_ | refine AE [29] [] Z Z (fun _=>AB (AR rfl B4 Z Z Z)) ?_ | refine AI [29] Z Z (fun _=>AB (AR rfl B4 Z Z Z)) ?_ | refine AE [29] [] Z Z (fun _=>AB (AP rfl B4 Z Z Z)) ?_ | refine AI [29] Z Z (fun _=>AB (AP rfl B4 Z Z Z)) ?_ | refine AE [29] [] Z Z (fun _=>AB (AN rfl B4 Z Z Z)) ?_ | refine AI [29] Z Z (fun _=>AB (AN rfl B4 Z Z Z)) ?_
   refine AE [30] [40] Z Z (fun _=>AB (ID (f:=40) Z Z (hxb) rfl A9 rfl)) ?_
   first | refine AE [7] [] Z Z (fun _=>AB (AO rfl DY Z Z Z)) ?_ | refine AI [7] Z Z (fun _=>AB (AO rfl DY Z Z Z)) ?_ | refine AE [7] [] Z Z (fun _=>AB (AQ rfl DY Z Z Z)) ?_ | refine AI [7] Z Z (fun _=>AB (AQ rfl DY Z Z Z)) ?_ | refine AE [7] [] Z Z (fun _=>AB (AR rfl DY Z Z Z)) ?_ | refine AI [7] Z Z (fun _=>AB (AR rfl DY Z Z Z)) ?_ | refine AE [7] [] Z Z (fun _=>AB (AP rfl DY Z Z Z)) ?_ | refine AI [7] Z Z (fun _=>AB (AP rfl DY Z Z Z)) ?_ | refine AE [7] [] Z Z (fun _=>AB (AN rfl DY Z Z Z)) ?_ | refine AI [7] Z Z (fun _=>AB (AN rfl DY Z Z Z)) ?_
   first | refine AE [32] [2] Z Z (fun _=>AB (A0 Z Z B8 rfl)) ?_ | refine AE [32] [2] Z Z (fun _=>AB (AY Z Z Z B8 rfl)) ?_ | refine AE [32] [2] Z Z (fun _=>AB (AZ Z Z (rfl) rfl B8 rfl)) ?_
   first | refine AE [33] [] Z Z (fun _=>AB (Bc Z Z)) ?_ | refine AI [33] Z Z (fun _=>AB (Bc Z Z)) ?_ | refine AE [33] [] Z Z (fun _=>AB (Ba Z Z)) ?_ | refine AI [33] Z Z (fun _=>AB (Ba Z Z)) ?_ | refine AE [33] [] Z Z (fun _=>AB (Bd Z Z)) ?_ | refine AI [33] Z Z (fun _=>AB (Bd Z Z)) ?_ | refine AE [33] [] Z Z (fun _=>AB (Bb Z Z)) ?_ | refine AI [33] Z Z (fun _=>AB (Bb Z Z)) ?_
   first | refine AE [34] [] Z Z (fun _=>AB (AO rfl G9 Z Z Z)) ?_ | refine AI [34] Z Z (fun _=>AB (AO rfl G9 Z Z Z)) ?_ | refine AE [34] [] Z Z (fun _=>AB (AQ rfl G9 Z Z Z)) ?_ | refine AI [34] Z Z (fun _=>AB (AQ rfl G9 Z Z Z)) ?_ | refine AE [34] [] Z Z (fun _=>AB (AR rfl G9 Z Z Z)) ?_ | refine AI [34] Z Z (fun _=>AB (AR rfl G9 Z Z Z)) ?_ | refine AE [34] [] Z Z (fun _=>AB (AP rfl G9 Z Z Z)) ?_ | refine AI [34] Z Z (fun _=>AB (AP rfl G9 Z Z Z)) ?_ | refine AE [34] [] Z Z (fun _=>AB (AN rfl G9 Z Z Z)) ?_ | refine AI [34] Z Z (fun _=>AB (AN rfl G9 Z Z Z)) ?_
   refine AE [35] [40] Z Z (fun _=>AB (OM (f:=40) Z Z (hyb) Ab Z Z (by simp [D.one]) rfl)) ?_
   first | refine AE [7] [] Z Z (fun _=>AB (AO rfl DY Z Z Z)) ?_ | refine AI [7] Z Z (fun _=>AB (AO rfl DY Z Z Z)) ?_ | refine AE [7] [] Z Z (fun _=>AB (AQ rfl DY Z Z Z)) ?_ | refine AI [7] Z Z (fun _=>AB (AQ rfl DY Z Z Z)) ?_ | refine AE [7] [] Z Z (fun _=>AB (AR rfl DY Z Z Z)) ?_ | refine AI [7] Z Z (fun _=>AB (AR rfl DY Z Z Z)) ?_ | refine AE [7] [] Z Z (fun _=>AB (AP rfl DY Z Z Z)) ?_ | refine AI [7] Z Z (fun _=>AB (AP rfl DY Z Z Z)) ?_ | refine AE [7] [] Z Z (fun _=>AB (AN rfl DY Z Z Z)) ?_ | refine AI [7] Z Z (fun _=>AB (AN rfl DY Z Z Z)) ?_
   first | refine AE [37] [2] Z Z (fun _=>AB (A0 Z Z B8 rfl)) ?_ | refine AE [37] [2] Z Z (fun _=>AB (AY Z Z Z B8 rfl)) ?_ | refine AE [37] [2] Z Z (fun _=>AB (AZ Z Z (rfl) rfl B8 rfl)) ?_
   first | refine AE [38] [] Z Z (fun _=>AB (Bc Z Z)) ?_ | refine AI [38] Z Z (fun _=>AB (Bc Z Z)) ?_ | refine AE [38] [] Z Z (fun _=>AB (Ba Z Z)) ?_ | refine AI [38] Z Z (fun _=>AB (Ba Z Z)) ?_ | refine AE [38] [] Z Z (fun _=>AB (Bd Z Z)) ?_ | refine AI [38] Z Z (fun _=>AB (Bd Z Z)) ?_ | refine AE [38] [] Z Z (fun _=>AB (Bb Z Z)) ?_ | refine AI [38] Z Z (fun _=>AB (Bb Z Z)) ?_
   first | refine AE [39] [] Z Z (fun _=>AB (AO rfl Ga Z Z Z)) ?_ | refine AI [39] Z Z (fun _=>AB (AO rfl Ga Z Z Z)) ?_ | refine AE [39] [] Z Z (fun _=>AB (AQ rfl Ga Z Z Z)) ?_ | refine AI [39] Z Z (fun _=>AB (AQ rfl Ga Z Z Z)) ?_ | refine AE [39] [] Z Z (fun _=>AB (AR rfl Ga Z Z Z)) ?_ | refine AI [39] Z Z (fun _=>AB (AR rfl Ga Z Z Z)) ?_ | refine AE [39] [] Z Z (fun _=>AB (AP rfl Ga Z Z Z)) ?_ | refine AI [39] Z Z (fun _=>AB (AP rfl Ga Z Z Z)) ?_ | refine AE [39] [] Z Z (fun _=>AB (AN rfl Ga Z Z Z)) ?_ | refine AI [39] Z Z (fun _=>AB (AN rfl Ga Z Z Z)) ?_
   refine AE [40] [40] Z Z (fun _=>AB (ID (f:=40) Z Z (hyb) rfl I7 rfl)) ?_
   first | refine AE [7] [] Z Z (fun _=>AB (AO rfl DY Z Z Z)) ?_ | refine AI [7] Z Z (fun _=>AB (AO rfl DY Z Z Z)) ?_ | refine AE [7] [] Z Z (fun _=>AB (AQ rfl DY Z Z Z)) ?_ | refine AI [7] Z Z (fun _=>AB (AQ rfl DY Z Z Z)) ?_ | refine AE [7] [] Z Z (fun _=>AB (AR rfl DY Z Z Z)) ?_ | refine AI [7] Z Z (fun _=>AB (AR rfl DY Z Z Z)) ?_ | refine AE [7] [] Z Z (fun _=>AB (AP rfl DY Z Z Z)) ?_ | refine AI [7] Z Z (fun _=>AB (AP rfl DY Z Z Z)) ?_ | refine AE [7] [] Z Z (fun _=>AB (AN rfl DY Z Z Z)) ?_ | refine AI [7] Z Z (fun _=>AB (AN rfl DY Z Z Z)) ?_
   first | refine AE [42] [2] Z Z (fun _=>AB (A0 Z Z B8 rfl)) ?_ | refine AE [42] [2] Z Z (fun _=>AB (AY Z Z Z B8 rfl)) ?_ | refine AE [42] [2] Z Z (fun _=>AB (AZ Z Z (rfl) rfl B8 rfl)) ?_
   first | refine AE [43] [] Z Z (fun _=>AB (Bc Z Z)) ?_ | refine AI [43] Z Z (fun _=>AB (Bc Z Z)) ?_ | refine AE [43] [] Z Z (fun _=>AB (Ba Z Z)) ?_ | refine AI [43] Z Z (fun _=>AB (Ba Z Z)) ?_ | refine AE [43] [] Z Z (fun _=>AB (Bd Z Z)) ?_ | refine AI [43] Z Z (fun _=>AB (Bd Z Z)) ?_ | refine AE [43] [] Z Z (fun _=>AB (Bb Z Z)) ?_ | refine AI [43] Z Z (fun _=>AB (Bb Z Z)) ?_
   first | refine AE [44] [] Z Z (fun _=>AB (AO rfl Gb Z Z Z)) ?_ | refine AI [44] Z Z (fun _=>AB (AO rfl Gb Z Z Z)) ?_ | refine AE [44] [] Z Z (fun _=>AB (AQ rfl Gb Z Z Z)) ?_ | refine AI [44] Z Z (fun _=>AB (AQ rfl Gb Z Z Z)) ?_ | refine AE [44] [] Z Z (fun _=>AB (AR rfl Gb Z Z Z)) ?_ | refine AI [44] Z Z (fun _=>AB (AR rfl Gb Z Z Z)) ?_ | refine AE [44] [] Z Z (fun _=>AB (AP rfl Gb Z Z Z)) ?_ | refine AI [44] Z Z (fun _=>AB (AP rfl Gb Z Z Z)) ?_ | refine AE [44] [] Z Z (fun _=>AB (AN rfl Gb Z Z Z)) ?_ | refine AI [44] Z Z (fun _=>AB (AN rfl Gb Z Z Z)) ?_
   refine AE [45] [40] Z Z (fun _=>AB (ID (f:=40) Z Z (hyb) rfl A9 rfl)) ?_
   first | refine AE [41,46] [] Z Z (fun _=>AB (Zc7 hqe (y.mi) Z Z Z hmq Tryz.underlying98 Wf rfl)) ?_ | refine AI [41,46] Z Z (fun _=>AB (Zc7 hqe (y.mi) Z Z Z hmq Tryz.underlying98 Wf rfl)) ?_
   refine AE [47] [40] Z Z (fun _=>AB (Eu (f:=40) (e:=y.mi) (off:=0) rfl (by omega) rfl (hqrow) (A2 hmq) rfl on99 rfl)) ?_
   first | refine AE [48] [] Z Z (fun _=>AB (Bc Z Z)) ?_ | refine AI [48] Z Z (fun _=>AB (Bc Z Z)) ?_ | refine AE [48] [] Z Z (fun _=>AB (Ba Z Z)) ?_ | refine AI [48] Z Z (fun _=>AB (Ba Z Z)) ?_ | refine AE [48] [] Z Z (fun _=>AB (Bd Z Z)) ?_ | refine AI [48] Z Z (fun _=>AB (Bd Z Z)) ?_ | refine AE [48] [] Z Z (fun _=>AB (Bb Z Z)) ?_ | refine AI [48] Z Z (fun _=>AB (Bb Z Z)) ?_
   first | refine AE [49] [] Z Z (fun _=>AB (AO rfl FY Z Z Z)) ?_ | refine AI [49] Z Z (fun _=>AB (AO rfl FY Z Z Z)) ?_ | refine AE [49] [] Z Z (fun _=>AB (AQ rfl FY Z Z Z)) ?_ | refine AI [49] Z Z (fun _=>AB (AQ rfl FY Z Z Z)) ?_ | refine AE [49] [] Z Z (fun _=>AB (AR rfl FY Z Z Z)) ?_ | refine AI [49] Z Z (fun _=>AB (AR rfl FY Z Z Z)) ?_ | refine AE [49] [] Z Z (fun _=>AB (AP rfl FY Z Z Z)) ?_ | refine AI [49] Z Z (fun _=>AB (AP rfl FY Z Z Z)) ?_ | refine AE [49] [] Z Z (fun _=>AB (AN rfl FY Z Z Z)) ?_ | refine AI [49] Z Z (fun _=>AB (AN rfl FY Z Z Z)) ?_
   first | refine AE [50] [] Z Z (fun _=>AB (AO rfl B4 Z Z Z)) ?_ | refine AI [50] Z Z (fun _=>AB (AO rfl B4 Z Z Z)) ?_ | refine AE [50] [] Z Z (fun _=>AB (AQ rfl B4 Z Z Z)) ?_ | refine AI [50] Z Z (fun _=>AB (AQ rfl B4 Z Z Z)) ?_ | refine AE [50] [] Z Z (fun _=>AB (AR rfl B4 Z Z Z)) ?_ | refine AI [50] Z Z (fun _=>AB (AR rfl B4 Z Z Z)) ?_ | refine AE [50] [] Z Z (fun _=>AB (AP rfl B4 Z Z Z)) ?_ | refine AI [50] Z Z (fun _=>AB (AP rfl B4 Z Z Z)) ?_ | refine AE [50] [] Z Z (fun _=>AB (AN rfl B4 Z Z Z)) ?_ | refine AI [50] Z Z (fun _=>AB (AN rfl B4 Z Z Z)) ?_
   refine AE [51] [40] Z Z (fun _=>AB (ID (f:=40) Z Z (hzb) rfl A9 rfl)) (GZ 26 Z Z Z (BD 27 Z Z (J (Cu Ic RB Z Z Z) (AH ⟨rfl,?_⟩))));refine BD 28 Z Z (U (Bj Z Z Z Z Z Z Z Jh) (AH ⟨rfl,?_⟩));refine BD 29 Z Z (AD Z Z (AH ⟨rfl,?_⟩));refine GY (Af ?_);exact ⟨_,[40,50,51],_,Ae rfl,rfl,rfl,by rw [hbad];rfl,rfl⟩
  ·refine Am (AJ (J (Bi Z Z (A6 (k+1) (by omega)) rfl) (AC Z Z (AH ?_))));exact ⟨k+1,⟨by show k+1≤_;omega,by rw [List.take_succ_eq_append_getElem hk1];intro e he;rcases List.mem_append.1 he with he | he;exact hkb e he;rw [List.mem_singleton.1 he];unfold badP;rw [hgy];exact decide_eq_false (by have h:=h26;omega)⟩,by show x.pl.length - (k+1)<x.pl.length - k;omega,BP hF [1,40,50,51] rfl (rfl) ⟨rfl,rfl,rfl,rfl,rfl,rfl,trivial⟩⟩
 ·refine C6 (AF (AF ?_));have hpn:x.pl.find? (badP N)=none:=IV (by have e:k=x.pl.length:=(by have h:=h16;omega);rw [e,List.take_length] at hkb;exact hkb);refine AJ (AC Z Z ?_)
  first | refine J (Bc Z Z) ?_ | refine J (Ba Z Z) ?_ | refine J (Bd Z Z) ?_ | refine J (Bb Z Z) ?_
  first | refine J (AO rfl FY Z Z Z) ?_ | refine J (AQ rfl FY Z Z Z) ?_ | refine J (AR rfl FY Z Z Z) ?_ | refine J (AP rfl FY Z Z Z) ?_ | refine J (AN rfl FY Z Z Z) ?_
  first | refine J (AO rfl Ct Z Z Z) ?_ | refine J (AQ rfl Ct Z Z Z) ?_ | refine J (AR rfl Ct Z Z Z) ?_ | refine J (AP rfl Ct Z Z Z) ?_ | refine J (AN rfl Ct Z Z Z) ?_
  refine J (ID (f:=40) Z Z (hxb) rfl Aq rfl) ?_
  first | refine J (Cc rfl Tryz.underlying33 rfl) ?_ | refine J (C8 Z Z Tryz.underlying33 rfl) ?_ | refine J (Cd rfl Tryz.underlying33 rfl) ?_ | refine J (Cb rfl Tryz.underlying33 rfl) ?_ | refine J (CW rfl Tryz.underlying33 rfl) ?_ | refine J (C9 rfl Tryz.underlying33 rfl) ?_
  refine AC Z Z (AH (Au (De (α:=Nat) (fun j=>⟨85,[(0,.d (pD wb 0)),(1,.d (pD (nb i) 0)),(4,(.ptr 1 0 0)),(59,(.d (.sl none (x.it.af.map AG)))),(60,(.d (AG (x.it.af.length:Int)))),(61,(.d (AG (j:Int))))],(1,[.blk 148 [.d (AG 0),.d (AG 0),.d (AG 0),.d (As []),.d (AG 0),.d (As []),.d (As []),.d (As []),.d (AG 0)]])::HW mv bs (Lw nb (D8 N)) M⟩) (fun j=>j≤x.it.af.length∧∀id∈x.it.af.take j,offOf N id=false) (fun j=>x.it.af.length - j) (0) (⟨Nat.zero_le _,by simp⟩) (BP hF [1,40,50,51] Z Z ⟨rfl,rfl,rfl,rfl,rfl,rfl,trivial⟩) ?_)));rintro j ⟨hj0,hjb⟩;refine AF (AJ ?_)
  first | refine J (C7 Z Z Z) ?_ | refine J (Ca Z Z Z) ?_
  refine AH (AF ?_)
  first | refine BJ rfl (fun h62=>?_) (fun h62=>?_) | refine BB rfl (fun h62=>?_) (fun h62=>?_)
  ·have hj1:j<x.it.af.length:=DZ h62;refine Am (AF (Au (AF ?_)));have hidm:=hxa _ (List.getElem_mem hj1);have hil:=List.idxOf_lt_length_of_mem hidm;have hil2:(D8 N).idxOf x.it.af[j]<N.nd.length:=by unfold D8 at hil⊢;rw [List.length_map] at hil;exact hil
   obtain ⟨z,hz⟩:∃z,N.nd[(D8 N).idxOf x.it.af[j]]?=some z:=⟨_,List.getElem?_eq_getElem hil2⟩
   have hgz:N.nd.getD ((D8 N).idxOf x.it.af[j]) Bu=z:=by rw [List.getD_eq_getElem?_getD,hz];rfl
   obtain ⟨hzb,_,_⟩:=h.nn _ z hz;have hby:=Uj (nb:=nb) hw.i hil;rw [List.getElem_idxOf hil] at hby;refine AJ ?_
   first | refine J (CY (j) Z Z (rfl) (A2 hj1) Tryz.underlying33 rfl Dh rfl) ?_ | refine J (CZ (j) Z Z (rfl) (A2 hj1) rfl Tryz.underlying33 Dh rfl) ?_
   first | refine J (A0 Z Z A9 rfl) ?_ | refine J (AY Z Z Z A9 rfl) ?_ | refine J (AZ Z Z (rfl) rfl A9 rfl) ?_
   refine AD Z Z (AH (AF (AJ (AC Z Z ?_))))
   first | refine J (Bc Z Z) ?_ | refine J (Ba Z Z) ?_ | refine J (Bd Z Z) ?_ | refine J (Bb Z Z) ?_
   first | refine J (AO rfl Lz Z Z Z) ?_ | refine J (AQ rfl Lz Z Z Z) ?_ | refine J (AR rfl Lz Z Z Z) ?_ | refine J (AP rfl Lz Z Z Z) ?_ | refine J (AN rfl Lz Z Z Z) ?_
   refine J (ID (f:=40) Z Z (hwb) rfl Xf rfl) (GK 68 51 0 Z Z (AC Z Z (J (IC (Lw nb (D8 N)) x.it.af[j] (.pointer none) (pV (nb ((D8 N).idxOf x.it.af[j])) 0) Z Z Z Xy GO za99 hby rfl) ?_)))
   first | refine J (Bc Z Z) ?_ | refine J (Ba Z Z) ?_ | refine J (Bd Z Z) ?_ | refine J (Bb Z Z) ?_
   first | refine J (AO rfl MB Z Z Z) ?_ | refine J (AQ rfl MB Z Z Z) ?_ | refine J (AR rfl MB Z Z Z) ?_ | refine J (AP rfl MB Z Z Z) ?_ | refine J (AN rfl MB Z Z Z) ?_
   refine J (ID (f:=40) Z Z (hzb) rfl on4 rfl) ?_
   first | refine J (F2 Z Z) ?_ | refine J (FT Z Z) ?_
   refine AH ?_
   first | refine BJ rfl (fun h74=>?_) (fun h74=>?_) | refine BB rfl (fun h74=>?_) (fun h74=>?_)
   ·refine AF (AJ (AC Z Z ?_))
    first | refine J (Bc Z Z) ?_ | refine J (Ba Z Z) ?_ | refine J (Bd Z Z) ?_ | refine J (Bb Z Z) ?_
    first | refine J (AO rfl FY Z Z Z) ?_ | refine J (AQ rfl FY Z Z Z) ?_ | refine J (AR rfl FY Z Z Z) ?_ | refine J (AP rfl FY Z Z Z) ?_ | refine J (AN rfl FY Z Z Z) ?_
    first | refine J (AO rfl B4 Z Z Z) ?_ | refine J (AQ rfl B4 Z Z Z) ?_ | refine J (AR rfl B4 Z Z Z) ?_ | refine J (AP rfl B4 Z Z Z) ?_ | refine J (AN rfl B4 Z Z Z) ?_
    refine J (ID (f:=40) Z Z (hxb) rfl A9 rfl) (J (Cu Gf Jy Z Z Z) (AC Z Z (J (Cu Ic RB Z Z Z) (U (Bj Z Z Z Z Z Z Z Jh) (AD Z Z (AH (Af ?_)))))));exact ⟨_,[40,50,51],_,Ae rfl,rfl,rfl,by unfold Fc;rw [hpn];dsimp only;rw [QF hj1 hjb (by unfold offOf;rw [hgz];simpa using h74)];rfl,rfl⟩
   ·refine Am (AJ (J (Bi Z Z (A6 (j+1) (by omega)) rfl) (AC Z Z (AH ?_))));exact ⟨j+1,⟨by show j+1≤_;omega,by rw [List.take_succ_eq_append_getElem hj1];intro e he;rcases List.mem_append.1 he with he | he;exact hjb e he;rw [List.mem_singleton.1 he];unfold offOf;rw [hgz];simpa using h74⟩,by show x.it.af.length - (j+1)<x.it.af.length - j;omega,BP hF [1,40,50,51] rfl (rfl) ⟨rfl,rfl,rfl,rfl,rfl,rfl,trivial⟩⟩
  ·refine C6 (AF (AJ (J (Cu Ic RB Z Z Z) (U (Bj Z Z Z Z Z Z Z Jh) (AD Z Z (AH (Af ?_)))))));exact ⟨_,[40,50,51],_,Ae rfl,rfl,rfl,by unfold Fc;rw [hpn];dsimp only;rw [IV (by have e:j=x.it.af.length:=(by have h:=h62;omega);rw [e,List.take_length] at hjb;exact hjb)];rfl,rfl⟩
abbrev Y7:FuncId:=168
theorem backF_c (h:Hd) (n:Nat):A8 Tryz.prog 124 [.d (hdr h n)] [] fun r H'=>r= .fn Y7 [.d (.ptr (hdr h n))]∧H'=[]:=by
 refine BY Tryz.func124 Z Z Tryz.ntmps124 Z Z Z fun F hF=>(AF (AJ (U (CJ 1 Z Z Z Z Z Z Z) ?_)));refine AD Z Z (AH (AF (AJ (GL 1 1 (hdr h n) [] hF Z Z Z (by intro c hc;simp [D.cells] at hc;subst hc;rfl) Z Z Z (J (Zdl Z Z) (AD Z Z (AH (Af ?_))))))));exact ⟨_,[],[],Ae rfl,rfl,rfl,rfl,rfl⟩
def Ko (q:List Nat):Nat ->List (Nat×Nat)
 | 0=> []
 | c+1=>(c,q.getD c 0)::Ko q c
def Yb (nb:Nat ->Nat) (e:Nat×Nat):List AV:=[.d (AG (e.1:Int)),.d (BX (nb e.2))]
section
variable {β:Type}
theorem back1_c (nb:Nat ->Nat) (q:List Nat) (hq:q.length≤100000) {M:MF} {h:Hd} (hrow:B3 M h 99 1 (q.map fun i=>BX (nb i))) (l:Nat) (H:β ->Hp) (N:List Nat) (step:β ->Nat×Nat ->β×Bool) (st0:β) (hN:∀st,hpN (H st)=N) (hI:∀st,DV N (H st)=true) (hP:∀st,At (H st) N=some (H st)) (hM:∀st,hfam (H st) 40=some [.multi M])
  (hfe:Cv Tryz.prog l (Yb nb) H step st0 (Ko q q.length)):
  A8 Tryz.prog Y7 [.d (.raw (CK l)),.d (.ptr (hdr h q.length))] (H st0) fun r H'=>r= .tup []∧H'=H (CA step st0 (Ko q q.length)):=by
 have hz:=W0 hrow;have x5:∀st,A1 N (H st)=true:=fun st=>by have h:=ZD (H st);rw [hN] at h;exact h
 have x6:∀st,CF N (H st)=some []:=fun st=>by have h:=GG (H st);rw [hN] at h;exact h
 refine BY Tryz.func168 Z Z Tryz.ntmps168 Z Z Z fun F hF=>(AF (AJ ?_))
 first | refine J (A0 Z Z I7 rfl) ?_ | refine J (AY Z Z Z I7 rfl) ?_ | refine J (AZ Z Z (rfl) rfl I7 rfl) ?_
 refine J (D2 hz rfl Tryz.underlying98 rfl) (J (FH Z Z (IntWalk.i64_in _ (by omega)) rfl) (AD Z Z (AH (Au (Dz (α:=Nat×β) (fun p=>⟨19,[(0,.d (.raw (CK l))),(1,.d (.ptr (hdr h q.length))),(3,(.d (AG ((p.1:Int) - 1))))],H p.2⟩) (fun p=>p.1≤q.length∧Cv Tryz.prog l (Yb nb) H step p.2 (Ko q p.1)∧CA step p.2 (Ko q p.1)=CA step st0 (Ko q q.length)) (fun p=>p.1) ((q.length,st0)) (⟨Nat.le_refl _,hfe,rfl⟩) (Ti ⟨rfl,rfl,rfl,trivial⟩) ?_)))));rintro ⟨c,st⟩ ⟨hc0,hfk,hfin⟩;dsimp only at hc0 hfk hfin⊢;refine AF (AF (AJ (AC Z Z (J (Ip Z Z Z) (AH ?_)))))
 first | refine BJ rfl (fun h8=>?_) (fun h8=>?_) | refine BB rfl (fun h8=>?_) (fun h8=>?_)
 ·obtain ⟨k,rfl⟩:∃k,c=k+1:=⟨c - 1,by have h:=h8;omega⟩
  refine Am (AF (Au (AF ?_)));have hkq:k<q.length:=by omega
  obtain ⟨qb,qc,hqe⟩:=Zc4 hrow hkq;have hqrow:=W2 hrow hqe;have hk1:((k+1:Nat):Int) - 1=(k:Int):=by omega
  rw [hk1];refine AJ (AC Z Z (AC Z Z ?_))
  first | refine J (A0 Z Z I7 rfl) ?_ | refine J (AY Z Z Z I7 rfl) ?_ | refine J (AZ Z Z (rfl) rfl I7 rfl) ?_
  refine AC Z Z (J (Zc7 hqe (k) Z Z Z hkq Tryz.underlying98 Wf rfl) (J (Eu (f:=40) (e:=k) (off:=0) rfl (by omega) (hM st) hqrow (A2 hkq) rfl on99 rfl) ?_));rw [←Bg 0 hkq];refine Mz Z Z hfk.1 N (Zdk fun _ _=>rfl) (x5 st) (x6 st) Z Z (fun r H' ⟨e1,e2⟩=>by subst e1 e2;exact ⟨x5 _,hI _,rfl⟩) rfl fun r H' ⟨e1,e2⟩=>?_;subst e1 e2;rw [List.append_nil]
  first | refine J (F2 Z Z) ?_ | refine J (FT Z Z) ?_
  refine AH ?_
  first | refine BJ rfl (fun h18=>?_) (fun h18=>?_) | refine BB rfl (fun h18=>?_) (fun h18=>?_)
  ·have hgo:(step st (k,q.getD k 0)).2=false:=by simpa using h18
   refine Af ?_;exact ⟨_,N,_,Ae rfl,hP _,x5 _,rfl,by rw [←hfin];show H _=H (CA step st ((k,q.getD k 0)::Ko q k));rw [Td,if_neg (by rw [hgo];decide)]⟩
  ·have hgo:(step st (k,q.getD k 0)).2=true:=by simpa using h18
   refine Am (AJ (AC Z Z (J (FH Z Z (IntWalk.i64_in _ (by omega)) rfl) (AD Z Z (AH ?_)))));exact ⟨(k,(step st (k,q.getD k 0)).1),⟨by show k≤_;omega,hfk.2 hgo,by show CA step (step st (k,q.getD k 0)).1 (Ko q k)=_;rw [←hfin];show _=CA step st ((k,q.getD k 0)::Ko q k);rw [Td,if_pos hgo]⟩,by show k<k+1;omega,⟨rfl,rfl,fun _ _=>MT.get (l:=[(0,_),(1,_),(3,_)]) ⟨rfl,rfl,rfl,trivial⟩⟩⟩
 ·refine C6 ?_;exact ⟨_,N,_,Ae rfl,hP _,x5 _,rfl,by rw [←hfin];have e:c=0:=(by have h:=h8;omega);rw [e];rfl⟩
end
def onN (N:Net) (i:Nat):Bool:=(N.nd.getD i Bu).on
def ndX (N:Net) (x:Nd):Option Exc:=if x.on=true then Fc N x else none
def SZ (N:Net) (y:Po):Option Exc:=if ovP y y.sum=true then (y.q.reverse.find? (onN N)).map fun i=>⟨(N.nd.getD i Bu).it.id,0,y.r,-1⟩ else none
def Cs (N:Net):Option Exc:=match N.nd.findSome? (ndX N) with
 | some e=>some e
 | none=>N.po.findSome? (SZ N)
theorem Hk {α β:Type} {f:α ->Option β}:∀{l:List α} {k:Nat} (hk:k<l.length) {b:β},(∀x∈l.take k,f x=none) ->f l[k]=some b ->l.findSome? f=some b
 | a::l,0,_,b,_,h=>by simp at h;rw [List.findSome?_cons,h]
 | a::l,k+1,hk,b,h0,h=>by
  have h1:f a=none:=h0 a (by simp);have ih:=Hk (l:=l) (k:=k) (by simpa using hk) (fun x hx=>h0 x (by simp [hx])) (by simpa using h);rw [List.findSome?_cons,h1];exact ih
theorem Hj {α β:Type} {f:α ->Option β} {l:List α} (h:∀x∈l,f x=none):l.findSome? f=none:=List.findSome?_eq_none_iff.2 h
def stRO:Bool ->LoopState
 | true=> .done
 | false=> .ready
def pdRO:Bool ->Option Code
 | true=>some .ret
 | false=>none
def HY (N:Net) (_st:Option Nat) (e:Nat×Nat):Option Nat×Bool:=if onN N e.2=true then (some e.2,false) else (none,true)
theorem Y5 (N:Net) (q:List Nat):∀n,n≤q.length ->CA (HY N) none (Ko q n)=((q.take n).reverse.find? (onN N))
 | 0,_=>rfl
 | n+1,h=>by
  have hn:n<q.length:=by omega
  show CA (HY N) none ((n,q.getD n 0)::Ko q n)=_;rw [Td,List.take_succ_eq_append_getElem hn,List.reverse_append,List.reverse_singleton,List.singleton_append,List.find?_cons,Bg 0 hn];unfold HY;dsimp only
  cases ho:onN N q[n] with
  | true=>rfl
  | false=>exact Y5 N q n (by omega)
theorem Uc {P:Program} {l:Nat} {nb:Nat ->Nat} {H:Option Nat ->Hp} (N:Net) (q:List Nat) (hY:∀k (hk:k<q.length),Eg P l (Yb nb (k,q[k])) (H none) fun v H'=>v= .d (.raw (.bool (!onN N q[k])))∧H'=H (if onN N q[k]=true then some q[k] else none)):∀n,n≤q.length ->Cv P l (Yb nb) H (HY N) none (Ko q n)
 | 0,_=>trivial
 | n+1,h=>by
  have hn:n<q.length:=by omega
  have hy:=hY n hn;show Cv P l (Yb nb) H (HY N) none ((n,q.getD n 0)::Ko q n);rw [Bg 0 hn];refine ⟨hy.mono fun v H' ⟨e1,e2⟩=>⟨by rw [e1];unfold HY;cases onN N q[n]<;>rfl,by rw [e2];unfold HY;cases onN N q[n]<;>rfl⟩,fun hgo=>?_⟩
  have hoff:onN N q[n]=false:=by
   cases ho:onN N q[n] with
   | false=>rfl
   | true=>unfold HY at hgo;dsimp only at hgo;rw [ho] at hgo;cases hgo
  have:(HY N none (n,q[n])).1=none:=by unfold HY;dsimp only;rw [hoff];rfl
  rw [this];exact Uc N q hY n (by omega)
abbrev excB (e:Exc):AM:= .blk 148 [.d (AG e.id),.d (AG e.re),.d (AG e.r.k),.d (As e.r.acc.o),.d (AG e.r.acc.k),.d (As e.r.acc.a),.d (As e.r.f),.d (As e.r.t),.d (AG e.by_)]
def fndE (N:Net) (y:Po) (o:Option Nat):Exc:=match o with
 | none=>exc0
 | some i=>⟨(N.nd.getD i Bu).it.id,0,y.r,-1⟩
abbrev hBk (N:Net) (y:Po) (pbk mv:Nat) (bs:Option (List Nat×Nat)) (L:List (Int×Value)) (M:MF) (o:Option Nat):Hp:=[(1,[excB (fndE N y o)]),(2,[.blk 4 [.d (BE o.isSome)]]),(4,[.blk 109 [.d (BX pbk)]]),(40,[.multi M]),(50,[.map bs (CB AG Kr L)]),(51,[.addr 50 0 (.map (some mv))])]
set_option maxHeartbeats 2000000 in
theorem next_c {wb mv:Nat} {nb pb:Nat ->Nat} {N:Net} {M:MF} (bs:Option (List Nat×Nat)) (h:Cy wb mv nb pb N M) (hw:NetW N) (hs:Qg N.po 1000000000000000000):
  A8 Tryz.prog 63 [.d (pD wb 0)] (HW mv bs (Lw nb (D8 N)) M) fun r H'=>r= .d (excR (Cs N))∧H'=HW mv bs (Lw nb (D8 N)) M:=by
 have hwb:=h.w;have hnr:B3 M N.nh 99 1 ((List.range N.nd.length).map fun i=>BX (nb i)):=h.rs.1 .n;have hpr:B3 M N.mh 109 1 ((List.range N.po.length).map fun j=>BX (pb j)):=h.rs.1 .m;have hnz:=W0 hnr;have hpz:=W0 hpr;rw [List.length_range] at hnz hpz;have hnl:=hw.n
 obtain ⟨L,hL⟩:∃L,Lw nb (D8 N)=L:=⟨_,rfl⟩
 have hina:=fun i x hx=>inadm_c (i:=i) (x:=x) bs h hw hx;rw [hL] at hina⊢;refine Hy Tryz.func63 Z Z Tryz.ntmps63 Z Z Z fun F hF hFl=>?_;refine AF (AJ (U (Cm 1 Ic Z Z Z Z) (U (Cm 2 zl4 Z Z Z Z) (AH (AF (AF (AJ (AC Z Z ?_))))))))
 first | refine J (Bc Z Z) ?_ | refine J (Ba Z Z) ?_ | refine J (Bd Z Z) ?_ | refine J (Bb Z Z) ?_
 first | refine J (AO rfl J6 Z Z Z) ?_ | refine J (AQ rfl J6 Z Z Z) ?_ | refine J (AR rfl J6 Z Z Z) ?_ | refine J (AP rfl J6 Z Z Z) ?_ | refine J (AN rfl J6 Z Z Z) ?_
 refine J (ID (f:=40) Z Z (hwb) rfl I7 rfl) (J (D2 hnz rfl Tryz.underlying98 rfl) (AC Z Z (AH (Au (De (α:=Nat) (fun k=>⟨74,[(0,.d (pD wb 0)),(2,(.ptr 1 0 0)),(3,(.ptr 2 0 0)),(15,(.d (hdr N.nh N.nd.length))),(16,(.d (AG (N.nd.length:Int)))),(17,(.d (AG (k:Int))))],(1,[excB exc0])::(2,[.blk 4 [.d (BE false)]])::HW mv bs L M⟩) (fun k=>k≤N.nd.length∧∀x∈N.nd.take k,ndX N x=none) (fun k=>N.nd.length - k) (0) (⟨Nat.zero_le _,by simp⟩) (BP hF [1,2,40,50,51] Z Z ⟨rfl,rfl,rfl,rfl,rfl,rfl,trivial⟩) ?_)))));rintro k ⟨hk0,hkb⟩;refine AF (AJ ?_)
 first | refine J (C7 Z Z Z) ?_ | refine J (Ca Z Z Z) ?_
 refine AH (AF ?_)
 first | refine BJ rfl (fun h18=>?_) (fun h18=>?_) | refine BB rfl (fun h18=>?_) (fun h18=>?_)
 ·have hk1:k<N.nd.length:=DZ h18;refine Am (AF (Au (AF ?_)))
  obtain ⟨x,hx⟩:∃x,N.nd[k]?=some x:=⟨_,List.getElem?_eq_getElem hk1⟩
  have hxk:N.nd[k]=x:=by rw [List.getElem?_eq_getElem hk1] at hx;injection hx
  obtain ⟨hxb,_,_⟩:=h.nn k x hx;obtain ⟨rb,rc,hre⟩:=Zc4 hnr (j:=k) (by rw [List.length_range];exact hk1);have hrow:=W2 hnr hre;refine AJ (J (Zc7 hre (k) Z Z Z hk1 Tryz.underlying98 Wf rfl) (J (Eu (f:=40) (e:=k) (off:=0) rfl (by omega) rfl (hrow) ((by rw [List.getElem?_map,List.getElem?_range hk1];rfl)) rfl on99 rfl) ?_));refine AD Z Z (AH (AF (AF (AJ (AC Z Z ?_)))))
  first | refine J (Bc Z Z) ?_ | refine J (Ba Z Z) ?_ | refine J (Bd Z Z) ?_ | refine J (Bb Z Z) ?_
  first | refine J (AO rfl MB Z Z Z) ?_ | refine J (AQ rfl MB Z Z Z) ?_ | refine J (AR rfl MB Z Z Z) ?_ | refine J (AP rfl MB Z Z Z) ?_ | refine J (AN rfl MB Z Z Z) ?_
  refine J (ID (f:=40) Z Z (hxb) rfl on4 rfl) ?_
  first | refine J (F2 Z Z) ?_ | refine J (FT Z Z) ?_
  refine AH ?_
  first | refine BJ rfl (fun h25=>?_) (fun h25=>?_) | refine BB rfl (fun h25=>?_) (fun h25=>?_)
  ·have hnone:ndX N x=none:=by unfold ndX;rw [if_neg (by simpa using h25)]
   refine C6 ?_
   try have hnone:ndX N x=none:=by unfold ndX;split<;>first | exact hin | rfl
   refine AJ (J (Bi Z Z (A6 (k+1) (by omega)) rfl) (AC Z Z (AH ?_)));exact ⟨k+1,⟨by show k+1≤_;omega,by rw [List.take_succ_eq_append_getElem hk1];intro e he;rcases List.mem_append.1 he with he | he;exact hkb e he;rw [List.mem_singleton.1 he,hxk];exact hnone⟩,by show N.nd.length - (k+1)<N.nd.length - k;omega,BP hF [1,2,40,50,51] rfl (rfl) ⟨rfl,rfl,rfl,rfl,rfl,rfl,trivial⟩⟩
  ·refine Am (AF (AJ (AC Z Z (AC Z Z (U (HQ (hina k x hx) rfl [40,50,51] ⟨rfl,rfl,rfl,trivial⟩ Z Z Z Z Z Z Z Z Z) (AC Z Z ?_))))))
   first | refine J (BT Z Z Z) ?_ | refine J (BS Z Z Z) ?_
   first | refine J (BT Z Z Z) ?_ | refine J (BS Z Z Z) ?_
   refine U (Cm 3 Ic Z Z Z Z) (U (Bj Z Z Z Z Z Z Z Jh) (AD Z Z (AH (AF (AJ ?_)))))
   cases hin:Fc N x
   ·refine AC Z Z (AH (Ey rfl (rfl) (Am ?_)))
    try have hnone:ndX N x=none:=by unfold ndX;split<;>first | exact hin | rfl
    refine AJ (J (Bi Z Z (A6 (k+1) (by omega)) rfl) (AC Z Z (AH ?_)));exact ⟨k+1,⟨by show k+1≤_;omega,by rw [List.take_succ_eq_append_getElem hk1];intro e he;rcases List.mem_append.1 he with he | he;exact hkb e he;rw [List.mem_singleton.1 he,hxk];exact hnone⟩,by show N.nd.length - (k+1)<N.nd.length - k;omega,BP hF [1,2,40,50,51] rfl (rfl) ⟨rfl,rfl,rfl,rfl,rfl,rfl,trivial⟩⟩
   ·refine AC Z Z (AH (Dg rfl (rfl) (AF (AJ ?_))))
    first | refine J (An Z Z OT rfl) ?_ | refine J (Ao Z Z OT Z Z Z) ?_ | refine J (Ap Z Z (rfl) rfl OT rfl) ?_
    refine U (Bj Z Z Z Z Z Z Z Jh) (U (Bj Z Z Z Z Z Z Z sz4) (AH (Af ?_)));exact ⟨_,[40,50,51],_,Ae rfl,rfl,rfl,by unfold Cs;rw [Hk hk1 hkb (by rw [hxk];unfold ndX;rw [if_pos (by simpa using h25)];exact hin)];rfl,rfl⟩
 ·refine C6 (AF (AF ?_));have hnn:N.nd.findSome? (ndX N)=none:=Hj (by have e:k=N.nd.length:=(by have h:=h18;omega);rw [e,List.take_length] at hkb;exact hkb);refine AJ (AC Z Z ?_)
  first | refine J (Bc Z Z) ?_ | refine J (Ba Z Z) ?_ | refine J (Bd Z Z) ?_ | refine J (Bb Z Z) ?_
  first | refine J (AO rfl J7 Z Z Z) ?_ | refine J (AQ rfl J7 Z Z Z) ?_ | refine J (AR rfl J7 Z Z Z) ?_ | refine J (AP rfl J7 Z Z Z) ?_ | refine J (AN rfl J7 Z Z Z) ?_
  refine J (ID (f:=40) Z Z (hwb) rfl UW rfl) (J (D2 hpz rfl Tryz.underlying100 rfl) (AC Z Z (AH (Au (De (α:=Nat) (fun j=>⟨74,[(2,(.ptr 1 0 0)),(3,(.ptr 2 0 0)),(38,(.d (hdr N.mh N.po.length))),(39,(.d (AG (N.po.length:Int)))),(40,(.d (AG (j:Int))))],(1,[excB exc0])::(2,[.blk 4 [.d (BE false)]])::HW mv bs L M⟩) (fun j=>j≤N.po.length∧∀y∈N.po.take j,SZ N y=none) (fun j=>N.po.length - j) (0) (⟨Nat.zero_le _,by simp⟩) (BP hF [1,2,40,50,51] Z Z ⟨rfl,rfl,rfl,rfl,rfl,trivial⟩) ?_)))));rintro j ⟨hj0,hjb⟩;refine AF (AJ ?_)
  first | refine J (C7 Z Z Z) ?_ | refine J (Ca Z Z Z) ?_
  refine AH (AF ?_)
  first | refine BJ rfl (fun h41=>?_) (fun h41=>?_) | refine BB rfl (fun h41=>?_) (fun h41=>?_)
  ·have hj1:j<N.po.length:=DZ h41;refine Am (AF (Au (AF ?_)))
   obtain ⟨y,hy⟩:∃y,N.po[j]?=some y:=⟨_,List.getElem?_eq_getElem hj1⟩
   have hyk:N.po[j]=y:=by rw [List.getElem?_eq_getElem hj1] at hy;injection hy
   have hym:=List.mem_of_getElem? hy;obtain ⟨hyb,hyq⟩:=h.pp j y hy;obtain ⟨rb,rc,hre⟩:=Zc4 hpr (j:=j) (by rw [List.length_range];exact hj1);have hrow:=W2 hpr hre;have hys:=hs y hym;have hov:=RH h hy y.sum (hw.rm y hym) (by omega);have hql:=hw.ql y hym;refine AJ (J (Zc7 hre (j) Z Z Z hj1 Tryz.underlying100 Wj rfl) (J (Eu (f:=40) (e:=j) (off:=0) rfl (by omega) rfl (hrow) ((by rw [List.getElem?_map,List.getElem?_range hj1];rfl)) rfl B8 rfl) ?_));refine U (Cm 4 zl109 Z Z Z Z) (U (Bj Z Z Z Z Z Z Z Wj) (AH (AF (AF (G8 [[],[],[1],[1,2],[1,2,3],[0,1,2,3,4],[0,1,2,3,4,5]] BC rfl (Hq ?_))))))
   first | refine AE [9] [4] Z Z (fun _=>AB (A0 Z Z B8 rfl)) ?_ | refine AE [9] [4] Z Z (fun _=>AB (AY Z Z Z B8 rfl)) ?_ | refine AE [9] [4] Z Z (fun _=>AB (AZ Z Z (rfl) rfl B8 rfl)) ?_
   first | refine AE [9] [4] Z Z (fun _=>AB (A0 Z Z B8 rfl)) ?_ | refine AE [9] [4] Z Z (fun _=>AB (AY Z Z Z B8 rfl)) ?_ | refine AE [9] [4] Z Z (fun _=>AB (AZ Z Z (rfl) rfl B8 rfl)) ?_
   first | refine AE [45] [] Z Z (fun _=>AB (Bc Z Z)) ?_ | refine AI [45] Z Z (fun _=>AB (Bc Z Z)) ?_ | refine AE [45] [] Z Z (fun _=>AB (Ba Z Z)) ?_ | refine AI [45] Z Z (fun _=>AB (Ba Z Z)) ?_ | refine AE [45] [] Z Z (fun _=>AB (Bd Z Z)) ?_ | refine AI [45] Z Z (fun _=>AB (Bd Z Z)) ?_ | refine AE [45] [] Z Z (fun _=>AB (Bb Z Z)) ?_ | refine AI [45] Z Z (fun _=>AB (Bb Z Z)) ?_
   first | refine AE [46] [] Z Z (fun _=>AB (AO rfl IA Z Z Z)) ?_ | refine AI [46] Z Z (fun _=>AB (AO rfl IA Z Z Z)) ?_ | refine AE [46] [] Z Z (fun _=>AB (AQ rfl IA Z Z Z)) ?_ | refine AI [46] Z Z (fun _=>AB (AQ rfl IA Z Z Z)) ?_ | refine AE [46] [] Z Z (fun _=>AB (AR rfl IA Z Z Z)) ?_ | refine AI [46] Z Z (fun _=>AB (AR rfl IA Z Z Z)) ?_ | refine AE [46] [] Z Z (fun _=>AB (AP rfl IA Z Z Z)) ?_ | refine AI [46] Z Z (fun _=>AB (AP rfl IA Z Z Z)) ?_ | refine AE [46] [] Z Z (fun _=>AB (AN rfl IA Z Z Z)) ?_ | refine AI [46] Z Z (fun _=>AB (AN rfl IA Z Z Z)) ?_
   refine AE [47] [40] Z Z (fun _=>AB (ID (f:=40) Z Z (hyb) rfl Be rfl)) (GZ 5 Z Z Z (BD 6 Z Z (U (HQ hov rfl [40] ⟨rfl,trivial⟩ Z Z Z Z Z Z Z Z Z) (AH ⟨rfl,?_⟩))));refine BD 7 Z Z ?_
   cases hovy:ovP y y.sum
   ·first | refine J (F2 Z Z) ?_ | refine J (FT Z Z) ?_
    refine AH ⟨rfl,?_⟩;refine GY (Dg rfl (rfl) (C6 ?_));have hpnone:SZ N y=none:=by unfold SZ;first | (rw [if_neg (by rw [hovy];decide)]) | (rw [if_pos hovy,←ho];rfl)
    refine AJ (J (Bi Z Z (A6 (j+1) (by omega)) rfl) (AC Z Z (AH ?_)));exact ⟨j+1,⟨by show j+1≤_;omega,by rw [List.take_succ_eq_append_getElem hj1];intro e he;rcases List.mem_append.1 he with he | he;exact hjb e he;rw [List.mem_singleton.1 he,hyk];exact hpnone⟩,by show N.po.length - (j+1)<N.po.length - j;omega,BP hF [1,2,40,50,51] rfl (rfl) ⟨rfl,rfl,rfl,rfl,rfl,trivial⟩⟩
   ·first | refine J (F2 Z Z) ?_ | refine J (FT Z Z) ?_
    refine AH ⟨rfl,?_⟩;refine GY (Ey rfl (rfl) (Am (AF (AJ ?_))))
    first | refine J (A0 Z Z B8 rfl) ?_ | refine J (AY Z Z Z B8 rfl) ?_ | refine J (AZ Z Z (rfl) rfl B8 rfl) ?_
    first | refine J (Bc Z Z) ?_ | refine J (Ba Z Z) ?_ | refine J (Bd Z Z) ?_ | refine J (Bb Z Z) ?_
    first | refine J (AO rfl Ga Z Z Z) ?_ | refine J (AQ rfl Ga Z Z Z) ?_ | refine J (AR rfl Ga Z Z Z) ?_ | refine J (AP rfl Ga Z Z Z) ?_ | refine J (AN rfl Ga Z Z Z) ?_
    refine J (ID (f:=40) Z Z (hyb) rfl I7 rfl) (U (HQ (backF_c y.qh y.q.length) rfl [] trivial Z Z Z Z Z Z Z Z Z) (AH (Au ?_)));refine QW [2,3,9,38,39,40,55] rfl ?_;refine MR (γ:=Option Nat) hFl 900 Z Z Z Z Z [1,2,4,40,50,51] (CHr:=hBk N y (pb j) mv bs L M none) (fun o=>o=y.q.reverse.find? (onN N)) (fun o=>hBk N y (pb j) mv bs L M o) (fun o=>stRO o.isSome) (fun o=>pdRO o.isSome) ⟨rfl,rfl,rfl,rfl,rfl,rfl,trivial⟩ Z Z Z (fun _=>rfl) (fun _=>rfl) rfl (fun o _=>by cases o<;>simp [stRO]) (fun _ _=>⟨rfl,rfl⟩) [1,2,4,40,50,51] hF Z Z (fun _ _=>rfl) (fun l A B hA hB=>?_) (fun o ho=>?_)
    ·refine (back1_c nb y.q (by omega) hyq l (fun o:Option Nat=>(900,[.loop ⟨l,74,[(2,.ptr 1 0 0),(3,.ptr 2 0 0),(9,.ptr 4 0 0),(38,.d (hdr N.mh N.po.length)),(39,.d (AG (N.po.length:Int))),(40,.d (AG (j:Int))),(55,.fn Y7 [.d (.ptr (hdr y.qh y.q.length))])],stRO o.isSome,pdRO o.isSome, #[56,57],A,B⟩])::hBk N y (pb j) mv bs L M o) [900,1,2,4,40,50,51] (HY N) none (fun _=>rfl) (fun _=>rfl) (fun _=>rfl) (fun _=>rfl) ?_).mono (fun r H' ⟨e1,e2⟩=>⟨e1,_,rfl,by rw [e2,Y5 N y.q y.q.length (Nat.le_refl _),List.take_length]⟩);refine Uc N y.q (fun k2 hk2=>?_) y.q.length (Nat.le_refl _);have hni:y.q[k2]<N.nd.length:=h.q y hym _ (List.getElem_mem hk2)
     obtain ⟨x,hx⟩:∃x,N.nd[y.q[k2]]?=some x:=⟨_,List.getElem?_eq_getElem hni⟩
     obtain ⟨hxb,_,_⟩:=h.nn _ x hx;have hgx:N.nd.getD y.q[k2] Bu=x:=by rw [List.getD_eq_getElem?_getD,hx];rfl
     have hon:onN N y.q[k2]=x.on:=by unfold onN;rw [hgx]
     refine Jb (lf:=900) Z Z Z Z fun F hF hr=>(By.code hA (AJ (AD Z Z (AH (⟨rfl,_,_,rfl,rfl,rfl,rfl,?_⟩)))));refine By.code hB (Au (AF (AJ (AC Z Z ?_))))
     first | refine J (Bc Z Z) ?_ | refine J (Ba Z Z) ?_ | refine J (Bd Z Z) ?_ | refine J (Bb Z Z) ?_
     first | refine J (AO rfl MB Z Z Z) ?_ | refine J (AQ rfl MB Z Z Z) ?_ | refine J (AR rfl MB Z Z Z) ?_ | refine J (AP rfl MB Z Z Z) ?_ | refine J (AN rfl MB Z Z Z) ?_
     refine J (ID (f:=40) Z Z (hxb) rfl on4 rfl) (AH ?_)
     first | refine BJ rfl (fun h61=>?_) (fun h61=>?_) | refine BB rfl (fun h61=>?_) (fun h61=>?_)
     ·refine AF (G8 [[],[0],[0,1],[0,1,2],[0,1,2,3],[],[5],[5,6],[5,6,7],[0,1,2,3,4,5,6,7,8],[0,1,2,3,4,5,6,7,8,9],[0,1,2,3,4,5,6,7,8,9,10]] BC rfl (Hq ?_))
      first | refine AE [11] [] Z Z (fun _=>AB (B7 Z Z)) ?_ | refine AI [11] Z Z (fun _=>AB (B7 Z Z)) ?_
      first | refine AE [62] [] Z Z (fun _=>AB (Bc Z Z)) ?_ | refine AI [62] Z Z (fun _=>AB (Bc Z Z)) ?_ | refine AE [62] [] Z Z (fun _=>AB (Ba Z Z)) ?_ | refine AI [62] Z Z (fun _=>AB (Ba Z Z)) ?_ | refine AE [62] [] Z Z (fun _=>AB (Bd Z Z)) ?_ | refine AI [62] Z Z (fun _=>AB (Bd Z Z)) ?_ | refine AE [62] [] Z Z (fun _=>AB (Bb Z Z)) ?_ | refine AI [62] Z Z (fun _=>AB (Bb Z Z)) ?_
      first | refine AE [63] [] Z Z (fun _=>AB (AO rfl FY Z Z Z)) ?_ | refine AI [63] Z Z (fun _=>AB (AO rfl FY Z Z Z)) ?_ | refine AE [63] [] Z Z (fun _=>AB (AQ rfl FY Z Z Z)) ?_ | refine AI [63] Z Z (fun _=>AB (AQ rfl FY Z Z Z)) ?_ | refine AE [63] [] Z Z (fun _=>AB (AR rfl FY Z Z Z)) ?_ | refine AI [63] Z Z (fun _=>AB (AR rfl FY Z Z Z)) ?_ | refine AE [63] [] Z Z (fun _=>AB (AP rfl FY Z Z Z)) ?_ | refine AI [63] Z Z (fun _=>AB (AP rfl FY Z Z Z)) ?_ | refine AE [63] [] Z Z (fun _=>AB (AN rfl FY Z Z Z)) ?_ | refine AI [63] Z Z (fun _=>AB (AN rfl FY Z Z Z)) ?_
      first | refine AE [64] [] Z Z (fun _=>AB (AO rfl B4 Z Z Z)) ?_ | refine AI [64] Z Z (fun _=>AB (AO rfl B4 Z Z Z)) ?_ | refine AE [64] [] Z Z (fun _=>AB (AQ rfl B4 Z Z Z)) ?_ | refine AI [64] Z Z (fun _=>AB (AQ rfl B4 Z Z Z)) ?_ | refine AE [64] [] Z Z (fun _=>AB (AR rfl B4 Z Z Z)) ?_ | refine AI [64] Z Z (fun _=>AB (AR rfl B4 Z Z Z)) ?_ | refine AE [64] [] Z Z (fun _=>AB (AP rfl B4 Z Z Z)) ?_ | refine AI [64] Z Z (fun _=>AB (AP rfl B4 Z Z Z)) ?_ | refine AE [64] [] Z Z (fun _=>AB (AN rfl B4 Z Z Z)) ?_ | refine AI [64] Z Z (fun _=>AB (AN rfl B4 Z Z Z)) ?_
      refine AE [65] [40] Z Z (fun _=>AB (ID (f:=40) Z Z (hxb) rfl A9 rfl)) ?_
      first | refine AE [9] [4] Z Z (fun _=>AB (A0 Z Z B8 rfl)) ?_ | refine AE [9] [4] Z Z (fun _=>AB (AY Z Z Z B8 rfl)) ?_ | refine AE [9] [4] Z Z (fun _=>AB (AZ Z Z (rfl) rfl B8 rfl)) ?_
      first | refine AE [67] [] Z Z (fun _=>AB (Bc Z Z)) ?_ | refine AI [67] Z Z (fun _=>AB (Bc Z Z)) ?_ | refine AE [67] [] Z Z (fun _=>AB (Ba Z Z)) ?_ | refine AI [67] Z Z (fun _=>AB (Ba Z Z)) ?_ | refine AE [67] [] Z Z (fun _=>AB (Bd Z Z)) ?_ | refine AI [67] Z Z (fun _=>AB (Bd Z Z)) ?_ | refine AE [67] [] Z Z (fun _=>AB (Bb Z Z)) ?_ | refine AI [67] Z Z (fun _=>AB (Bb Z Z)) ?_
      first | refine AE [68] [] Z Z (fun _=>AB (AO rfl G9 Z Z Z)) ?_ | refine AI [68] Z Z (fun _=>AB (AO rfl G9 Z Z Z)) ?_ | refine AE [68] [] Z Z (fun _=>AB (AQ rfl G9 Z Z Z)) ?_ | refine AI [68] Z Z (fun _=>AB (AQ rfl G9 Z Z Z)) ?_ | refine AE [68] [] Z Z (fun _=>AB (AR rfl G9 Z Z Z)) ?_ | refine AI [68] Z Z (fun _=>AB (AR rfl G9 Z Z Z)) ?_ | refine AE [68] [] Z Z (fun _=>AB (AP rfl G9 Z Z Z)) ?_ | refine AI [68] Z Z (fun _=>AB (AP rfl G9 Z Z Z)) ?_ | refine AE [68] [] Z Z (fun _=>AB (AN rfl G9 Z Z Z)) ?_ | refine AI [68] Z Z (fun _=>AB (AN rfl G9 Z Z Z)) ?_
      refine AE [69] [40] Z Z (fun _=>AB (OM (f:=40) Z Z (hyb) Ab Z Z (by simp [D.one]) rfl)) (GZ 9 Z Z Z (BD 10 Z Z (J (Cu Ic RB Z Z Z) (AH ⟨rfl,?_⟩))));refine BD 11 Z Z (U (Bj Z Z Z Z Z Z Z Jh) (AH ⟨rfl,?_⟩));refine BD 12 Z Z (U (Bj Z Z Z Z Z Z Z sz4) (AH ⟨rfl,?_⟩));refine GY (Af ?_);have ho1:onN N y.q[k2]=true:=by rw [hon];simpa using h61
      exact ⟨some .ret,_,_,[900,1,2,4,40,50,51],_,rfl,rfl,rfl,rfl,rfl,rfl,by rw [ho1];rfl,by rw [if_pos ho1];simp only [hBk,fndE,hgx];rfl⟩
     ·refine Am ?_;have ho1:onN N y.q[k2]=false:=by rw [hon];simpa using h61
      exact ⟨none,_,_,[900,1,2,4,40,50,51],_,rfl,rfl,rfl,rfl,rfl,rfl,by rw [ho1];rfl,by rw [if_neg (by rw [ho1];decide)];rfl⟩
    ·rcases o with _ | i0
     ·have hpnone:SZ N y=none:=by unfold SZ;first | (rw [if_neg (by rw [hovy];decide)]) | (rw [if_pos hovy,←ho];rfl)
      refine AJ (J (Bi Z Z (A6 (j+1) (by omega)) rfl) (AC Z Z (AH ?_)));exact ⟨j+1,⟨by show j+1≤_;omega,by rw [List.take_succ_eq_append_getElem hj1];intro e he;rcases List.mem_append.1 he with he | he;exact hjb e he;rw [List.mem_singleton.1 he,hyk];exact hpnone⟩,by show N.po.length - (j+1)<N.po.length - j;omega,BP hF [1,2,40,50,51] rfl (rfl) ⟨rfl,rfl,rfl,rfl,rfl,trivial⟩⟩
     ·show By _ _ .ret _ _;refine Af ?_;exact ⟨_,[40,50,51],_,Ae rfl,rfl,rfl,by unfold Cs;rw [hnn];dsimp only;rw [Hk hj1 hjb (by rw [hyk];unfold SZ;rw [if_pos hovy,←ho];rfl)];rfl,rfl⟩
  ·refine C6 (AF (AJ (J (Cu Ic RB Z Z Z) (U (Bj Z Z Z Z Z Z Z Jh) (U (Bj Z Z Z Z Z Z Z sz4) (AH (Af ?_)))))));exact ⟨_,[40,50,51],_,Ae rfl,rfl,rfl,by unfold Cs;rw [hnn];dsimp only;rw [Hj (by have e:j=N.po.length:=(by have h:=h41;omega);rw [e,List.take_length] at hjb;exact hjb)];rfl,rfl⟩
theorem SR.splitH {F:Fr} {s:AS} {ρ:Nat ->Nat ->Value} {act:Act} {w:World} (hs:SR F s ρ act w) (t g f:Nat) {M:MF} {T:TypeId} {kk m:Nat} {h:Hd} {xs:List D} {env':List (Nat×AV)} {hp1 hp':Hp} (hne:Nat.beq g f=false)
  (ht:get s.env t=some (.d (hdr h m))) (hn:m=xs.length) (hM:hfam s.hp f=some [.multi M]) (hr:B3 M h T kk xs) (hE:Ac g s.env=some env') (hH:Aa g s.hp=some hp1) (hz:hfam hp1 g=none) (hm:CO hp1 f (Bq M h)=some hp'):
  ∃v,SR F ⟨s.n,(t,.own g 0 m)::env',(g,[.rowD T kk xs])::hp'⟩ (upd ρ g 0 v) act w:=by
 match h,ht,hr,hm with
 | some (b,cap),ht,hr,hm=>exact ⟨_,hs.splitR t g f (cap:=cap) (b:=b) hne ht hn hM hr.2 hE hH hz hm⟩
 | none,ht,hr,hm=>
  have hxs:xs=[]:=hr;subst hxs hn;have hgf:g≠f:=Nat.ne_of_beq_eq_false hne;refine ⟨.slice none 0 0,?_⟩
  have hhp:hp'=hp1:=by
   have key:∀(H H':Hp),hfam H f=some [.multi M] ->CO H f M=some H' ->H'=H:=by
    intro H
    induction H with
    | nil=>intro H' h;cases h
    | cons p r ih=>
     obtain ⟨k,l⟩:=p;intro H' h1 h2;simp only [hfam] at h1;simp only [CO] at h2
     cases hk:Nat.beq k f with
     | true=>
      rw [hk] at h1 h2;injection h1 with h1
      subst h1;simp only [isM] at h2;injection h2 with h2;exact h2.symm
     | false=>
      rw [hk] at h1 h2;dsimp only at h1 h2
      cases hr:CO r f M with
      | none=>rw [hr] at h2;cases h2
      | some r'=>
       rw [hr] at h2;injection h2 with h2
       rw [←h2,ih r' h1 hr]
   obtain ⟨a1,a2⟩:=Az hH
   have hM1:hfam hp1 f=some [.multi M]:=by
    have key2:∀(H H':Hp),CL (Bp g) H=some H' ->hfam H f=some [.multi M] ->hfam H' f=some [.multi M]:=by
     intro H
     induction H with
     | nil=>intro H' _ h;cases h
     | cons p r ih=>
      obtain ⟨k,l⟩:=p;intro H' h1 h2;simp only [CL] at h1
      cases hr:CL (Bp g) r with
      | none=>rw [hr] at h1;cases h1
      | some r'=>
       rw [hr] at h1
       cases hl:DF (Bp g) l with
       | none=>rw [hl] at h1;cases h1
       | some l'=>
        rw [hl] at h1;injection h1 with h1;subst h1
        simp only [hfam] at h2⊢
        cases hk:Nat.beq k f with
        | true=>
         rw [hk] at h2;injection h2 with h2;subst h2
         simp only [DF,CQ] at hl;injection hl with hl;rw [←hl]
        | false=>rw [hk] at h2;exact ih r' hr h2
    exact key2 _ _ hH hM
   exact key hp1 hp' hM1 hm
  rw [hhp]
  have h1:SR F ⟨s.n,(t,.d (.sl (some true) []))::s.env,s.hp⟩ ρ act w:=⟨hs.size,hs.defs,fun t' a ha=>by
   rcases K7 ha with ⟨rfl,rfl⟩ | ⟨_,ha⟩
   ·have hr:=hs.env t _ ht
    generalize act.tmps.getD t undef=x at hr⊢
    cases hr with
    | d h=>cases h with
     | raw _=>exact .d (.sl 0 (fun b hb=>by cases hb;rfl) (fun _=>rfl) rfl (Nat.le_refl _) (Nat.zero_le _) (fun x hx=>by cases hx) (fun h=>absurd rfl h) (fun b o hb=>by cases hb))
   ·exact hs.env t' a ha,hs.heap⟩
  obtain ⟨k1,k2⟩:=Az hH
  have hz':∀i,hget s.hp g i=none:=fun i=>by
   cases hq:hget s.hp g i with
   | none=>rfl
   | some o=>
    obtain ⟨o2,q1,_⟩:=k2 _ _ _ hq;unfold hget at q1;rw [hz] at q1;cases q1
  have h2:=hs.set g 0 (.rowD T kk []) (.slice none 0 0) (hp':=(g,[.rowD T kk []])::hp1) hE hH (fun f' i=>by
   by_cases e:g=f'
   ·subst e;simp only [hget,hfam,Nat.beq_refl,Option.bind_some,true_and,LG (o:= .rowD T kk []) rfl,hz,Option.bind_none]
    cases i<;>simp
   ·simp only [hget,hfam,Ef e]
    rw [if_neg (fun hh=>e hh.1.symm)]) (fun t cs e=>by rw [hz'] at e;cases e) (fun b hb=>by cases hb) rfl rfl rfl (Nat.le_refl _) (fun _ _ _=>rfl) (fun _=>⟨[],World.ownsRow_nil w 0 T kk,⟨by simp,by simp,fun i x hx=>by simp at hx⟩,by simp⟩)
  refine ⟨h2.size,h2.defs,fun t' a ha=>?_,h2.heap⟩;rcases K7 ha with ⟨rfl,rfl⟩ | ⟨_,ha⟩
  ·have hr:=hs.env t _ ht
   generalize act.tmps.getD t undef=x at hr⊢
   cases hr with
   | d h=>cases h with | raw _=>exact .own QX (Nat.le_refl _)
  ·exact h2.env t' a ha
section
variable {P:Program} {F:Fr} {Q:Exit ->AS ->Prop} {c:Code} {ops:Array Oper} {l:List Oper} {n:Nat} {env env1 env':List (Nat×AV)} {hp hp1 hp2 hp3:Hp}
theorem Jm {o:Oper} (t g f:Nat) {M:MF} {T:TypeId} {kk m:Nat} {h:Hd} {xs:List D} {hp':Hp} {s2:AS} (hr:B3 M h T kk xs) (hne:Nat.beq g f=false) (ht:get env t=some (.d (hdr h m))) (hn:m=xs.length) (hM:hfam hp f=some [.multi M]) (hE:Ac g env=some env') (hH:Aa g hp=some hp1) (hz:hfam hp1 g=none) (hm:CO hp1 f (Bq M h)=some hp')
  (h2:AL P F o ⟨n,(t,.own g 0 m)::env',(g,[.rowD T kk xs])::hp'⟩ s2 (Bp g)):AL P F o ⟨n,env,hp⟩ s2 (Bp g):=fun ρ act w hs=>by
 obtain ⟨v,h1⟩:=hs.splitH t g f hne ht hn hM hr hE hH hz hm;exact Zc6 (fun a w' ⟨ρ',h3,h4⟩=>⟨ρ',h3,fun f i hfi=>(h4 f i hfi).trans (Nl fun e=>Te hfi e.1)⟩) (h2 _ act w h1)
end
theorem Cy.row {wb mv:Nat} {nb pb:Nat ->Nat} {N N':Net} {M:MF} (h:Cy wb mv nb pb N M) (r0:RI) {w0 w1:RowM} (e0:C4 nb pb N r0=w0) (e1:C4 nb pb N' r0=w1) (hR:∀r,r≠r0 ->C4 nb pb N' r=C4 nb pb N r) {b cap:Nat} (hb:Bq M w0.h b=none) (h0:w1.h=some (b,cap)) (hl:w1.xs.length≤cap):
  fSq (Cx (Bq M w0.h) b (.row w1.t w1.k cap w1.xs)) (C4 nb pb N')∧∀(b':Nat) (t:TypeId) (cs:List D),M b'=some (.cells t cs) ->Cx (Bq M w0.h) b (.row w1.t w1.k cap w1.xs) b'=some (.cells t cs):=by
 subst e0 e1;refine ⟨h.rs.upd r0 hR hb h0 hl,fun b' t cs hm=>keepM hb hm fun c hc=>?_⟩;have:=h.rs.blk hc;rw [hm] at this;cases this
theorem Cy.putNd {wb mv:Nat} {nb pb:Nat ->Nat} {N:Net} {M M1:MF} (h:Cy wb mv nb pb N M) {i:Nat} {x x':Nd} (hx:N.nd[i]?=some x) (hc:∀(b':Nat) (t:TypeId) (cs:List D),M b'=some (.cells t cs) ->M1 b'=some (.cells t cs)) (hr:fSq M1 (C4 nb pb {N with nd:=N.nd.set i x'})) (he:(∀e∈x'.ef,e.1<N.po.length)∧∀e∈x'.pl,e.1<N.po.length):
  Cy wb mv nb pb {N with nd:=N.nd.set i x'} (Cx M1 (nb i) (TK x')):=by
 have hb:=h.n i x hx;have hil:=(List.getElem?_eq_some_iff.1 hx).1
 have hne:∀(b:Nat) (t:TypeId) (cs:List D),t≠107 ->M b=some (.cells t cs) ->Cx M1 (nb i) (TK x') b=some (.cells t cs):=fun b t cs ht hm=>by
  rw [PO]
  ·exact hc _ _ _ hm
  ·rintro rfl;rw [hb] at hm;injection hm with hm;injection hm with hm;exact ht hm.symm
 refine ⟨fun j z hz=>?_,fun j y hy=>hne _ _ _ (by decide) (h.p j y hy),hr.cells (hc _ _ _ hb),?_,fun j k hj hk=>h.ni j k (by simpa using hj) (by simpa using hk),h.pi,fun z hz=>?_,fun y hy=>?_⟩
 ·have hz2:(N.nd.set i x')[j]?=some z:=hz
  clear hz
  have hjl:j<N.nd.length:=by have:=(List.getElem?_eq_some_iff.1 hz2).1;rw [List.length_set] at this;exact this
  rw [List.getElem?_set] at hz2
  split at hz2
  ·rename_i e;subst e
   have e2:z=x':=by first | exact (Option.some.inj hz2).symm | (rw [if_pos hil] at hz2;exact (Option.some.inj hz2).symm)
   rw [e2];exact Q3 _ _ _
  ·rename_i e
   rw [PO]
   ·exact hc _ _ _ (h.n j z hz2)
   ·intro e2;exact e (h.ni j i hjl hil e2).symm
 ·show Cx M1 (nb i) (TK x') wb=some (.cells _ [hdr N.nh (N.nd.set i x').length,hdr N.mh N.po.length,_]);rw [List.length_set];exact hne _ _ _ (by decide) h.w
 ·rcases List.mem_or_eq_of_mem_set hz with hz | rfl
  ·exact h.e z hz
  ·exact he
 ·have:=h.q y hy
  simpa using this
theorem Cy.putPo {wb mv:Nat} {nb pb:Nat ->Nat} {N:Net} {M M1:MF} (h:Cy wb mv nb pb N M) {j:Nat} {y y':Po} (hy:N.po[j]?=some y) (hc:∀(b':Nat) (t:TypeId) (cs:List D),M b'=some (.cells t cs) ->M1 b'=some (.cells t cs)) (hr:fSq M1 (C4 nb pb {N with po:=N.po.set j y'})) (hq:∀i∈y'.q,i<N.nd.length):
  Cy wb mv nb pb {N with po:=N.po.set j y'} (Cx M1 (pb j) (TB y')):=by
 have hb:=h.p j y hy;have hjl:=(List.getElem?_eq_some_iff.1 hy).1
 have hne:∀(b:Nat) (t:TypeId) (cs:List D),t≠113 ->M b=some (.cells t cs) ->Cx M1 (pb j) (TB y') b=some (.cells t cs):=fun b t cs ht hm=>by
  rw [PO]
  ·exact hc _ _ _ hm
  ·rintro rfl;rw [hb] at hm;injection hm with hm;injection hm with hm;exact ht hm.symm
 refine ⟨fun i x hx=>hne _ _ _ (by decide) (h.n i x hx),fun i z hz=>?_,hr.cells (hc _ _ _ hb),?_,h.ni,fun i k hi hk=>h.pi i k (by simpa using hi) (by simpa using hk),fun x hx=>?_,fun z hz=>?_⟩
 ·have hz2:(N.po.set j y')[i]?=some z:=hz
  clear hz
  have hil:i<N.po.length:=by have:=(List.getElem?_eq_some_iff.1 hz2).1;rw [List.length_set] at this;exact this
  rw [List.getElem?_set] at hz2
  split at hz2
  ·rename_i e;subst e
   have e2:z=y':=by first | exact (Option.some.inj hz2).symm | (rw [if_pos hjl] at hz2;exact (Option.some.inj hz2).symm)
   rw [e2];exact Q3 _ _ _
  ·rename_i e
   rw [PO]
   ·exact hc _ _ _ (h.p i z hz2)
   ·intro e2;exact e (h.pi i j hil hjl e2).symm
 ·show Cx M1 (pb j) (TB y') wb=some (.cells _ [hdr N.nh N.nd.length,hdr N.mh (N.po.set j y').length,_]);rw [List.length_set];exact hne _ _ _ (by decide) h.w
 ·have:=h.e x hx
  simpa using this
 ·rcases List.mem_or_eq_of_mem_set hz with hz | rfl
  ·exact h.q z hz
  ·exact hq
abbrev effT:TypeId:=111
abbrev plaT:TypeId:=167
abbrev pnT:TypeId:=99
abbrev UN:TypeId:=109
def FR (x:Nd) (b cap:Nat) (e:Nat×Int):Nd:={x with eh:=some (b,cap),ef:=x.ef++ [e]}
def Hx (x:Nd) (b cap:Nat) (e:Nat×Nat):Nd:={x with ph:=some (b,cap),pl:=x.pl++ [e]}
def K6 (y:Po) (b cap:Nat) (i:Nat):Po:={y with qh:=some (b,cap),q:=y.q++ [i]}
theorem Cy.addE {wb mv:Nat} {nb pb:Nat ->Nat} {N:Net} {M:MF} (h:Cy wb mv nb pb N M) {i:Nat} {x:Nd} (hx:N.nd[i]?=some x) (e:Nat×Int) (he:e.1<N.po.length) {b cap:Nat} (hb:Bq M x.eh b=none) (hl:((x.ef++ [e]).map (efD pb)).length≤cap):
  Cy wb mv nb pb {N with nd:=N.nd.set i (FR x b cap e)} (Cx (Cx (Bq M x.eh) b (.row effT 2 cap ((x.ef++ [e]).map (efD pb)))) (nb i) (TK (FR x b cap e))):=by
 have hil:=(List.getElem?_eq_some_iff.1 hx).1
 obtain ⟨h1,h2⟩:=h.row (N':={N with nd:=N.nd.set i (FR x b cap e)}) (.e i) (w0:=⟨x.eh,effT,2,x.ef.map (efD pb)⟩) (w1:=⟨some (b,cap),effT,2,(x.ef++ [e]).map (efD pb)⟩)
  (by show (⟨(N.nd.getD i Bu).eh,_,_,(N.nd.getD i Bu).ef.map _⟩:RowM)=_;rw [Fd hx])
  (by show (⟨((N.nd.set i (FR x b cap e)).getD i Bu).eh,_,_,((N.nd.set i (FR x b cap e)).getD i Bu).ef.map _⟩:RowM)=_;rw [Yy hil,if_pos rfl];rfl)
  (fun r hr=>by
   cases r with
   | q j=>rfl
   | m=>rfl
   | n=>show (⟨_,_,_,(List.range (N.nd.set i (FR x b cap e)).length).map _⟩:RowM)=_;rw [List.length_set];rfl
   | e k=>
    show (⟨((N.nd.set i (FR x b cap e)).getD k Bu).eh,_,_,((N.nd.set i (FR x b cap e)).getD k Bu).ef.map _⟩:RowM)=⟨(N.nd.getD k Bu).eh,_,_,(N.nd.getD k Bu).ef.map _⟩
    rw [Yy hil,if_neg (fun e=>hr (by rw [e]))]
   | p k=>
    show (⟨((N.nd.set i (FR x b cap e)).getD k Bu).ph,_,_,((N.nd.set i (FR x b cap e)).getD k Bu).pl.map _⟩:RowM)=⟨(N.nd.getD k Bu).ph,_,_,(N.nd.getD k Bu).pl.map _⟩
    rw [Yy hil,GS hx k Bu]
    split<;>rfl) hb rfl hl
 refine h.putNd hx h2 h1 ⟨fun z hz=>?_,(h.e x (List.mem_of_getElem? hx)).2⟩;rcases List.mem_append.1 hz with hz | hz
 ·exact (h.e x (List.mem_of_getElem? hx)).1 z hz
 ·rw [List.mem_singleton.1 hz];exact he
theorem Cy.addP {wb mv:Nat} {nb pb:Nat ->Nat} {N:Net} {M:MF} (h:Cy wb mv nb pb N M) {i:Nat} {x:Nd} (hx:N.nd[i]?=some x) (e:Nat×Nat) (he:e.1<N.po.length) {b cap:Nat} (hb:Bq M x.ph b=none) (hl:((x.pl++ [e]).map (plD pb)).length≤cap):
  Cy wb mv nb pb {N with nd:=N.nd.set i (Hx x b cap e)} (Cx (Cx (Bq M x.ph) b (.row plaT 2 cap ((x.pl++ [e]).map (plD pb)))) (nb i) (TK (Hx x b cap e))):=by
 have hil:=(List.getElem?_eq_some_iff.1 hx).1
 obtain ⟨h1,h2⟩:=h.row (N':={N with nd:=N.nd.set i (Hx x b cap e)}) (.p i) (w0:=⟨x.ph,plaT,2,x.pl.map (plD pb)⟩) (w1:=⟨some (b,cap),plaT,2,(x.pl++ [e]).map (plD pb)⟩)
  (by show (⟨(N.nd.getD i Bu).ph,_,_,(N.nd.getD i Bu).pl.map _⟩:RowM)=_;rw [Fd hx])
  (by show (⟨((N.nd.set i (Hx x b cap e)).getD i Bu).ph,_,_,((N.nd.set i (Hx x b cap e)).getD i Bu).pl.map _⟩:RowM)=_;rw [Yy hil,if_pos rfl];rfl)
  (fun r hr=>by
   cases r with
   | q j=>rfl
   | m=>rfl
   | n=>show (⟨_,_,_,(List.range (N.nd.set i (Hx x b cap e)).length).map _⟩:RowM)=_;rw [List.length_set];rfl
   | p k=>
    show (⟨((N.nd.set i (Hx x b cap e)).getD k Bu).ph,_,_,((N.nd.set i (Hx x b cap e)).getD k Bu).pl.map _⟩:RowM)=⟨(N.nd.getD k Bu).ph,_,_,(N.nd.getD k Bu).pl.map _⟩
    rw [Yy hil,if_neg (fun e=>hr (by rw [e]))]
   | e k=>
    show (⟨((N.nd.set i (Hx x b cap e)).getD k Bu).eh,_,_,((N.nd.set i (Hx x b cap e)).getD k Bu).ef.map _⟩:RowM)=⟨(N.nd.getD k Bu).eh,_,_,(N.nd.getD k Bu).ef.map _⟩
    rw [Yy hil,GS hx k Bu]
    split<;>rfl) hb rfl hl
 refine h.putNd hx h2 h1 ⟨(h.e x (List.mem_of_getElem? hx)).1,fun z hz=>?_⟩;rcases List.mem_append.1 hz with hz | hz
 ·exact (h.e x (List.mem_of_getElem? hx)).2 z hz
 ·rw [List.mem_singleton.1 hz];exact he
theorem Cy.addQ {wb mv:Nat} {nb pb:Nat ->Nat} {N:Net} {M:MF} (h:Cy wb mv nb pb N M) {j:Nat} {y:Po} (hy:N.po[j]?=some y) {i:Nat} (hi:i<N.nd.length) {b cap:Nat} (hb:Bq M y.qh b=none) (hl:((y.q++ [i]).map fun i=>BX (nb i)).length≤cap):
  Cy wb mv nb pb {N with po:=N.po.set j (K6 y b cap i)} (Cx (Cx (Bq M y.qh) b (.row pnT 1 cap ((y.q++ [i]).map fun i=>BX (nb i)))) (pb j) (TB (K6 y b cap i))):=by
 have hjl:=(List.getElem?_eq_some_iff.1 hy).1
 obtain ⟨h1,h2⟩:=h.row (N':={N with po:=N.po.set j (K6 y b cap i)}) (.q j) (w0:=⟨y.qh,pnT,1,y.q.map fun i=>BX (nb i)⟩) (w1:=⟨some (b,cap),pnT,1,(y.q++ [i]).map fun i=>BX (nb i)⟩)
  (by show (⟨(N.po.getD j DI).qh,_,_,(N.po.getD j DI).q.map _⟩:RowM)=_;rw [Fd hy])
  (by show (⟨((N.po.set j (K6 y b cap i)).getD j DI).qh,_,_,((N.po.set j (K6 y b cap i)).getD j DI).q.map _⟩:RowM)=_;rw [Yy hjl,if_pos rfl];rfl)
  (fun r hr=>by
   cases r with
   | e k=>rfl
   | p k=>rfl
   | n=>rfl
   | m=>show (⟨_,_,_,(List.range (N.po.set j (K6 y b cap i)).length).map _⟩:RowM)=_;rw [List.length_set];rfl
   | q k=>
    show (⟨((N.po.set j (K6 y b cap i)).getD k DI).qh,_,_,((N.po.set j (K6 y b cap i)).getD k DI).q.map _⟩:RowM)=⟨(N.po.getD k DI).qh,_,_,(N.po.getD k DI).q.map _⟩
    rw [Yy hjl,if_neg (fun e=>hr (by rw [e]))]) hb rfl hl
 refine h.putPo hy h2 h1 fun z hz=>?_;rcases List.mem_append.1 hz with hz | hz
 ·exact h.q y (List.mem_of_getElem? hy) z hz
 ·rw [List.mem_singleton.1 hz];exact hi
def GW (x:Nd):Nd:={x with eh:=none,ph:=none}
def Cw (y:Po):Po:={y with qh:=none}
def BR (N:Net):Net:=⟨N.nd.map GW,N.po.map Cw,none,none⟩
def jnX (x:Nd) (j:Nat) (n:Nat) (a:Int):Nd:={x with ef:=x.ef++ [(j,a)],pl:=if a<0 then x.pl++ [(j,n)] else x.pl}
def jnY (y:Po) (i:Nat) (a:Int):Po:={y with sum:=y.sum+a,q:=if a<0 then y.q++ [i] else y.q}
theorem Cy.keepE {wb mv:Nat} {nb pb:Nat ->Nat} {N:Net} {M:MF} (h:Cy wb mv nb pb N M) {i:Nat} {x:Nd} (hx:N.nd[i]?=some x) {b:Nat} (hb:Bq M x.eh b=none) {v:BV} {b':Nat} {t:TypeId} {cs:List D} (hm:M b'=some (.cells t cs)):Cx (Bq M x.eh) b v b'=some (.cells t cs):=
 keepM hb hm fun c hc=>by have:=W2 (h.nn i x hx).2.1 hc;rw [hm] at this;cases this
theorem Cy.keepP {wb mv:Nat} {nb pb:Nat ->Nat} {N:Net} {M:MF} (h:Cy wb mv nb pb N M) {i:Nat} {x:Nd} (hx:N.nd[i]?=some x) {b:Nat} (hb:Bq M x.ph b=none) {v:BV} {b':Nat} {t:TypeId} {cs:List D} (hm:M b'=some (.cells t cs)):Cx (Bq M x.ph) b v b'=some (.cells t cs):=
 keepM hb hm fun c hc=>by have:=W2 (h.nn i x hx).2.2 hc;rw [hm] at this;cases this
theorem Cy.keepQ {wb mv:Nat} {nb pb:Nat ->Nat} {N:Net} {M:MF} (h:Cy wb mv nb pb N M) {j:Nat} {y:Po} (hy:N.po[j]?=some y) {b:Nat} (hb:Bq M y.qh b=none) {v:BV} {b':Nat} {t:TypeId} {cs:List D} (hm:M b'=some (.cells t cs)):Cx (Bq M y.qh) b v b'=some (.cells t cs):=
 keepM hb hm fun c hc=>by have:=W2 (h.pp j y hy).2 hc;rw [hm] at this;cases this
set_option maxHeartbeats 1000000 in
theorem join_c {wb mv:Nat} {nb pb:Nat ->Nat} {N:Net} {M:MF} (h:Cy wb mv nb pb N M) {i j:Nat} {x:Nd} {y:Po} (hx:N.nd[i]?=some x) (hy:N.po[j]?=some y) (a:Int) (ha: -100000000000000000≤a∧a≤100000000000000000) (hs: -1000000000000000000≤y.sum∧y.sum≤1000000000000000000) (he:x.ef.length≤100000) (hp:x.pl.length≤100000) (hq:y.q.length≤100000):
  A8 Tryz.prog 81 [.d (pD (nb i) 0),.d (pD (pb j) 0),.d (AG a)] (HN M) fun r H'=>r= .tup []∧∃N' M',H'=HN M'∧Cy wb mv nb pb N' M'∧N'.nh=N.nh∧N'.mh=N.mh∧(∃x',N'.nd=N.nd.set i x'∧GW x'=GW (jnX x j y.q.length a))∧∃y',N'.po=N.po.set j y'∧Cw y'=Cw (jnY y i a):=by
 have hxb:=h.n i x hx;have hre:=(h.nn i x hx).2.1;have hrp:=(h.nn i x hx).2.2;have hil:=(List.getElem?_eq_some_iff.1 hx).1;have hjl:=(List.getElem?_eq_some_iff.1 hy).1;have hqz:=W0 (h.pp j y hy).2;refine BY Tryz.func81 Z Z Tryz.ntmps81 Z Z Z fun F hF=>(AF (AJ (AC Z Z (AC Z Z ?_))))
 first | refine J (Bc Z Z) ?_ | refine J (Ba Z Z) ?_ | refine J (Bd Z Z) ?_ | refine J (Bb Z Z) ?_
 first | refine J (AO rfl Tf Z Z Z) ?_ | refine J (AQ rfl Tf Z Z Z) ?_ | refine J (AR rfl Tf Z Z Z) ?_ | refine J (AP rfl Tf Z Z Z) ?_ | refine J (AN rfl Tf Z Z Z) ?_
 refine J (ID (f:=40) Z Z (hxb) rfl on104 rfl) (AC Z Z (AC Z Z (J (Cu zl111 pl111 Z Z Z) (U (Fg 1 sl104 Z Z Z Z Z Z Z Z) (U (Jm 10 60 40 hre Z Z (by simp) Z Z Z Z Z (Ib (emb:=efD pb) x.ef [(j,a)] Z Z Z Z Z Z Z Z sl104 (by simp only [List.length_singleton];omega) Z Z Z Z)) (IN 15 60 40 hF Z Z Z (by simp) (by simp) Z Z Z Z Z Z Z (fun _ _=>rfl) fun b1 c1 hb1 hc1=>?_))))))
 first | refine J (Bc Z Z) ?_ | refine J (Ba Z Z) ?_ | refine J (Bd Z Z) ?_ | refine J (Bb Z Z) ?_
 first | refine J (AO rfl Tf Z Z Z) ?_ | refine J (AQ rfl Tf Z Z Z) ?_ | refine J (AR rfl Tf Z Z Z) ?_ | refine J (AP rfl Tf Z Z Z) ?_ | refine J (AN rfl Tf Z Z Z) ?_
 refine U (Zdj (f:=40) Z Z Z Z (h.keepE hx hb1 hxb) ((by show _<9;omega)) rfl sz104) (AH (AF ?_));have hR1:=h.addE hx (j,a) hjl hb1 hc1;have hyb:=hR1.p j y hy;refine AJ (AC Z Z ?_)
 first | refine J (Bc Z Z) ?_ | refine J (Ba Z Z) ?_ | refine J (Bd Z Z) ?_ | refine J (Bb Z Z) ?_
 first | refine J (AO rfl IA Z Z Z) ?_ | refine J (AQ rfl IA Z Z Z) ?_ | refine J (AR rfl IA Z Z Z) ?_ | refine J (AP rfl IA Z Z Z) ?_ | refine J (AN rfl IA Z Z Z) ?_
 refine J (ID (f:=40) Z Z (hyb) rfl Be rfl) (AC Z Z (J (Bi Z Z (IntWalk.i64_in _ (by omega)) rfl) ?_))
 first | refine J (Bc Z Z) ?_ | refine J (Ba Z Z) ?_ | refine J (Bd Z Z) ?_ | refine J (Bb Z Z) ?_
 first | refine J (AO rfl IA Z Z Z) ?_ | refine J (AQ rfl IA Z Z Z) ?_ | refine J (AR rfl IA Z Z Z) ?_ | refine J (AP rfl IA Z Z Z) ?_ | refine J (AN rfl IA Z Z Z) ?_
 refine U (Zdj (f:=40) Z Z Z Z (hyb) ((by show _<10;omega)) rfl sz2) (AH (AF ?_));have hR2:=hR1.setPo (y':={y with sum:=y.sum+a}) hy Z Z;have hx2:(N.nd.set i (FR x b1 c1 (j,a)))[i]?=some (FR x b1 c1 (j,a)):=List.getElem?_set_self hil;have hy2:(N.po.set j {y with sum:=y.sum+a})[j]?=some {y with sum:=y.sum+a}:=List.getElem?_set_self hjl;have hx2b:=hR2.n i _ hx2;have hy2b:=hR2.p j _ hy2;have hrp2:=(hR2.nn i _ hx2).2.2;refine AJ (AC Z Z ?_)
 first | refine J (C7 Z Z Z) ?_ | refine J (Ca Z Z Z) ?_
 refine AH ?_
 first | refine BJ rfl (fun h27=>?_) (fun h27=>?_) | refine BB rfl (fun h27=>?_) (fun h27=>?_)
 ·refine AF (G8 [[],[],[1],[1,2],[1,2,3],[],[],[6],[6,7],[6,7,8],[6,7,8,9],[5,6,7,8,9,10],[5,6,7,8,9,10,11],[1,2,3,4,5,6,7,8,9,10,11,12],[0,1,2,3,4,5,6,7,8,9,10,11,12,13],[0,1,2,3,4,5,6,7,8,9,10,11,12,13,14],[0,1,2,3,4,5,6,7,8,9,10,11,12,13,14,15]] BC rfl (Hq ?_))
  first | refine AE [0] [] Z Z (fun _=>AB (B7 Z Z)) ?_ | refine AI [0] Z Z (fun _=>AB (B7 Z Z)) ?_
  first | refine AE [0] [] Z Z (fun _=>AB (B7 Z Z)) ?_ | refine AI [0] Z Z (fun _=>AB (B7 Z Z)) ?_
  first | refine AE [29] [] Z Z (fun _=>AB (Bc Z Z)) ?_ | refine AI [29] Z Z (fun _=>AB (Bc Z Z)) ?_ | refine AE [29] [] Z Z (fun _=>AB (Ba Z Z)) ?_ | refine AI [29] Z Z (fun _=>AB (Ba Z Z)) ?_ | refine AE [29] [] Z Z (fun _=>AB (Bd Z Z)) ?_ | refine AI [29] Z Z (fun _=>AB (Bd Z Z)) ?_ | refine AE [29] [] Z Z (fun _=>AB (Bb Z Z)) ?_ | refine AI [29] Z Z (fun _=>AB (Bb Z Z)) ?_
  first | refine AE [30] [] Z Z (fun _=>AB (AO rfl MA Z Z Z)) ?_ | refine AI [30] Z Z (fun _=>AB (AO rfl MA Z Z Z)) ?_ | refine AE [30] [] Z Z (fun _=>AB (AQ rfl MA Z Z Z)) ?_ | refine AI [30] Z Z (fun _=>AB (AQ rfl MA Z Z Z)) ?_ | refine AE [30] [] Z Z (fun _=>AB (AR rfl MA Z Z Z)) ?_ | refine AI [30] Z Z (fun _=>AB (AR rfl MA Z Z Z)) ?_ | refine AE [30] [] Z Z (fun _=>AB (AP rfl MA Z Z Z)) ?_ | refine AI [30] Z Z (fun _=>AB (AP rfl MA Z Z Z)) ?_ | refine AE [30] [] Z Z (fun _=>AB (AN rfl MA Z Z Z)) ?_ | refine AI [30] Z Z (fun _=>AB (AN rfl MA Z Z Z)) ?_
  refine AE [31] [40] Z Z (fun _=>AB (ID (f:=40) Z Z (hx2b) rfl Xe rfl)) ?_
  first | refine AE [1] [] Z Z (fun _=>AB (B7 Z Z)) ?_ | refine AI [1] Z Z (fun _=>AB (B7 Z Z)) ?_
  first | refine AE [1] [] Z Z (fun _=>AB (B7 Z Z)) ?_ | refine AI [1] Z Z (fun _=>AB (B7 Z Z)) ?_
  first | refine AE [34] [] Z Z (fun _=>AB (Bc Z Z)) ?_ | refine AI [34] Z Z (fun _=>AB (Bc Z Z)) ?_ | refine AE [34] [] Z Z (fun _=>AB (Ba Z Z)) ?_ | refine AI [34] Z Z (fun _=>AB (Ba Z Z)) ?_ | refine AE [34] [] Z Z (fun _=>AB (Bd Z Z)) ?_ | refine AI [34] Z Z (fun _=>AB (Bd Z Z)) ?_ | refine AE [34] [] Z Z (fun _=>AB (Bb Z Z)) ?_ | refine AI [34] Z Z (fun _=>AB (Bb Z Z)) ?_
  first | refine AE [35] [] Z Z (fun _=>AB (AO rfl Ga Z Z Z)) ?_ | refine AI [35] Z Z (fun _=>AB (AO rfl Ga Z Z Z)) ?_ | refine AE [35] [] Z Z (fun _=>AB (AQ rfl Ga Z Z Z)) ?_ | refine AI [35] Z Z (fun _=>AB (AQ rfl Ga Z Z Z)) ?_ | refine AE [35] [] Z Z (fun _=>AB (AR rfl Ga Z Z Z)) ?_ | refine AI [35] Z Z (fun _=>AB (AR rfl Ga Z Z Z)) ?_ | refine AE [35] [] Z Z (fun _=>AB (AP rfl Ga Z Z Z)) ?_ | refine AI [35] Z Z (fun _=>AB (AP rfl Ga Z Z Z)) ?_ | refine AE [35] [] Z Z (fun _=>AB (AN rfl Ga Z Z Z)) ?_ | refine AI [35] Z Z (fun _=>AB (AN rfl Ga Z Z Z)) ?_
  refine AE [36] [40] Z Z (fun _=>AB (ID (f:=40) Z Z (hy2b) rfl I7 rfl)) ?_
  first | refine AE [37] [] Z Z (fun _=>AB (D2 hqz rfl Tryz.underlying98 rfl)) ?_ | refine AI [37] Z Z (fun _=>AB (D2 hqz rfl Tryz.underlying98 rfl)) ?_
  first | refine AE [33,38] [] Z Z (fun _=>AB (Cu Tm pl167 Z Z Z)) ?_ | refine AI [33,38] Z Z (fun _=>AB (Cu Tm pl167 Z Z Z)) ?_
  refine Fw [39] [2] [(40,_)] Z Z (fun _=>Fx (Fg 2 sl105 Z Z Z Z Z Z Z Z)) (.inr ⟨40,_,rfl,rfl,rfl,rfl,rfl⟩) Z Z Z Z Z (Fw [32,40] [61,40,2] [(41,_)] Z Z (fun _=>Fx (Jm 32 61 40 hrp2 Z Z (by simp [FR]) Z Z Z Z Z (Ib (emb:=plD pb) x.pl [(j,y.q.length)] Z Z Z Z Z Z Z Z sl105 (by simp only [List.length_singleton];omega) Z Z Z Z))) (.inr ⟨41,_,rfl,rfl,rfl,rfl,rfl⟩) Z Z Z Z Z (GZ 14 Z Z Z (BD 15 Z Z (IN 41 61 40 hF Z Z Z (by simp) (by simp) Z Z Z Z Z Z Z (fun _ _=>rfl) fun b2 c2 hb2 hc2=>?_))))
  first | refine J (Bc Z Z) ?_ | refine J (Ba Z Z) ?_ | refine J (Bd Z Z) ?_ | refine J (Bb Z Z) ?_
  refine AH ⟨rfl,?_⟩;refine BD 16 Z Z ?_
  first | refine J (AO rfl MA Z Z Z) ?_ | refine J (AQ rfl MA Z Z Z) ?_ | refine J (AR rfl MA Z Z Z) ?_ | refine J (AP rfl MA Z Z Z) ?_ | refine J (AN rfl MA Z Z Z) ?_
  refine AH ⟨rfl,?_⟩;refine BD 17 Z Z (U (Zdj (f:=40) Z Z Z Z (hR2.keepP hx2 hb2 hx2b) ((by show _<9;omega)) rfl sz105) (AH ⟨rfl,?_⟩));refine GY ?_;have hR3:=hR2.addP hx2 (j,y.q.length) (by show j<(N.po.set j _).length;rw [List.length_set];exact hjl) hb2 hc2;have hy3b:=hR3.p j _ hy2;have hrq3:=(hR3.pp j _ hy2).2;refine AJ (AC Z Z (AC Z Z ?_))
  first | refine J (Bc Z Z) ?_ | refine J (Ba Z Z) ?_ | refine J (Bd Z Z) ?_ | refine J (Bb Z Z) ?_
  first | refine J (AO rfl Ga Z Z Z) ?_ | refine J (AQ rfl Ga Z Z Z) ?_ | refine J (AR rfl Ga Z Z Z) ?_ | refine J (AP rfl Ga Z Z Z) ?_ | refine J (AN rfl Ga Z Z Z) ?_
  refine J (ID (f:=40) Z Z (hy3b) rfl I7 rfl) (AC Z Z (U (Fg 3 sl98 Z Z Z Z Z Z Z Z) (U (Jm 48 62 40 hrq3 Z Z (by simp) Z Z Z Z Z (Ib (emb:=fun i=>BX (nb i)) y.q [i] Z Z Z Z Z Z Z Z sl98 (by simp only [List.length_singleton];omega) Z Z Z Z)) (IN 51 62 40 hF Z Z Z (by simp) (by simp) Z Z Z Z Z Z Z (fun _ _=>rfl) fun b3 c3 hb3 hc3=>?_))))
  first | refine J (Bc Z Z) ?_ | refine J (Ba Z Z) ?_ | refine J (Bd Z Z) ?_ | refine J (Bb Z Z) ?_
  first | refine J (AO rfl Ga Z Z Z) ?_ | refine J (AQ rfl Ga Z Z Z) ?_ | refine J (AR rfl Ga Z Z Z) ?_ | refine J (AP rfl Ga Z Z Z) ?_ | refine J (AN rfl Ga Z Z Z) ?_
  refine U (Zdj (f:=40) Z Z Z Z (hR3.keepQ hy2 hb3 hy3b) ((by show _<10;omega)) rfl sz98) (AH ?_);have hR4:=hR3.addQ hy2 (i:=i) (by show i<((N.nd.set i _).set i _).length;rw [List.length_set,List.length_set];exact hil) hb3 hc3;exact ⟨_,[40],_,Ae rfl,rfl,rfl,rfl,_,_,rfl,hR4,rfl,rfl,⟨_,List.set_set _,by unfold GW Hx FR jnX;simp [h27]⟩,⟨_,List.set_set _,by unfold Cw K6 jnY;simp [h27]⟩⟩
 ·refine Am ?_;exact ⟨_,[40],_,Ae rfl,rfl,rfl,rfl,_,_,rfl,hR2,rfl,rfl,⟨_,rfl,by unfold GW FR jnX;simp [h27]⟩,⟨_,rfl,by unfold Cw jnY;simp [h27]⟩⟩
end Go.Proofs.YtnkkaeblokdifaaGreat
