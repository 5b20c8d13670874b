/- Layer 28: Settle, continued. -/
import Derived.Test.YtnkkaeblokdifaaGreatMg18
namespace Go.Proofs.YtnkkaeblokdifaaGreat
open Go.RowKit
set_option maxRecDepth 100000
theorem SF (l:List Int) (hl:l.length≤1000000):A8 Tryz.prog 94 [.d (.sl none (l.map AG))] [] fun r H'=>r= .own 20 0 l.length∧H'=[(20,[.rowD 3 1 (l.map AG)])]:=by
 refine BY Tryz.func94 Z Z Tryz.ntmps94 Z Z Z fun F hF=>(AF (AJ (AD Z Z ?_)));skip;refine AH (AF (AF (AJ (AC Z Z (Gn 3 rfl (fun h0=>?_) ?_)))))
 ·first | refine J (EP Z Z Z) ?_ | refine J (EW Z Z Z) ?_ | refine J (EA Z Z Z) ?_ | refine J (EQ Tryz.underlying33 Z Z Z) ?_ | refine J (ET Tryz.underlying33 Z Z Z) ?_ | refine J (ES Tryz.underlying33 Z Z) ?_ | refine J (ER Tryz.underlying33 Z Z Z) ?_ | refine J (EV Tryz.underlying33 Z Z) ?_
  refine AH (Dg rfl (rfl) (AF (AJ (AD Z Z (o_adopt 2 20 DA Z Z Z Z (AH (Af ?_)))))));exact ⟨_,[20],_,Ae rfl,rfl,rfl,by rw [←List.length_map (f:=AG),h0];rfl,by rw [h0]⟩
 ·first | refine J (EP Z Z Z) ?_ | refine J (EW Z Z Z) ?_ | refine J (EA Z Z Z) ?_ | refine J (EQ Tryz.underlying33 Z Z Z) ?_ | refine J (ET Tryz.underlying33 Z Z Z) ?_ | refine J (ES Tryz.underlying33 Z Z) ?_ | refine J (ER Tryz.underlying33 Z Z Z) ?_ | refine J (EV Tryz.underlying33 Z Z) ?_
  refine AH (Ey rfl (rfl) (Am (AF (AJ (U (Fg 20 DA Z Z Z Z Z Z Z Z) (AC Z Z ?_))))))
  first | refine U (Ib (([]:List Int)) (l) Z Z Z Z Z Z Z Z DA (by simp only [List.length_nil];omega) Z Z Z Z) ?_ | refine U (Ka (([]:List Int)) (l) Z Z Z Z Z Z (fun _=>rfl) DA (by simp only [List.length_nil];omega) Z Z Z Z) ?_
  refine AD Z Z ?_;skip;refine AH (Af ?_);exact ⟨_,[20],_,Ae rfl,rfl,rfl,by simp,by simp⟩
theorem clone_c (i:AT) (g1:i.po.length≤1000000) (g2:i.pa.length≤1000000) (g3:i.af.length≤1000000):A8 Tryz.prog 43 [.d (Aw i)] [] fun r H'=>r= .agg [.d (AG i.id),.d (AG i.pr),.d (AG i.sq),.d (.sl none (i.po.map Cf)),.d (.sl none (i.pa.map Gl)),.own 20 0 i.af.length]∧H'=[(20,[.rowD 3 1 (i.af.map AG)])]:=by
 refine BY Tryz.func43 Z Z Tryz.ntmps43 Z Z Z fun F hF=>(AF (AJ (U (CJ 1 Z Z Z Z Z Z Z) (U (Cm 2 Da Z Z Z Z) (AH (AF (G8 [[],[0],[0,1],[],[3],[0,1,2,3,4],[],[6],[0,1,2,3,4,5,6,7],[0,1,2,3,4,6,7],[0,1,2,3,4,5,6,7,8,9],[0,1,2,3,4,5,6,7,8,9,10],[0,1,2,3,4,5,6,7,8,9,10,11],[0,1,2,3,4,5,6,7,8,9,10,11,12],[0,1,2,3,4,5,6,7,8,9,10,11,12,13]] BC rfl (Hq ?_))))))))
 first | refine AE [1] [] Z Z (fun _=>AB (AO rfl C1 Z Z Z)) ?_ | refine AI [1] Z Z (fun _=>AB (AO rfl C1 Z Z Z)) ?_ | refine AE [1] [] Z Z (fun _=>AB (AQ rfl C1 Z Z Z)) ?_ | refine AI [1] Z Z (fun _=>AB (AQ rfl C1 Z Z Z)) ?_ | refine AE [1] [] Z Z (fun _=>AB (AR rfl C1 Z Z Z)) ?_ | refine AI [1] Z Z (fun _=>AB (AR rfl C1 Z Z Z)) ?_ | refine AE [1] [] Z Z (fun _=>AB (AP rfl C1 Z Z Z)) ?_ | refine AI [1] Z Z (fun _=>AB (AP rfl C1 Z Z Z)) ?_ | refine AE [1] [] Z Z (fun _=>AB (AN rfl C1 Z Z Z)) ?_ | refine AI [1] Z Z (fun _=>AB (AN rfl C1 Z Z Z)) ?_
 first | refine AE [3] [1] Z Z (fun _=>AB (A0 Z Z Ej rfl)) ?_ | refine AE [3] [1] Z Z (fun _=>AB (AY Z Z Z Ej rfl)) ?_ | refine AE [3] [1] Z Z (fun _=>AB (AZ Z Z (rfl) rfl Ej rfl)) ?_
 first | refine AE [4] [] Z Z (fun _=>AB (BF (K0 i.po g1) Z Z)) ?_ | refine AI [4] Z Z (fun _=>AB (BF (K0 i.po g1) Z Z)) ?_
 first | refine AE [1] [] Z Z (fun _=>AB (AO rfl DX Z Z Z)) ?_ | refine AI [1] Z Z (fun _=>AB (AO rfl DX Z Z Z)) ?_ | refine AE [1] [] Z Z (fun _=>AB (AQ rfl DX Z Z Z)) ?_ | refine AI [1] Z Z (fun _=>AB (AQ rfl DX Z Z Z)) ?_ | refine AE [1] [] Z Z (fun _=>AB (AR rfl DX Z Z Z)) ?_ | refine AI [1] Z Z (fun _=>AB (AR rfl DX Z Z Z)) ?_ | refine AE [1] [] Z Z (fun _=>AB (AP rfl DX Z Z Z)) ?_ | refine AI [1] Z Z (fun _=>AB (AP rfl DX Z Z Z)) ?_ | refine AE [1] [] Z Z (fun _=>AB (AN rfl DX Z Z Z)) ?_ | refine AI [1] Z Z (fun _=>AB (AN rfl DX Z Z Z)) ?_
 first | refine AE [6] [1] Z Z (fun _=>AB (A0 Z Z Fm rfl)) ?_ | refine AE [6] [1] Z Z (fun _=>AB (AY Z Z Z Fm rfl)) ?_ | refine AE [6] [1] Z Z (fun _=>AB (AZ Z Z (rfl) rfl Fm rfl)) ?_
 first | refine AE [7] [] Z Z (fun _=>AB (BF (KZ i.pa g2) Z Z)) ?_ | refine AI [7] Z Z (fun _=>AB (BF (KZ i.pa g2) Z Z)) ?_
 first | refine AE [1] [] Z Z (fun _=>AB (AO rfl Ct Z Z Z)) ?_ | refine AI [1] Z Z (fun _=>AB (AO rfl Ct Z Z Z)) ?_ | refine AE [1] [] Z Z (fun _=>AB (AQ rfl Ct Z Z Z)) ?_ | refine AI [1] Z Z (fun _=>AB (AQ rfl Ct Z Z Z)) ?_ | refine AE [1] [] Z Z (fun _=>AB (AR rfl Ct Z Z Z)) ?_ | refine AI [1] Z Z (fun _=>AB (AR rfl Ct Z Z Z)) ?_ | refine AE [1] [] Z Z (fun _=>AB (AP rfl Ct Z Z Z)) ?_ | refine AI [1] Z Z (fun _=>AB (AP rfl Ct Z Z Z)) ?_ | refine AE [1] [] Z Z (fun _=>AB (AN rfl Ct Z Z Z)) ?_ | refine AI [1] Z Z (fun _=>AB (AN rfl Ct Z Z Z)) ?_
 first | refine AE [9] [1] Z Z (fun _=>AB (A0 Z Z Aq rfl)) ?_ | refine AE [9] [1] Z Z (fun _=>AB (AY Z Z Z Aq rfl)) ?_ | refine AE [9] [1] Z Z (fun _=>AB (AZ Z Z (rfl) rfl Aq rfl)) ?_
 refine Fw [10] [20] [(11,_)] Z Z (fun _=>Fx (HQ (SF i.af g3) rfl [20] ⟨rfl,trivial⟩ Z Z Z Z Z Z Z Z Z)) (.inr ⟨11,_,rfl,rfl,rfl,rfl,rfl⟩) Z Z Z Z Z ?_
 first | refine AE [1] [] Z Z (fun _=>AB (AO rfl C1 Z Z Z)) ?_ | refine AI [1] Z Z (fun _=>AB (AO rfl C1 Z Z Z)) ?_ | refine AE [1] [] Z Z (fun _=>AB (AQ rfl C1 Z Z Z)) ?_ | refine AI [1] Z Z (fun _=>AB (AQ rfl C1 Z Z Z)) ?_ | refine AE [1] [] Z Z (fun _=>AB (AR rfl C1 Z Z Z)) ?_ | refine AI [1] Z Z (fun _=>AB (AR rfl C1 Z Z Z)) ?_ | refine AE [1] [] Z Z (fun _=>AB (AP rfl C1 Z Z Z)) ?_ | refine AI [1] Z Z (fun _=>AB (AP rfl C1 Z Z Z)) ?_ | refine AE [1] [] Z Z (fun _=>AB (AN rfl C1 Z Z Z)) ?_ | refine AI [1] Z Z (fun _=>AB (AN rfl C1 Z Z Z)) ?_
 refine GZ 10 Z Z Z (BD 11 Z Z (U (Bj Z Z Z Z Z Z Z sz46) (AH ⟨rfl,?_⟩)));refine BD 12 Z Z ?_
 first | refine J (AO rfl DX Z Z Z) ?_ | refine J (AQ rfl DX Z Z Z) ?_ | refine J (AR rfl DX Z Z Z) ?_ | refine J (AP rfl DX Z Z Z) ?_ | refine J (AN rfl DX Z Z Z) ?_
 refine AH ⟨rfl,?_⟩;refine BD 13 Z Z (U (Bj Z Z Z Z Z Z Z sz47) (AH ⟨rfl,?_⟩));refine BD 14 Z Z ?_
 first | refine J (AO rfl Ct Z Z Z) ?_ | refine J (AQ rfl Ct Z Z Z) ?_ | refine J (AR rfl Ct Z Z Z) ?_ | refine J (AP rfl Ct Z Z Z) ?_ | refine J (AN rfl Ct Z Z Z) ?_
 refine AH ⟨rfl,?_⟩;refine BD 15 Z Z (U (Bj Z Z Z Z Z Z Z sz33) (AH ⟨rfl,?_⟩));refine GY (AF (AJ ?_))
 first | refine J (An Z Z A7 rfl) ?_ | refine J (Ao Z Z A7 Z Z Z) ?_ | refine J (Ap Z Z (rfl) rfl A7 rfl) ?_
 refine U (Bj Z Z Z Z Z Z Z Br) (AH (Af ?_));exact ⟨_,[20],_,Ae rfl,rfl,rfl,rfl,rfl⟩
def Kv (x:Roo):Bool:=!decide (-4000000000000000≤x.n∧x.n≤4000000000000000)
abbrev fnR:AV:= .d (.raw (.func (.func 40) #[] #[]))
theorem VQ (x:Roo):AU Tryz.prog 40 [.d (DT x)] (BE (Kv x)):=by
 refine BY Tryz.func40 Z Z Tryz.ntmps40 Z Z Z fun F hF=>(AF (AJ (U (CJ 1 Z Z Z Z Z Z Z) (AD Z Z (AH (AF (AJ ?_)))))))
 first | refine J (AO rfl IF Z Z Z) ?_ | refine J (AQ rfl IF Z Z Z) ?_ | refine J (AR rfl IF Z Z Z) ?_ | refine J (AP rfl IF Z Z Z) ?_ | refine J (AN rfl IF Z Z Z) ?_
 first | refine J (A0 Z Z Be rfl) ?_ | refine J (AY Z Z Z Be rfl) ?_ | refine J (AZ Z Z (rfl) rfl Be rfl) ?_
 refine J (BF (FC x.n (-4000000000000000) 4000000000000000) Z Z) ?_
 first | refine J (F2 Z Z) ?_ | refine J (FT Z Z) ?_
 refine AD Z Z (AH (Af ?_));exact ⟨_,[],[],Ae rfl,rfl,rfl,HF (by unfold Kv;exact decide_not),rfl⟩
def ixR (l:List Roo):Int:=match l.findIdx? Kv with
 | some k=>(k:Int)
 | none=> -1
theorem ixR_nn {l:List Roo}:0≤ixR l↔l.any Kv=true:=by
 unfold ixR;have h:(l.findIdx? Kv).isSome=l.any Kv:=List.findIdx?_isSome
 cases hh:l.findIdx? Kv with
 | none=>rw [hh] at h;simp only [Option.isSome_none] at h;simp [←h]
 | some k=>rw [hh] at h;simp only [Option.isSome_some] at h;simp [←h]
theorem YY (l:List Roo) (hl:l.length≤100000000):AU Tryz.prog 90 [.d (.sl none (l.map DT)),fnR] (AG (ixR l)):=by
 refine BY Tryz.func90 Z Z Tryz.ntmps90 Z Z Z fun F hF=>(AF (AJ (AD Z Z (AH (AF (AF (AJ (AC Z Z ?_))))))))
 first | refine J (Cc rfl Tryz.underlying28 rfl) ?_ | refine J (C8 Z Z Tryz.underlying28 rfl) ?_ | refine J (Cd rfl Tryz.underlying28 rfl) ?_ | refine J (Cb rfl Tryz.underlying28 rfl) ?_ | refine J (CW rfl Tryz.underlying28 rfl) ?_ | refine J (C9 rfl Tryz.underlying28 rfl) ?_
 refine AC Z Z (AH (Au (Dz (α:=Nat) (fun k=>⟨19,[(0,.d (.sl none (l.map DT))),(1,fnR),(7,(.d (AG (l.length:Int)))),(8,(.d (AG (k:Int))))],[]⟩) (fun k=>k≤l.length∧∀x∈l.take k,Kv x=false) (fun k=>l.length - k) (0) (⟨Nat.zero_le _,by simp⟩) (Ti ⟨rfl,rfl,rfl,rfl,trivial⟩) ?_)));rintro k ⟨hk0,hk⟩;refine AF (AJ ?_)
 first | refine J (C7 Z Z Z) ?_ | refine J (Ca Z Z Z) ?_
 refine AH (AF ?_)
 first | refine BJ rfl (fun h9=>?_) (fun h9=>?_) | refine BB rfl (fun h9=>?_) (fun h9=>?_)
 ·have hk1:k<l.length:=DZ h9;refine Am (AF (Au (AF ?_)));refine AJ (AC Z Z (AD Z Z (AH (AF (AJ (AC Z Z (AC Z Z (AC Z Z ?_))))))))
  first | refine J (CY (k) Z Z (rfl) (A2 hk1) Tryz.underlying28 rfl Jf rfl) ?_ | refine J (CZ (k) Z Z (rfl) (A2 hk1) rfl Tryz.underlying28 Jf rfl) ?_
  first | refine J (An Z Z Is rfl) ?_ | refine J (Ao Z Z Is Z Z Z) ?_ | refine J (Ap Z Z (rfl) rfl Is rfl) ?_
  refine J (IJ (VQ l[k]) Z Z) (AH ?_)
  first | refine BJ rfl (fun h16=>?_) (fun h16=>?_) | refine BB rfl (fun h16=>?_) (fun h16=>?_)
  ·refine AF (AJ (AC Z Z (AD Z Z (AH (Af ?_)))));exact ⟨_,[],[],Ae rfl,rfl,rfl,Al (by unfold ixR;rw [MN hk1 hk (by simpa using h16)]),rfl⟩
  ·refine Am (AJ (J (Bi Z Z (A6 (k+1) (by omega)) rfl) (AC Z Z (AH ?_))));exact ⟨k+1,⟨by show k+1≤_;omega,by rw [List.take_succ_eq_append_getElem hk1];intro x hx;rcases List.mem_append.1 hx with hx | hx;exact hk x hx;rw [List.mem_singleton.1 hx];simpa using h16⟩,by show l.length - (k+1)<l.length - k;omega,⟨rfl,rfl,fun _ _=>MT.get (l:=[(0,_),(1,_),(7,_),(8,_)]) ⟨rfl,rfl,rfl,rfl,trivial⟩⟩⟩
 ·refine C6 (AF (AJ (AD Z Z (AH (Af ?_)))));exact ⟨_,[],[],Ae rfl,rfl,rfl,Al (by unfold ixR;rw [QG (fun x hx=>hk x (by rw [List.take_of_length_le (by have h:=h9;omega)];exact hx))]),rfl⟩
theorem SC (l:List Roo) (hl:l.length≤100000000):AU Tryz.prog 39 [.d (.sl none (l.map DT)),fnR] (BE (l.any Kv)):=by
 refine BY Tryz.func39 Z Z Tryz.ntmps39 Z Z Z fun F hF=>(AF (AJ (AD Z Z (AH ?_))));refine AF (AJ (AC Z Z (AC Z Z (J (BF (YY l hl) Z Z) (J (Ip Z Z Z) (AD Z Z (AH (Af ?_))))))));exact ⟨_,[],[],Ae rfl,rfl,rfl,HF (by rw [Bool.eq_iff_iff,decide_eq_true_eq];exact ixR_nn),rfl⟩
def F6 (l:List Int) (i:AT):AT:=⟨i.id,i.pr,i.sq,i.po,i.pa,GP l i.af⟩
def DB (p:Prb) (l:List Int):Int:=if Bn p l≠0 then Bn p l else if (totR p l).any Kv then 12 else 0
def Bo (l:List Int) (its:List AT):List AT:=(its.filter fun i=>!Lv l i).map (F6 l)
def setlP (p:Prb) (l:List Int):Prb:=if DB p l=0 then ⟨totR p l,Bo l p.it⟩ else ⟨[],[]⟩
theorem O5:∀w O v,AX w O (.agg [.sl (some true) [],.sl (some true) []]) v ->AX w O (CI ⟨[],[]⟩) v:=fun w O v h=>h.aggMono rfl (by simp [D.one]) fun i c c' hc hc' v hv=>by
 match i,hc,hc' with
 | 0,hc,hc'=>injection hc with hc;injection hc' with hc';subst hc hc';exact hv.anyNil
 | 1,hc,hc'=>injection hc with hc;injection hc' with hc';subst hc hc';exact hv.anyNil
theorem Nr {l:List Int} {its:List AT} {k:Nat} (hk:k<its.length) (h:its[k].id∈l):Bo l (its.take (k+1))=Bo l (its.take k):=by
 unfold Bo;rw [E7 hk,if_neg (by unfold Lv;simp [h]),List.append_nil]
theorem Mc {l:List Int} {its:List AT} {k:Nat} (hk:k<its.length) (h:its[k].id∉l):Bo l (its.take (k+1))=Bo l (its.take k)++ [F6 l its[k]]:=by
 unfold Bo;rw [E7 hk,if_pos (by unfold Lv;simp [h]),List.map_append];rfl
theorem Kf (l:List Int) (its:List AT):(Bo l its).length≤its.length:=by unfold Bo;rw [List.length_map];exact List.length_filter_le _ _
theorem XB (p:Prb) (l:List Int) (hb:Cz p) (hl:l.length≤100000) (h1000:p.it.length≤1000):AU Tryz.prog 15 [.d (CI p),.d (.sl none (l.map AG))] (.tup [CI (setlP p l),AG (DB p l)]):=by
 have ht:=We p l hb hl h1000;have hb3:=hb.2.2
 by_cases hE:Bn p l=0
 ·have hrl:(totR p l).length≤100000:=by unfold totR;rw [List.length_map];exact hb.1
  have hcr:=SC (totR p l) (by omega);rw [if_pos hE,hE] at ht
  by_cases hO:(totR p l).any Kv=true
  ·have hS:DB p l=12:=by unfold DB;rw [if_neg (by simpa using hE),if_pos hO]
   have hP:setlP p l=⟨[],[]⟩:=if_neg (by rw [hS];decide);rw [hS,hP];rw [hO] at hcr;refine BY Tryz.func15 Z Z Tryz.ntmps15 Z Z Z fun F hF=>?_;refine AF (AJ (U (CJ 1 Z Z Z Z Z Z Z) (U (CJ 2 Z Z Z Z Z Z Z) (U (Cm 3 HS Z Z Z Z) (AD Z Z (AH (AF (AJ ?_))))))))
   first | refine J (An Z Z AW rfl) ?_ | refine J (Ao Z Z AW Z Z Z) ?_ | refine J (Ap Z Z (rfl) rfl AW rfl) ?_
   first | refine J (A0 Z Z Aq rfl) ?_ | refine J (AY Z Z Z Aq rfl) ?_ | refine J (AZ Z Z (rfl) rfl Aq rfl) ?_
   refine J (BF (ht) Z Z) (AC Z Z ?_)
   first | refine J (BT Z Z Z) ?_ | refine J (BS Z Z Z) ?_
   first | refine J (BT Z Z Z) ?_ | refine J (BS Z Z Z) ?_
   refine AD Z Z (AD Z Z (AH (AF (AF (AJ (AC Z Z ?_))))))
   first | refine J (E9 Z Z Z) ?_ | refine J (Ed Z Z Z) ?_ | refine J (EU Z Z Z) ?_ | refine J (Ea Tryz.underlying34 Z Z Z) ?_ | refine J (Ec Tryz.underlying34 Z Z Z) ?_ | refine J (st_neqN Tryz.underlying34 Z Z) ?_ | refine J (Eb Tryz.underlying34 Z Z Z) ?_ | refine J (st_neqFN Tryz.underlying34 Z Z) ?_
   refine AH (Ey rfl ((by decide)) (Am (AF (AF (AJ (AC Z Z (J (BF (hcr) Z Z) (AH ?_))))))));refine Dg rfl (rfl) (AF (AJ (J (Cu HS X1 Z Z Z) (MI 24 (CI ⟨[],[]⟩) rfl O5 (U (Bj Z Z Z Z Z Z Z M0) (AD Z Z (AH (Af ?_))))))));exact ⟨_,[],[],Ae rfl,rfl,rfl,rfl,rfl⟩
  ·have hS:DB p l=0:=by unfold DB;rw [if_neg (by simpa using hE),if_neg hO]
   have hP:setlP p l=⟨totR p l,Bo l p.it⟩:=if_pos hS;have hO:(totR p l).any Kv=false:=by simpa using hO
   rw [hS,hP];rw [hO] at hcr
   obtain ⟨R,hR⟩:∃R,totR p l=R:=⟨_,rfl⟩
   rw [hR] at ht hcr⊢;refine BY Tryz.func15 Z Z Tryz.ntmps15 Z Z Z fun F hF=>(AF ?_);refine AJ (U (CJ 1 Z Z Z Z Z Z Z) (U (CJ 2 Z Z Z Z Z Z Z) (U (Cm 3 HS Z Z Z Z) (AD Z Z (AH (AF (AJ (GL 3 2 (.sl none (l.map AG)) [1,3] hF Z Z Z (by intro c hc;simp [D.cells] at hc;subst hc;rfl) Z Z Z ?_))))))))
   first | refine J (An Z Z AW rfl) ?_ | refine J (Ao Z Z AW Z Z Z) ?_ | refine J (Ap Z Z (rfl) rfl AW rfl) ?_
   first | refine J (A0 Z Z Aq rfl) ?_ | refine J (AY Z Z Z Aq rfl) ?_ | refine J (AZ Z Z (rfl) rfl Aq rfl) ?_
   refine J (BF (ht) Z Z) (AC Z Z ?_)
   first | refine J (BT Z Z Z) ?_ | refine J (BS Z Z Z) ?_
   first | refine J (BT Z Z Z) ?_ | refine J (BS Z Z Z) ?_
   refine AD Z Z (AD Z Z (AH (AF (AF (AJ (AC Z Z ?_))))))
   first | refine J (E9 Z Z Z) ?_ | refine J (Ed Z Z Z) ?_ | refine J (EU Z Z Z) ?_ | refine J (Ea Tryz.underlying34 Z Z Z) ?_ | refine J (Ec Tryz.underlying34 Z Z Z) ?_ | refine J (st_neqN Tryz.underlying34 Z Z) ?_ | refine J (Eb Tryz.underlying34 Z Z Z) ?_ | refine J (st_neqFN Tryz.underlying34 Z Z) ?_
   refine AH (Ey rfl ((by decide)) (Am (AF ?_)));refine AF (AJ (AC Z Z (J (BF (hcr) Z Z) (AH (Ey rfl (rfl) (Am (AF (AJ ?_))))))));refine AC Z Z (J (Cu HS X1 Z Z Z) (U (Cm 4 HS Z Z Z Z) (U (Bj Z Z Z Z Z Z Z M0) (AH (AF (AF (Yx 4 0 1 902 I5 Z Z Z Z Z Z Z (AJ ?_))))))))
   first | refine J (AO rfl Bw Z Z Z) ?_ | refine J (AQ rfl Bw Z Z Z) ?_ | refine J (AR rfl Bw Z Z Z) ?_ | refine J (AP rfl Bw Z Z Z) ?_ | refine J (AN rfl Bw Z Z Z) ?_
   first | refine J (A0 Z Z Bf rfl) ?_ | refine J (AY Z Z Z Bf rfl) ?_ | refine J (AZ Z Z (rfl) rfl Bf rfl) ?_
   first | refine J (Cc rfl Tryz.underlying29 rfl) ?_ | refine J (C8 Z Z Tryz.underlying29 rfl) ?_ | refine J (Cd rfl Tryz.underlying29 rfl) ?_ | refine J (Cb rfl Tryz.underlying29 rfl) ?_ | refine J (CW rfl Tryz.underlying29 rfl) ?_ | refine J (C9 rfl Tryz.underlying29 rfl) ?_
   refine AC Z Z (AH (Au (De (α:=Nat×List AT) (fun q=>⟨53,[(3,(.d (.ptr (.sl none (l.map AG))))),(4,(.ptr 3 0 0)),(8,(.ptr 4 0 0)),(28,(.d (.sl none (p.it.map Aw)))),(29,(.d (AG (p.it.length:Int)))),(30,(.d (AG (q.1:Int))))],[(902,[.rowD 49 6 (q.2.map Aw)]),(3,[.blk 31 [HP,HP]]),(4,[.blk 31 [.d (.sl none (R.map DT)),.own 902 0 q.2.length]])]⟩) (fun q=>q.1≤p.it.length∧q.2=Bo l (p.it.take q.1)) (fun q=>p.it.length - q.1) ((0,[])) (⟨Nat.zero_le _,rfl⟩) (BP hF [902,3,4] Z Z ⟨rfl,rfl,rfl,rfl,rfl,rfl,trivial⟩) ?_)));rintro ⟨k,acc⟩ ⟨hk0,hA⟩;dsimp only at hk0 hA⊢;refine AF (AJ ?_)
   first | refine J (C7 Z Z Z) ?_ | refine J (Ca Z Z Z) ?_
   refine AH (AF ?_)
   first | refine BJ rfl (fun h31=>?_) (fun h31=>?_) | refine BB rfl (fun h31=>?_) (fun h31=>?_)
   ·have hk1:k<p.it.length:=DZ h31;refine Am (AF (Au (AF (AJ ?_))));have hgi:=hb3 _ (List.getElem_mem hk1);have hal:acc.length≤1000:=by rw [hA];exact Nat.le_trans (Kf _ _) (by rw [List.length_take];omega)
    first | refine J (CY (k) Z Z (rfl) (A2 hk1) Tryz.underlying29 rfl Br rfl) ?_ | refine J (CZ (k) Z Z (rfl) (A2 hk1) rfl Tryz.underlying29 Br rfl) ?_
    first | refine J (An Z Z A7 rfl) ?_ | refine J (Ao Z Z A7 Z Z Z) ?_ | refine J (Ap Z Z (rfl) rfl A7 rfl) ?_
    refine U (Cm 5 Da Z Z Z Z) (U (Bj Z Z Z Z Z Z Z Br) (AH (AF (AF (AJ ?_)))))
    first | refine J (A0 Z Z Aq rfl) ?_ | refine J (AY Z Z Z Aq rfl) ?_ | refine J (AZ Z Z (rfl) rfl Aq rfl) ?_
    first | refine J (AO rfl B4 Z Z Z) ?_ | refine J (AQ rfl B4 Z Z Z) ?_ | refine J (AR rfl B4 Z Z Z) ?_ | refine J (AP rfl B4 Z Z Z) ?_ | refine J (AN rfl B4 Z Z Z) ?_
    first | refine J (A0 Z Z A9 rfl) ?_ | refine J (AY Z Z Z A9 rfl) ?_ | refine J (AZ Z Z (rfl) rfl A9 rfl) ?_
    refine J (BF (JR l p.it[k].id (by omega)) Z Z) (AH ?_)
    first | refine BJ rfl (fun h37=>?_) (fun h37=>?_) | refine BB rfl (fun h37=>?_) (fun h37=>?_)
    ·refine C6 (AJ (J (Bi Z Z (A6 (k+1) (by omega)) rfl) (AC Z Z (AH ?_))));exact ⟨(k+1,acc),⟨by show k+1≤_;omega,by show acc=Bo l (p.it.take (k+1));rw [Nr hk1 h37];exact hA⟩,by show p.it.length - (k+1)<p.it.length - k;omega,BP hF [902,3,4] rfl (rfl) ⟨rfl,rfl,rfl,rfl,rfl,rfl,trivial⟩⟩
    ·refine Am (AF (AJ ?_))
     first | refine J (An Z Z A7 rfl) ?_ | refine J (Ao Z Z A7 Z Z Z) ?_ | refine J (Ap Z Z (rfl) rfl A7 rfl) ?_
     refine U (HQ ((clone_c p.it[k] (by omega) (by omega) (by omega)).by [(20,60)] rfl) rfl [60] ⟨rfl,trivial⟩ Z Z Z Z Z Z Z Z Z) ?_
     refine U (Cm 6 Da Z Z Z Z) (U (Bj Z Z Z Z Z Z Z Br) (AH (AF (AJ ?_))))
     first | refine J (AO rfl Ct Z Z Z) ?_ | refine J (AQ rfl Ct Z Z Z) ?_ | refine J (AR rfl Ct Z Z Z) ?_ | refine J (AP rfl Ct Z Z Z) ?_ | refine J (AN rfl Ct Z Z Z) ?_
     first | refine J (A0 Z Z Aq rfl) ?_ | refine J (AY Z Z Z Aq rfl) ?_ | refine J (AZ Z Z (rfl) rfl Aq rfl) ?_
     refine J (Zdl Z Z) (U (HQ ((delI_c l p.it[k].af hl (by omega)).by [(930,60)] rfl) rfl [60] ⟨rfl,trivial⟩ Z Z Z Z Z Z Z Z Z) ?_)
     first | refine J (AO rfl Ct Z Z Z) ?_ | refine J (AQ rfl Ct Z Z Z) ?_ | refine J (AR rfl Ct Z Z Z) ?_ | refine J (AP rfl Ct Z Z Z) ?_ | refine J (AN rfl Ct Z Z Z) ?_
     refine U (Bj Z Z Z Z Z Z Z sz33) (AH (WU (ys:=(GP l p.it[k].af).map AG) 6 0 5 60 Z Z Z (by simp) (by rw [List.map_append,List.take_append_of_le_length (by simp),List.take_of_length_le (by simp)]) Z Z Z Z Z Z (AJ ?_)))
     first | refine J (AO rfl Bw Z Z Z) ?_ | refine J (AQ rfl Bw Z Z Z) ?_ | refine J (AR rfl Bw Z Z Z) ?_ | refine J (AP rfl Bw Z Z Z) ?_ | refine J (AN rfl Bw Z Z Z) ?_
     first | refine J (A0 Z Z Bf rfl) ?_ | refine J (AY Z Z Z Bf rfl) ?_ | refine J (AZ Z Z (rfl) rfl Bf rfl) ?_
     first | refine J (An Z Z A7 rfl) ?_ | refine J (Ao Z Z A7 Z Z Z) ?_ | refine J (Ap Z Z (rfl) rfl A7 rfl) ?_
     refine U (Fg 7 I5 Z Z Z Z Z Z Z Z) ?_
     first | refine U (Ib (acc) ([F6 l p.it[k]]) Z Z Z Z Z Z Z Z I5 (by simp only [List.length_singleton];omega) Z Z Z Z) ?_ | refine U (Ka (acc) ([F6 l p.it[k]]) Z Z Z Z Z Z (fun _=>rfl) I5 (by simp only [List.length_singleton];omega) Z Z Z Z) ?_
     first | refine J (AO rfl Bw Z Z Z) ?_ | refine J (AQ rfl Bw Z Z Z) ?_ | refine J (AR rfl Bw Z Z Z) ?_ | refine J (AP rfl Bw Z Z Z) ?_ | refine J (AN rfl Bw Z Z Z) ?_
     refine U (Bj Z Z Z Z Z Z Z sz29) (AH (AJ (J (Bi Z Z (A6 (k+1) (by omega)) rfl) (AC Z Z (AH ?_)))));exact ⟨(k+1,acc++ [F6 l p.it[k]]),⟨by show k+1≤_;omega,by show acc++ [F6 l p.it[k]]=Bo l (p.it.take (k+1));rw [Mc hk1 h37,hA]⟩,by show p.it.length - (k+1)<p.it.length - k;omega,BP hF [902,3,4] rfl (rfl) ⟨rfl,rfl,rfl,rfl,rfl,rfl,trivial⟩⟩
   ·refine C6 (AF ?_);have hfa:acc=Bo l p.it:=by rw [hA,List.take_of_length_le (by have h:=h31;omega)]
    refine WU (ys:=(Bo l p.it).map Aw) 4 0 1 902 Z Z Z (by simp) (by rw [hfa];exact List.take_of_length_le (by simp)) Z Z Z Z Z Z (AJ ?_)
    first | refine J (An Z Z AW rfl) ?_ | refine J (Ao Z Z AW Z Z Z) ?_ | refine J (Ap Z Z (rfl) rfl AW rfl) ?_
    refine U (Bj Z Z Z Z Z Z Z M0) (AD Z Z (AH (Af ?_)));exact ⟨_,[],[],Ae rfl,rfl,rfl,rfl,rfl⟩
 ·have hS:DB p l=Bn p l:=if_pos hE;have hP:setlP p l=⟨[],[]⟩:=if_neg (by rw [hS];exact hE);rw [if_neg hE] at ht;rw [hS,hP];refine BY Tryz.func15 Z Z Tryz.ntmps15 Z Z Z fun F hF=>?_;refine AF (AJ (U (CJ 1 Z Z Z Z Z Z Z) (U (CJ 2 Z Z Z Z Z Z Z) (U (Cm 3 HS Z Z Z Z) (AD Z Z (AH (AF (AJ ?_))))))))
  first | refine J (An Z Z AW rfl) ?_ | refine J (Ao Z Z AW Z Z Z) ?_ | refine J (Ap Z Z (rfl) rfl AW rfl) ?_
  first | refine J (A0 Z Z Aq rfl) ?_ | refine J (AY Z Z Z Aq rfl) ?_ | refine J (AZ Z Z (rfl) rfl Aq rfl) ?_
  refine J (BF (ht) Z Z) (AC Z Z ?_)
  first | refine J (BT Z Z Z) ?_ | refine J (BS Z Z Z) ?_
  first | refine J (BT Z Z Z) ?_ | refine J (BS Z Z Z) ?_
  refine AD Z Z (AD Z Z (AH (AF (AF (AJ (AC Z Z ?_))))))
  first | refine J (E9 Z Z Z) ?_ | refine J (Ed Z Z Z) ?_ | refine J (EU Z Z Z) ?_ | refine J (Ea Tryz.underlying34 Z Z Z) ?_ | refine J (Ec Tryz.underlying34 Z Z Z) ?_ | refine J (st_neqN Tryz.underlying34 Z Z) ?_ | refine J (Eb Tryz.underlying34 Z Z Z) ?_ | refine J (st_neqFN Tryz.underlying34 Z Z) ?_
  refine AH (Dg rfl ((decide_eq_true hE)) ?_);refine AF (AJ (J (Cu HS X1 Z Z Z) (MI 20 (CI ⟨[],[]⟩) rfl O5 (AC Z Z (U (Bj Z Z Z Z Z Z Z M0) (AD Z Z (AH (Af ?_))))))));exact ⟨_,[],[],Ae rfl,rfl,rfl,rfl,rfl⟩
def Ar (p:Prb) (id:Int):AT:=p.it.getD ((p.it.map AT.id).idxOf id) itm0
theorem Yz {p:Prb} {id:Int} (h:id∈p.it.map AT.id):∃hk:(p.it.map AT.id).idxOf id<p.it.length,YP id (p.it.map AT.id)=(((p.it.map AT.id).idxOf id:Nat):Int)∧Ar p id=p.it[(p.it.map AT.id).idxOf id]∧(Ar p id).id=id:=by
 have hk:(p.it.map AT.id).idxOf id<(p.it.map AT.id).length:=List.idxOf_lt_length_iff.2 h;have hk':(p.it.map AT.id).idxOf id<p.it.length:=by simpa using hk
 have he:Ar p id=p.it[(p.it.map AT.id).idxOf id]:=Bg itm0 hk';refine ⟨hk',if_pos h,he,?_⟩;have h1:=List.getElem_idxOf hk;rw [List.getElem_map] at h1;rw [he];exact h1
def setQ (p:Prb) (l:List Int) (r:A4):Int:=(l.map fun id=>Pg (Ar p id) r).sum
theorem L0 {l:List Roo} (h:Ce l=0):∀x∈l,BQ x.r=0:=fun x hx=>by
 have h0:=PP.1 h;obtain ⟨j,hj,rfl⟩:=List.getElem_of_mem hx;have:=h0 j (List.mem_range.2 hj);unfold Lt at this;rw [Bg DC hj] at this
 split at this
 ·contradiction
 ·rename_i hn;simpa using hn
theorem Mq {α:Type} {l m:List α} (h:l.Perm m) (f:α ->Int):(l.map f).sum=(m.map f).sum:=by
 induction h with
 | nil=>rfl
 | cons x _ ih=>simp [ih]
 | swap x y l=>simp;omega
 | trans _ _ ih1 ih2=>rw [ih1,ih2]
theorem Pr {l:List AT} (h:(l.map AT.id).Nodup):l.Nodup:=by
 rw [List.Nodup,List.pairwise_map] at h;exact h.imp fun h e=>h (by rw [e])
theorem setQ_eq {p:Prb} (hp:Ak p=0) {l:List Int} (h:Ls (p.it.map AT.id) l=0) {r:A4} (hr:BQ r=0):setQ p l r=HI (p.it.filter (Lv l)) r:=by
 have hnd:=S0 (Ia hp).2.1;obtain ⟨h1,h2⟩:=Kg h
 have hperm:(l.map (Ar p)).Perm (p.it.filter (Lv l)):=by
  refine (List.perm_ext_iff_of_nodup ?_ ?_).2 fun x=>?_
  ·rw [List.Nodup,List.pairwise_map];refine (List.Pairwise.imp_of_mem ?_ h1);intro a b ha hb hab e;have e1:=(Yz (h2 a ha)).choose_spec.2.2;have e2:=(Yz (h2 b hb)).choose_spec.2.2;exact hab (by rw [←e1,←e2,e])
  ·exact (Pr hnd).filter _
  ·rw [List.mem_map,List.mem_filter];refine ⟨?_,fun ⟨hx,hi⟩=>?_⟩
   ·rintro ⟨a,ha,rfl⟩;obtain ⟨hk,_,e2,e3⟩:=Yz (h2 a ha);refine ⟨by rw [e2];exact List.getElem_mem hk,?_⟩;unfold Lv;rw [e3];exact decide_eq_true ha
   ·have hi:x.id∈l:=by unfold Lv at hi;simpa using hi
    refine ⟨x.id,hi,?_⟩;obtain ⟨hk,_,e2,e3⟩:=Yz (h2 _ hi);exact ML hnd (by rw [e2];exact List.getElem_mem hk) hx e3
 have h3:=Mq hperm fun i=>Ai (ctr i) r;rw [List.map_map] at h3;unfold HI;rw [←h3];unfold setQ
 congr 1
 apply List.map_congr_left
 intro a _;exact O1 hr
end Go.Proofs.YtnkkaeblokdifaaGreat
