/- Proved here: linkPartition_holds, the given statement Rows.LinkPartitionSaid: the law girolaw27.LinkPartition returns true and does not panic, at every input that the statement speaks of; no condition beyond the statement. -/
/- 'girolaw27.LinkPartition': for every input the law returns true, and each argument reads behind the call as it read before. No condition. -/
import Derived.Test.YtlmedakidpaeeaaMg22
namespace Go.Proofs.Ytlmedakidpaeeaa
open Go.RowKit
def He (G:List Grp):Nat:=(G.map Grp.m).flatten.length
theorem PN {G:List Grp} {k:Nat} (hk:k<G.length):He (G.take (k+1))=He (G.take k)+G[k].m.length:=by
 unfold He;rw [List.take_succ_eq_append_getElem hk,List.map_append,List.flatten_append,List.length_append];exact congrArg (_+ ·) (by rw [List.map_singleton,List.flatten_singleton])
theorem cntG_le {G:List Grp} (k:Nat):He (G.take k)≤He G:=by
 unfold He
 conv=>rhs;rw [←List.take_append_drop k G]
 rw [List.map_append,List.flatten_append,List.length_append];exact Nat.le_add_right _ _
theorem RD {w:Ws} (hw:B4 w) (ha:acyW w=true):He (groupsW w)=w.R.length:=by
 unfold acyW at ha;obtain ⟨ord,ho⟩:=Option.isSome_iff_exists.1 ha;rw [(Fm ho).1,←NN hw ho];unfold He grpS;rw [List.map_map];refine congrArg (fun l=>(List.flatten l).length) (List.ext_getElem (by simp) fun i h1 h2=>?_);have hi:i<ord.length:=by simpa using h2
 simp [hi]
theorem gw_at {w:Ws} (ha:acyW w=true) {k:Nat} (hk:k<(groupsW w).length):(∀y∈(groupsW w)[k].a,y<k)∧∀x∈(groupsW w)[k].m,x∈w.R∧cls w x=(groupsW w)[k].m:=by
 unfold acyW at ha;obtain ⟨ord,ho⟩:=Option.isSome_iff_exists.1 ha;have hg:=(Fm ho).1;have hk':k<ord.length:=by rw [hg,D0] at hk;exact hk
 have he:(groupsW w)[k]=⟨(parts w).getD (ord.getD k 0) [],D1 (depL w) ord (ord.getD k 0) k⟩:=by
  have h1:(grpS w ord)[k]'(by rw [D0];exact hk')=⟨(parts w).getD (ord.getD k 0) [],D1 (depL w) ord (ord.getD k 0) k⟩:=by simp [grpS]
  rw [←h1]
  congr 1
 rw [he];refine ⟨fun y hy=>?_,fun x hx=>?_⟩
 ·exact List.mem_range.1 (List.mem_filter.1 (show y∈D1 (depL w) ord (ord.getD k 0) k from hy)).1
 ·have hx:x∈(parts w).getD (ord.getD k 0) []:=hx
  by_cases hl:ord.getD k 0<(parts w).length
  ·obtain ⟨h1,h2⟩:=FQ (List.mem_of_getElem? (E0 hl)) hx;exact ⟨h1,h2.symm⟩
  ·rw [List.getD_eq_getElem?_getD,List.getElem?_eq_none (by omega)] at hx;exact absurd hx (by simp)
theorem OK {w:Ws} (hw:B4 w) (a:St) (b:Bool):(cloW w a b).length≤2000000:=by
 have h1:(cloW w a b).length≤w.R.length:=List.length_filter_le _ _;have:=hw.few;omega
theorem PO {w:Ws} {a b:St} (ha:a∈w.R) (hb:b∈w.R):decide (a∈cloW w b true)=decide (b∈cloW w a false):=by
 rw [decide_eq_decide,HA,HA];exact ⟨fun h=>⟨hb,Mi.2 h.2⟩,fun h=>⟨ha,Mi.1 h.2⟩⟩
set_option maxRecDepth 100000 in
set_option maxHeartbeats 4000000 in
theorem law3_p (l0:List JV) (hl0:l0.length≤140737488355328):BW Try.prog 5 [.d (QD l0)] (.raw (.bool true)):=by
 obtain ⟨l,hle⟩:∃l,l0.take 24=l:=⟨_,rfl⟩
 have hl:l.length≤24:=by rw [←hle,List.length_take];omega
 have hfew:=few_p l0 hl0;rw [hle] at hfew;have hInv:=Lv l l.length (Nat.le_refl _);rw [List.take_length] at hInv;have hplay:=play_c l (by omega)
 obtain ⟨w,hw⟩:∃w,opsW l=w:=⟨_,rfl⟩
 rw [hw] at hInv hplay;have hok:=hInv.ok;have hac:=hInv.acy;have hnK:=hInv.nK;have hK:w.K.length≤1000000:=by omega
 have hR4:=hok.few;obtain ⟨hg1,hg2⟩:=Qm hok;have hca:=RD hok hac;have hga:=fun {k:Nat} (hk:k<(groupsW w).length)=>gw_at hac hk;have hgr:=fun {M:MF} {b:Nat} (h:BX M b w)=>M9 h hok hK
 obtain ⟨G,hG⟩:∃G,groupsW w=G:=⟨_,rfl⟩
 simp only [hG] at hg1 hg2 hca hga hgr;refine DI Try.func5 Z Z Try.ntmps5 Z Z Z fun F hF=>(AE (AH (AD Z Z (AF (AE (AE (AH (J (DU (known_p) Z Z) ?_))))))))
 first | refine J (FB Z Z) ?_ | refine J (FA Z Z) ?_
 refine AF (EI rfl (rfl) (Aj (AE (AH (AC Z Z (J (DU (hfew) Z Z) ?_))))));refine IA (JS hplay rfl [40] ⟨rfl,trivial⟩ Z Z Z Z (fun r H' ⟨b,M,e1,e2,_⟩=>by subst e1 e2;exact ⟨rfl,rfl,rfl⟩) rfl) rfl ?_;rintro _ ⟨r,H',⟨b,M,e1,e2,hL⟩,rfl⟩;subst e1 e2;refine AC Z Z ?_
 first | refine J (Bi Z Z Z) ?_ | refine J (Bj Z Z Z) ?_
 first | refine J (Bi Z Z Z) ?_ | refine J (Bj Z Z Z) ?_
 refine U (IP 25 EN Z Z Z Z) (AD Z Z (U (Bu Z Z Z Z Z Z Z Bd) ?_));refine AF (AE (AH (AD Z Z (AF (AE (AH (AC Z Z (U (GG (hgr hL) rfl [40] ⟨rfl,trivial⟩ Z Z Z Z Z Z Z Z Z) ?_))))))));refine AD Z Z (AF (AE (AE (AH (AD Z Z (AF (BU (Ev (α:=Nat) (fun k=>⟨135,[(3,(.d (pD b 0))),(4,(.ptr 25 0 0)),(5,(.d (natD (He (G.take k))))),(6,(.d (Em G))),(7,(.d (natD k)))],[(25,[.blk 35 [.d (stsD w.R),.d (J8 w.K)]]),(40,[.multi M])]⟩) (fun k=>k≤G.length) (fun k=>G.length - k) (0) (Nat.zero_le _) (Ax hF [25,40] Z Z ⟨rfl,rfl,rfl,rfl,rfl,trivial⟩) ?_))))))));rintro k hk;refine AE (AE (AH (AC Z Z (AC Z Z (J (CI rfl (List.length_map ..) Try.underlying47 rfl) ?_)))))
 first | refine J (EG Z Z Z) ?_ | refine J (EK Z Z Z) ?_
 refine AF ?_
 first | refine BA rfl (fun h27=>?_) (fun h27=>?_) | refine Aw rfl (fun h27=>?_) (fun h27=>?_)
 ·refine Aj (AE (BU (AE ?_)));have hkl:k<G.length:=GR h27;obtain ⟨hm1,hm2⟩:=hg2 _ (List.getElem_mem hkl);obtain ⟨ha1,ha2⟩:=hga hkl;have hcl:=cntG_le (G:=G) k;have hcs:=PN hkl;refine AH (AC Z Z (AC Z Z (AC Z Z ?_)))
  first | refine J (BC (k) Z Z (rfl) (FE hkl) Try.underlying47 rfl Cb rfl) ?_ | refine J (BD (k) Z Z (rfl) (FE hkl) rfl Try.underlying47 Cb rfl) ?_
  first | refine J (A2 rfl E8 Z Z Z) ?_ | refine J (A4 rfl E8 Z Z Z) ?_ | refine J (A5 rfl E8 Z Z Z) ?_ | refine J (A3 rfl E8 Z Z Z) ?_ | refine J (A1 rfl E8 Z Z Z) ?_
  first | refine J (AZ Z Z AK rfl) ?_ | refine J (AX Z Z Z AK rfl) ?_ | refine J (AY Z Z (rfl) rfl AK rfl) ?_
  refine J (CI rfl (List.length_map ..) Try.underlying32 rfl) (J (C8 Z Z (IntWalk.i64_in _ (by omega)) rfl) (AD Z Z (AF (AE (AE ?_)))));rw [show ((He (G.take k):Nat):Int)+((G[k].m.length:Nat):Int)=((He (G.take (k+1)):Nat):Int) by rw [hcs];rfl];refine AH (AD Z Z (AF (BU (Ev (α:=Nat) (fun j=>⟨135,[(3,(.d (pD b 0))),(4,(.ptr 25 0 0)),(5,(.d (natD (He (G.take (k+1)))))),(6,(.d (Em G))),(7,(.d (natD k))),(8,(.d (natD j)))],[(25,[.blk 35 [.d (stsD w.R),.d (J8 w.K)]]),(40,[.multi M])]⟩) (fun j=>j≤G[k].a.length) (fun j=>G[k].a.length - j) (0) (Nat.zero_le _) (Ax hF [25,40] Z Z ⟨rfl,rfl,rfl,rfl,rfl,rfl,trivial⟩) ?_))));rintro j hj;refine AE (AE (AH (AC Z Z (AC Z Z (AC Z Z ?_)))))
  first | refine J (BC (k) Z Z (rfl) (FE hkl) Try.underlying47 rfl Cb rfl) ?_ | refine J (BD (k) Z Z (rfl) (FE hkl) rfl Try.underlying47 Cb rfl) ?_
  first | refine J (A2 rfl Da Z Z Z) ?_ | refine J (A4 rfl Da Z Z Z) ?_ | refine J (A5 rfl Da Z Z Z) ?_ | refine J (A3 rfl Da Z Z Z) ?_ | refine J (A1 rfl Da Z Z Z) ?_
  first | refine J (AZ Z Z Af rfl) ?_ | refine J (AX Z Z Z Af rfl) ?_ | refine J (AY Z Z (rfl) rfl Af rfl) ?_
  refine J (CI rfl (List.length_map ..) Try.underlying49 rfl) ?_
  first | refine J (EG Z Z Z) ?_ | refine J (EK Z Z Z) ?_
  refine AF ?_
  first | refine BA rfl (fun h45=>?_) (fun h45=>?_) | refine Aw rfl (fun h45=>?_) (fun h45=>?_)
  ·refine Aj (AE (BU (AE ?_)));have hjl:j<G[k].a.length:=GR h45;have hnj:By G[k].a j<k:=ha1 _ (Do hjl);refine AH (AC Z Z (AC Z Z ?_))
   first | refine J (BC (k) Z Z (rfl) (FE hkl) Try.underlying47 rfl Cb rfl) ?_ | refine J (BD (k) Z Z (rfl) (FE hkl) rfl Try.underlying47 Cb rfl) ?_
   first | refine J (A2 rfl Da Z Z Z) ?_ | refine J (A4 rfl Da Z Z Z) ?_ | refine J (A5 rfl Da Z Z Z) ?_ | refine J (A3 rfl Da Z Z Z) ?_ | refine J (A1 rfl Da Z Z Z) ?_
   first | refine J (AZ Z Z Af rfl) ?_ | refine J (AX Z Z Z Af rfl) ?_ | refine J (AY Z Z (rfl) rfl Af rfl) ?_
   refine AC Z Z ?_
   first | refine J (BC (j) Z Z (rfl) (EC hjl) Try.underlying49 rfl D5 rfl) ?_ | refine J (BD (j) Z Z (rfl) (EC hjl) rfl Try.underlying49 D5 rfl) ?_
   first | refine J (AZ Z Z Ba rfl) ?_ | refine J (AX Z Z Z Ba rfl) ?_ | refine J (AY Z Z (rfl) rfl Ba rfl) ?_
   first | refine J (EG Z Z Z) ?_ | refine J (EK Z Z Z) ?_
   refine AC Z Z (H4 57 rfl (decide_eq_false (by omega)) (Ab Z Z Z (AC Z Z (Ab Z Z Z (AC Z Z (Ab Z Z Z ?_))))))
   first | refine J (BC (k) Z Z (rfl) (FE hkl) Try.underlying47 rfl Cb rfl) ?_ | refine J (BD (k) Z Z (rfl) (FE hkl) rfl Try.underlying47 Cb rfl) ?_
   refine Ab Z Z Z ?_
   first | refine J (A2 rfl Da Z Z Z) ?_ | refine J (A4 rfl Da Z Z Z) ?_ | refine J (A5 rfl Da Z Z Z) ?_ | refine J (A3 rfl Da Z Z Z) ?_ | refine J (A1 rfl Da Z Z Z) ?_
   refine Ab Z Z Z ?_
   first | refine J (AZ Z Z Af rfl) ?_ | refine J (AX Z Z Z Af rfl) ?_ | refine J (AY Z Z (rfl) rfl Af rfl) ?_
   refine Ab Z Z Z (AC Z Z (Ab Z Z Z ?_))
   first | refine J (BC (j) Z Z (rfl) (EC hjl) Try.underlying49 rfl D5 rfl) ?_ | refine J (BD (j) Z Z (rfl) (EC hjl) rfl Try.underlying49 D5 rfl) ?_
   refine Ab Z Z Z ?_
   first | refine J (AZ Z Z Ba rfl) ?_ | refine J (AX Z Z Z Ba rfl) ?_ | refine J (AY Z Z (rfl) rfl Ba rfl) ?_
   refine Ab Z Z Z (AC Z Z (Ab Z Z Z (J (Ic Z Z Z) ?_)));refine J (HO Z Z Z Z) (AF (EI rfl (decide_eq_false (by omega)) (Aj (AH (AC Z Z (J (C8 Z Z (IntWalk.i64_in _ (by omega)) rfl) (AD Z Z (AF ?_))))))));exact ⟨j+1,hjl,by omega,Ax hF [25,40] rfl (rfl) ⟨rfl,rfl,rfl,rfl,rfl,rfl,trivial⟩⟩
  ·refine D7 (AE (AH (AD Z Z (AF (BU (Ev (α:=Nat) (fun j=>⟨135,[(3,(.d (pD b 0))),(4,(.ptr 25 0 0)),(5,(.d (natD (He (G.take (k+1)))))),(6,(.d (Em G))),(7,(.d (natD k))),(9,(.d (natD j)))],[(25,[.blk 35 [.d (stsD w.R),.d (J8 w.K)]]),(40,[.multi M])]⟩) (fun j=>j≤G[k].m.length) (fun j=>G[k].m.length - j) (0) (Nat.zero_le _) (Ax hF [25,40] Z Z ⟨rfl,rfl,rfl,rfl,rfl,rfl,trivial⟩) ?_))))));rintro j hj;refine AE (AE (AH (AC Z Z (AC Z Z (AC Z Z ?_)))))
   first | refine J (BC (k) Z Z (rfl) (FE hkl) Try.underlying47 rfl Cb rfl) ?_ | refine J (BD (k) Z Z (rfl) (FE hkl) rfl Try.underlying47 Cb rfl) ?_
   first | refine J (A2 rfl E8 Z Z Z) ?_ | refine J (A4 rfl E8 Z Z Z) ?_ | refine J (A5 rfl E8 Z Z Z) ?_ | refine J (A3 rfl E8 Z Z Z) ?_ | refine J (A1 rfl E8 Z Z Z) ?_
   first | refine J (AZ Z Z AK rfl) ?_ | refine J (AX Z Z Z AK rfl) ?_ | refine J (AY Z Z (rfl) rfl AK rfl) ?_
   refine J (CI rfl (List.length_map ..) Try.underlying32 rfl) ?_
   first | refine J (EG Z Z Z) ?_ | refine J (EK Z Z Z) ?_
   refine AF ?_
   first | refine BA rfl (fun h76=>?_) (fun h76=>?_) | refine Aw rfl (fun h76=>?_) (fun h76=>?_)
   ·refine Aj (AE (BU (AE ?_)));have hjl:j<G[k].m.length:=GR h76;obtain ⟨hxR,hxc⟩:=ha2 _ (List.getElem_mem hjl);have hgp:=group_c hL hok hK G[k].m[j];rw [if_pos hxR,hxc] at hgp;refine Fs [[],[],[],[1,2],[1,2,3],[1,2,3,4],[],[1,2,3,4,5,6],[1,2,3,4,5,6,7],[0,1,2,3,4,5,6,7,8],[],[],[10,11],[10,11,12],[10,11,12,13],[0,1,2,3,4,5,6,7,8,9,10,11,12,13,14],[0,1,2,3,4,5,6,7,8,9,10,11,12,13,14,15]] mixed rfl (E6 ?_)
    first | refine AG [3] [] Z Z (fun _=>AB (Ah Z Z)) ?_ | refine AI [3] Z Z (fun _=>AB (Ah Z Z)) ?_
    first | refine AG [6] [] Z Z (fun _=>AB (Ah Z Z)) ?_ | refine AI [6] Z Z (fun _=>AB (Ah Z Z)) ?_
    first | refine AG [7] [] Z Z (fun _=>AB (Ah Z Z)) ?_ | refine AI [7] Z Z (fun _=>AB (Ah Z Z)) ?_
    first | refine AG [80,81] [] Z Z (fun _=>AB (BC (k) Z Z (rfl) (FE hkl) Try.underlying47 rfl Cb rfl)) ?_ | refine AI [80,81] Z Z (fun _=>AB (BC (k) Z Z (rfl) (FE hkl) Try.underlying47 rfl Cb rfl)) ?_ | refine AG [80,81] [] Z Z (fun _=>AB (BD (k) Z Z (rfl) (FE hkl) rfl Try.underlying47 Cb rfl)) ?_ | refine AI [80,81] Z Z (fun _=>AB (BD (k) Z Z (rfl) (FE hkl) rfl Try.underlying47 Cb rfl)) ?_
    first | refine AG [82] [] Z Z (fun _=>AB (A2 rfl E8 Z Z Z)) ?_ | refine AI [82] Z Z (fun _=>AB (A2 rfl E8 Z Z Z)) ?_ | refine AG [82] [] Z Z (fun _=>AB (A4 rfl E8 Z Z Z)) ?_ | refine AI [82] Z Z (fun _=>AB (A4 rfl E8 Z Z Z)) ?_ | refine AG [82] [] Z Z (fun _=>AB (A5 rfl E8 Z Z Z)) ?_ | refine AI [82] Z Z (fun _=>AB (A5 rfl E8 Z Z Z)) ?_ | refine AG [82] [] Z Z (fun _=>AB (A3 rfl E8 Z Z Z)) ?_ | refine AI [82] Z Z (fun _=>AB (A3 rfl E8 Z Z Z)) ?_ | refine AG [82] [] Z Z (fun _=>AB (A1 rfl E8 Z Z Z)) ?_ | refine AI [82] Z Z (fun _=>AB (A1 rfl E8 Z Z Z)) ?_
    first | refine AG [83] [] Z Z (fun _=>AB (AZ Z Z AK rfl)) ?_ | refine AI [83] Z Z (fun _=>AB (AZ Z Z AK rfl)) ?_ | refine AG [83] [] Z Z (fun _=>AB (AX Z Z Z AK rfl)) ?_ | refine AI [83] Z Z (fun _=>AB (AX Z Z Z AK rfl)) ?_ | refine AG [83] [] Z Z (fun _=>AB (AY Z Z (rfl) rfl AK rfl)) ?_ | refine AI [83] Z Z (fun _=>AB (AY Z Z (rfl) rfl AK rfl)) ?_
    first | refine AG [9] [] Z Z (fun _=>AB (Ah Z Z)) ?_ | refine AI [9] Z Z (fun _=>AB (Ah Z Z)) ?_
    first | refine AG [84,85] [] Z Z (fun _=>AB (BC (j) Z Z (rfl) (B8 hjl) Try.underlying32 rfl DE rfl)) ?_ | refine AI [84,85] Z Z (fun _=>AB (BC (j) Z Z (rfl) (B8 hjl) Try.underlying32 rfl DE rfl)) ?_ | refine AG [84,85] [] Z Z (fun _=>AB (BD (j) Z Z (rfl) (B8 hjl) rfl Try.underlying32 DE rfl)) ?_ | refine AI [84,85] Z Z (fun _=>AB (BD (j) Z Z (rfl) (B8 hjl) rfl Try.underlying32 DE rfl)) ?_
    first | refine AG [86] [] Z Z (fun _=>AB (AZ Z Z AW rfl)) ?_ | refine AI [86] Z Z (fun _=>AB (AZ Z Z AW rfl)) ?_ | refine AG [86] [] Z Z (fun _=>AB (AX Z Z Z AW rfl)) ?_ | refine AI [86] Z Z (fun _=>AB (AX Z Z Z AW rfl)) ?_ | refine AG [86] [] Z Z (fun _=>AB (AY Z Z (rfl) rfl AW rfl)) ?_ | refine AI [86] Z Z (fun _=>AB (AY Z Z (rfl) rfl AW rfl)) ?_
    refine CE [79,87] [40] [(88,_)] Z Z (fun _=>IM (GG hgp rfl [40] ⟨rfl,trivial⟩ Z Z Z Z Z Z Z Z Z)) (.inr ⟨88,_,rfl,rfl,rfl,rfl,rfl⟩) Z Z Z Z Z ?_
    first | refine AG [6] [] Z Z (fun _=>AB (Ah Z Z)) ?_ | refine AI [6] Z Z (fun _=>AB (Ah Z Z)) ?_
    first | refine AG [7] [] Z Z (fun _=>AB (Ah Z Z)) ?_ | refine AI [7] Z Z (fun _=>AB (Ah Z Z)) ?_
    first | refine AG [89,90] [] Z Z (fun _=>AB (BC (k) Z Z (rfl) (FE hkl) Try.underlying47 rfl Cb rfl)) ?_ | refine AI [89,90] Z Z (fun _=>AB (BC (k) Z Z (rfl) (FE hkl) Try.underlying47 rfl Cb rfl)) ?_ | refine AG [89,90] [] Z Z (fun _=>AB (BD (k) Z Z (rfl) (FE hkl) rfl Try.underlying47 Cb rfl)) ?_ | refine AI [89,90] Z Z (fun _=>AB (BD (k) Z Z (rfl) (FE hkl) rfl Try.underlying47 Cb rfl)) ?_
    first | refine AG [91] [] Z Z (fun _=>AB (A2 rfl E8 Z Z Z)) ?_ | refine AI [91] Z Z (fun _=>AB (A2 rfl E8 Z Z Z)) ?_ | refine AG [91] [] Z Z (fun _=>AB (A4 rfl E8 Z Z Z)) ?_ | refine AI [91] Z Z (fun _=>AB (A4 rfl E8 Z Z Z)) ?_ | refine AG [91] [] Z Z (fun _=>AB (A5 rfl E8 Z Z Z)) ?_ | refine AI [91] Z Z (fun _=>AB (A5 rfl E8 Z Z Z)) ?_ | refine AG [91] [] Z Z (fun _=>AB (A3 rfl E8 Z Z Z)) ?_ | refine AI [91] Z Z (fun _=>AB (A3 rfl E8 Z Z Z)) ?_ | refine AG [91] [] Z Z (fun _=>AB (A1 rfl E8 Z Z Z)) ?_ | refine AI [91] Z Z (fun _=>AB (A1 rfl E8 Z Z Z)) ?_
    first | refine AG [92] [] Z Z (fun _=>AB (AZ Z Z AK rfl)) ?_ | refine AI [92] Z Z (fun _=>AB (AZ Z Z AK rfl)) ?_ | refine AG [92] [] Z Z (fun _=>AB (AX Z Z Z AK rfl)) ?_ | refine AI [92] Z Z (fun _=>AB (AX Z Z Z AK rfl)) ?_ | refine AG [92] [] Z Z (fun _=>AB (AY Z Z (rfl) rfl AK rfl)) ?_ | refine AI [92] Z Z (fun _=>AB (AY Z Z (rfl) rfl AK rfl)) ?_
    refine E7 15 Z Z Z (Bq 16 Z Z (J (DU (IX G[k].m G[k].m hm1) Z Z) (AF ⟨rfl,?_⟩)));refine Bq 17 Z Z ?_
    first | refine J (FB Z Z) ?_ | refine J (FA Z Z) ?_
    refine AF ⟨rfl,?_⟩;refine FH (EI rfl (by simp) (Aj (AH (AC Z Z (J (C8 Z Z (IntWalk.i64_in _ (by omega)) rfl) (AD Z Z (AF ?_)))))));exact ⟨j+1,hjl,by omega,Ax hF [25,40] rfl (rfl) ⟨rfl,rfl,rfl,rfl,rfl,rfl,trivial⟩⟩
   ·refine D7 (AH (AC Z Z (J (C8 Z Z (IntWalk.i64_in _ (by omega)) rfl) (AD Z Z (AF ?_)))));exact ⟨k+1,hkl,by omega,Ax hF [25,40] rfl (rfl) ⟨rfl,rfl,rfl,rfl,rfl,trivial⟩⟩
 ·refine D7 (AE (AE ?_));have hke:k=G.length:=by have:=h27;omega
  rw [hke,List.take_length,hca];refine AH (AC Z Z (AC Z Z (U (GG (len_c hL hok) rfl [40] ⟨rfl,trivial⟩ Z Z Z Z Z Z Z Z Z) ?_)))
  first | refine J (Jh Z Z Z) ?_ | refine J (Jg Z Z Z) ?_ | refine J (JZ Z Z Z) ?_ | refine J (Ji Try.underlying3 Z Z Z) ?_ | refine J (Je Try.underlying3 Z Z Z) ?_ | refine J (st_neqN Try.underlying3 Z Z) ?_ | refine J (st_neqPr Try.underlying3 Z Z) ?_ | refine J (st_neqMz Try.underlying3 Z Z) ?_ | refine J (Jd Try.underlying3 Z Z Z) ?_ | refine J (st_neqFN Try.underlying3 Z Z) ?_
  refine AF ?_;refine EI rfl (by simp) (Aj (AE (AE (AH (AD Z Z (AF (BU (Ev (α:=Nat) (fun i=>⟨135,[(3,(.d (pD b 0))),(4,(.ptr 25 0 0)),(10,(.d (natD i)))],[(25,[.blk 35 [.d (stsD w.R),.d (J8 w.K)]]),(40,[.multi M])]⟩) (fun i=>i≤w.R.length) (fun i=>w.R.length - i) (0) (Nat.zero_le _) (Ax hF [25,40] Z Z ⟨rfl,rfl,rfl,trivial⟩) ?_))))))));rintro i hi;refine AE (AE (AH (AC Z Z ?_)))
  first | refine J (A2 rfl A7 Z Z Z) ?_ | refine J (A4 rfl A7 Z Z Z) ?_ | refine J (A5 rfl A7 Z Z Z) ?_ | refine J (A3 rfl A7 Z Z Z) ?_ | refine J (A1 rfl A7 Z Z Z) ?_
  first | refine J (AZ Z Z AK rfl) ?_ | refine J (AX Z Z Z AK rfl) ?_ | refine J (AY Z Z (rfl) rfl AK rfl) ?_
  refine J (CI rfl (List.length_map ..) Try.underlying32 rfl) ?_
  first | refine J (EG Z Z Z) ?_ | refine J (EK Z Z Z) ?_
  refine AF ?_
  first | refine BA rfl (fun h104=>?_) (fun h104=>?_) | refine Aw rfl (fun h104=>?_) (fun h104=>?_)
  ·refine Aj (AE (BU (AE ?_)));have hil:i<w.R.length:=GR h104;refine AH (AD Z Z (AF (BU (Ev (α:=Nat) (fun j=>⟨135,[(3,(.d (pD b 0))),(4,(.ptr 25 0 0)),(10,(.d (natD i))),(11,(.d (natD j)))],[(25,[.blk 35 [.d (stsD w.R),.d (J8 w.K)]]),(40,[.multi M])]⟩) (fun j=>j≤w.R.length) (fun j=>w.R.length - j) (0) (Nat.zero_le _) (Ax hF [25,40] Z Z ⟨rfl,rfl,rfl,rfl,trivial⟩) ?_))));rintro j hj;refine AE (AE (AH (AC Z Z ?_)))
   first | refine J (A2 rfl A7 Z Z Z) ?_ | refine J (A4 rfl A7 Z Z Z) ?_ | refine J (A5 rfl A7 Z Z Z) ?_ | refine J (A3 rfl A7 Z Z Z) ?_ | refine J (A1 rfl A7 Z Z Z) ?_
   first | refine J (AZ Z Z AK rfl) ?_ | refine J (AX Z Z Z AK rfl) ?_ | refine J (AY Z Z (rfl) rfl AK rfl) ?_
   refine J (CI rfl (List.length_map ..) Try.underlying32 rfl) ?_
   first | refine J (EG Z Z Z) ?_ | refine J (EK Z Z Z) ?_
   refine AF ?_
   first | refine BA rfl (fun h111=>?_) (fun h111=>?_) | refine Aw rfl (fun h111=>?_) (fun h111=>?_)
   ·refine Aj (AE (BU (AE ?_)));have hjl:j<w.R.length:=GR h111;have hia:=List.getElem_mem hil;have hja:=List.getElem_mem hjl;have hbf:=Ml hL hok hK w.R[i];rw [if_pos hia] at hbf;have hbh:=RJ hL hok hK w.R[j];rw [if_pos hja] at hbh;have hc1:=JL (cloW w w.R[i] false) w.R[j] (OK hok _ _);have hc2:=JL (cloW w w.R[j] true) w.R[i] (OK hok _ _);rw [PO hia hja] at hc2;refine Fs [[],[0],[],[0,1,2],[0,1,2,3],[],[5],[],[5,6,7],[5,6,7,8],[0,1,2,3,4],[0,1,2,3,4,5,6,7,8,9,10]] mixed rfl (E6 ?_)
    first | refine AG [4] [] Z Z (fun _=>AB (A2 rfl A7 Z Z Z)) ?_ | refine AI [4] Z Z (fun _=>AB (A2 rfl A7 Z Z Z)) ?_ | refine AG [4] [] Z Z (fun _=>AB (A4 rfl A7 Z Z Z)) ?_ | refine AI [4] Z Z (fun _=>AB (A4 rfl A7 Z Z Z)) ?_ | refine AG [4] [] Z Z (fun _=>AB (A5 rfl A7 Z Z Z)) ?_ | refine AI [4] Z Z (fun _=>AB (A5 rfl A7 Z Z Z)) ?_ | refine AG [4] [] Z Z (fun _=>AB (A3 rfl A7 Z Z Z)) ?_ | refine AI [4] Z Z (fun _=>AB (A3 rfl A7 Z Z Z)) ?_ | refine AG [4] [] Z Z (fun _=>AB (A1 rfl A7 Z Z Z)) ?_ | refine AI [4] Z Z (fun _=>AB (A1 rfl A7 Z Z Z)) ?_
    first | refine AG [114] [] Z Z (fun _=>AB (AZ Z Z AK rfl)) ?_ | refine AI [114] Z Z (fun _=>AB (AZ Z Z AK rfl)) ?_ | refine AG [114] [] Z Z (fun _=>AB (AX Z Z Z AK rfl)) ?_ | refine AI [114] Z Z (fun _=>AB (AX Z Z Z AK rfl)) ?_ | refine AG [114] [] Z Z (fun _=>AB (AY Z Z (rfl) rfl AK rfl)) ?_ | refine AI [114] Z Z (fun _=>AB (AY Z Z (rfl) rfl AK rfl)) ?_
    first | refine AG [10] [] Z Z (fun _=>AB (Ah Z Z)) ?_ | refine AI [10] Z Z (fun _=>AB (Ah Z Z)) ?_
    first | refine AG [115,116] [] Z Z (fun _=>AB (BC (i) Z Z (rfl) (B8 hil) Try.underlying32 rfl DE rfl)) ?_ | refine AI [115,116] Z Z (fun _=>AB (BC (i) Z Z (rfl) (B8 hil) Try.underlying32 rfl DE rfl)) ?_ | refine AG [115,116] [] Z Z (fun _=>AB (BD (i) Z Z (rfl) (B8 hil) rfl Try.underlying32 DE rfl)) ?_ | refine AI [115,116] Z Z (fun _=>AB (BD (i) Z Z (rfl) (B8 hil) rfl Try.underlying32 DE rfl)) ?_
    first | refine AG [117] [] Z Z (fun _=>AB (AZ Z Z AW rfl)) ?_ | refine AI [117] Z Z (fun _=>AB (AZ Z Z AW rfl)) ?_ | refine AG [117] [] Z Z (fun _=>AB (AX Z Z Z AW rfl)) ?_ | refine AI [117] Z Z (fun _=>AB (AX Z Z Z AW rfl)) ?_ | refine AG [117] [] Z Z (fun _=>AB (AY Z Z (rfl) rfl AW rfl)) ?_ | refine AI [117] Z Z (fun _=>AB (AY Z Z (rfl) rfl AW rfl)) ?_
    first | refine AG [4] [] Z Z (fun _=>AB (A2 rfl A7 Z Z Z)) ?_ | refine AI [4] Z Z (fun _=>AB (A2 rfl A7 Z Z Z)) ?_ | refine AG [4] [] Z Z (fun _=>AB (A4 rfl A7 Z Z Z)) ?_ | refine AI [4] Z Z (fun _=>AB (A4 rfl A7 Z Z Z)) ?_ | refine AG [4] [] Z Z (fun _=>AB (A5 rfl A7 Z Z Z)) ?_ | refine AI [4] Z Z (fun _=>AB (A5 rfl A7 Z Z Z)) ?_ | refine AG [4] [] Z Z (fun _=>AB (A3 rfl A7 Z Z Z)) ?_ | refine AI [4] Z Z (fun _=>AB (A3 rfl A7 Z Z Z)) ?_ | refine AG [4] [] Z Z (fun _=>AB (A1 rfl A7 Z Z Z)) ?_ | refine AI [4] Z Z (fun _=>AB (A1 rfl A7 Z Z Z)) ?_
    first | refine AG [119] [] Z Z (fun _=>AB (AZ Z Z AK rfl)) ?_ | refine AI [119] Z Z (fun _=>AB (AZ Z Z AK rfl)) ?_ | refine AG [119] [] Z Z (fun _=>AB (AX Z Z Z AK rfl)) ?_ | refine AI [119] Z Z (fun _=>AB (AX Z Z Z AK rfl)) ?_ | refine AG [119] [] Z Z (fun _=>AB (AY Z Z (rfl) rfl AK rfl)) ?_ | refine AI [119] Z Z (fun _=>AB (AY Z Z (rfl) rfl AK rfl)) ?_
    first | refine AG [11] [] Z Z (fun _=>AB (Ah Z Z)) ?_ | refine AI [11] Z Z (fun _=>AB (Ah Z Z)) ?_
    first | refine AG [120,121] [] Z Z (fun _=>AB (BC (j) Z Z (rfl) (B8 hjl) Try.underlying32 rfl DE rfl)) ?_ | refine AI [120,121] Z Z (fun _=>AB (BC (j) Z Z (rfl) (B8 hjl) Try.underlying32 rfl DE rfl)) ?_ | refine AG [120,121] [] Z Z (fun _=>AB (BD (j) Z Z (rfl) (B8 hjl) rfl Try.underlying32 DE rfl)) ?_ | refine AI [120,121] Z Z (fun _=>AB (BD (j) Z Z (rfl) (B8 hjl) rfl Try.underlying32 DE rfl)) ?_
    first | refine AG [122] [] Z Z (fun _=>AB (AZ Z Z AW rfl)) ?_ | refine AI [122] Z Z (fun _=>AB (AZ Z Z AW rfl)) ?_ | refine AG [122] [] Z Z (fun _=>AB (AX Z Z Z AW rfl)) ?_ | refine AI [122] Z Z (fun _=>AB (AX Z Z Z AW rfl)) ?_ | refine AG [122] [] Z Z (fun _=>AB (AY Z Z (rfl) rfl AW rfl)) ?_ | refine AI [122] Z Z (fun _=>AB (AY Z Z (rfl) rfl AW rfl)) ?_
    first | refine AG [118] [] Z Z (fun _=>AB (Cf Z Z)) ?_ | refine AI [118] Z Z (fun _=>AB (Cf Z Z)) ?_
    refine E7 11 Z Z Z (Bq 12 Z Z (AD Z Z (AF ⟨rfl,?_⟩)));refine FH (AE (AH (AC Z Z ?_)));refine AC Z Z (U (GG hbf rfl [40] ⟨rfl,trivial⟩ Z Z Z Z Z Z Z Z Z) (AC Z Z (J (DU (hc1) Z Z) (AC Z Z (AC Z Z (U (GG hbh rfl [40] ⟨rfl,trivial⟩ Z Z Z Z Z Z Z Z Z) (AC Z Z (J (DU (hc2) Z Z) ?_))))))))
    first | refine J (Jh Z Z Z) ?_ | refine J (Jg Z Z Z) ?_ | refine J (JZ Z Z Z) ?_ | refine J (Ji Try.underlying4 Z Z Z) ?_ | refine J (Je Try.underlying4 Z Z Z) ?_ | refine J (st_neqN Try.underlying4 Z Z) ?_ | refine J (st_neqPr Try.underlying4 Z Z) ?_ | refine J (st_neqMz Try.underlying4 Z Z) ?_ | refine J (Jd Try.underlying4 Z Z Z) ?_ | refine J (st_neqFN Try.underlying4 Z Z) ?_
    refine AF (EI rfl (by simp) (Aj (AH (AC Z Z (J (C8 Z Z (IntWalk.i64_in _ (by omega)) rfl) (AD Z Z (AF ?_)))))));exact ⟨j+1,hjl,by omega,Ax hF [25,40] rfl (rfl) ⟨rfl,rfl,rfl,rfl,trivial⟩⟩
   ·refine D7 (AH (AC Z Z (J (C8 Z Z (IntWalk.i64_in _ (by omega)) rfl) (AD Z Z (AF ?_)))));exact ⟨i+1,hil,by omega,Ax hF [25,40] rfl (rfl) ⟨rfl,rfl,rfl,trivial⟩⟩
  ·refine D7 (AE (AH (AD Z Z (AF (Av ?_)))));exact ⟨_,[],[],As rfl,rfl,rfl,rfl,rfl⟩
end Go.Proofs.Ytlmedakidpaeeaa
namespace Go.Proofs.Ytlmedakidpaeeaa
open Go.ChangeShapes Go.WideShapes Go.ChangeAt Go.RowKit
set_option maxRecDepth 100000 in
theorem linkPartition_lifted (os:Os) (started:os.Started) (H:Type) (enc:TypeId×Value ->H):
  ReturnsInHanded {} Try.checked os 5 .any (Rows.linkPartitionSpec.pre6 enc Try.prog Try.f5 Rows.linkPartitionRow.domain false) (Rows.linkPartitionSpec.post enc Try.prog Try.f5 false true false false):=by
 refine returnsInHanded_of_change_sized (C:=Try.checked) Try.own started (by kernel_rfl) Try.func5
  (ChangeSpec.witness6 (enc:=enc) (C:=Try.checked) false ⟨#[], #[.slice none 0 0],[]⟩ 8 (by kernel_rfl) (by kernel_rfl) (by kernel_rfl) (by kernel_rfl)) ?_
 intro W base args ds gs before hval0 hW _ hwt _;have hW':=hW;obtain ⟨p,q,hA0,hV,rfl,_,_⟩:=hW;have hlt:∀x∈p++q,x.block<W.heap.size:=fun x hx=>hW'.lt x hx;have hA:DataW.TrodAll enc Try.prog W 0 (fun _=>true) true Try.f5.params.toList args.toList ds p:=hA0;rw [Try.params5] at hA;obtain ⟨v0,d0,rfl,rfl,h0⟩:=trodAll_one hA;obtain ⟨rfl,rfl⟩:=trodVars_none hV;have hwz:∀n∈DataW.weightsEach Try.prog ([30]:List TypeId) ([d0]),n≤reachBytes:=fun n hn=>of_decide_eq_true (List.all_eq_true.1 hwt n (by rw [Try.params5];exact hn));have hval:∀(j:Nat) t v,Try.f5.params[j]?=some t ->(#[v0]:Array Value)[j]?=some v ->Value.okWide Try.prog W .any base t v:=hval0;rw [Try.params5] at hval;obtain ⟨n0,g0⟩:=h0;have hv0:v0.oneCell'=true:=by obtain ⟨_,_,_,e⟩:=okWide_slice Try.underlying30 (hval 0 30 v0 Z Z);rw [e];rfl
 obtain ⟨a0,q0,_,r0⟩:=(openSl Try.underlying30 (by kernel_rfl) (by omega) (b:=48) (by kernel_rfl) (oOp)) _ _ _ g0 (fun x hx=>hlt x (by simp [hx])) (fun n hn=>hwz n (DataW.weights_mem_each (j:=0) (t:=30) rfl rfl n hn));refine (PB (law3_p a0 (by have:=q0;unfold reachBytes at this;omega)) (vs:=[v0]) rfl (fun i a v ha hv=>?_)).mono fun e W' ⟨he,hb⟩=>?_
 ·rcases i with _ | i
  ·simp at ha hv;subst ha hv;exact LP.arg1 Z Z hv0 r0
  ·simp at ha
 subst he;exact ⟨_,rfl,Qa (tb:=4) Try.laidOut (by kernel_rfl) Z Z Try.underlying4 hW' ⟨rfl,rfl,rfl⟩ hb⟩
theorem linkPartition_holds:Rows.LinkPartitionSaid:=
 OpenClaim.holds_of_wide 5 Try.f5 Z Z Z Z Z Z Z ⟨rfl,rfl,rfl,rfl,rfl⟩ Z Z Z Z Z (by kernel_rfl) Try.func5 (by kernel_rfl)
  (of_decide_eq_true (by kernel_rfl)) (by unfold Func.isWrapper;first | (rw [if_pos (by decide+kernel)];kernel_rfl) | (rw [if_neg (by decide+kernel)];exact ⟨rfl,rfl⟩))
  (fun os started H enc _=>linkPartition_lifted os started H enc)
#print axioms linkPartition_holds
end Go.Proofs.Ytlmedakidpaeeaa
