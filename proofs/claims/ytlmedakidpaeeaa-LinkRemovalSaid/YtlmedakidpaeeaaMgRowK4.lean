/- Proved here: linkRemoval_holds, the given statement Rows.LinkRemovalSaid: the law girolaw27.LinkRemoval returns true and does not panic, at every input that the statement speaks of; no condition beyond the statement. -/
/- 'girolaw27.LinkRemoval': for every input the law returns true, and each argument reads behind the call as it read before. No condition. -/
import Derived.Test.YtlmedakidpaeeaaMg22
namespace Go.Proofs.Ytlmedakidpaeeaa
open Go.RowKit
theorem rem_cases {w:Ws} {x:St}:((remW w x).2=0∧(remW w x).1=DT w x)∨((remW w x).2≠0∧(remW w x).1=w):=by
 by_cases hx:x∈w.R
 ·rw [rem0 hx]
  by_cases ha:acyW (DT w x)=true
  ·rw [if_pos ha];exact .inl ⟨rfl,rfl⟩
  ·rw [if_neg ha];exact .inr ⟨by simp,rfl⟩
 ·rw [rem9 hx];exact .inr ⟨by simp,rfl⟩
theorem rem_clo {w:Ws} (hw:Bc w) {x a y:St} (ha:a∈w.R) (hax:a≠x):a∈(remW w x).1.R∧(y∈cloW (remW w x).1 a false ->y∈cloW w a false)∧((remW w x).2=0 ->y∈cloW (remW w x).1 a false ->y≠x):=by
 rcases rem_cases (w:=w) (x:=x) with ⟨h1,h2⟩ | ⟨h1,h2⟩
 ·rw [h2];refine ⟨List.mem_filter.2 ⟨ha,by simpa using hax⟩,fun hy=>?_,fun _ hy e=>?_⟩
  ·obtain ⟨h3,h4⟩:=FO.1 hy;exact FO.2 ⟨(List.mem_filter.1 h3).1,clo_cut h4⟩
  ·have h3:=(List.mem_filter.1 (FO.1 hy).1).2;rw [e] at h3
   simp at h3
 ·rw [h2];exact ⟨ha,id,fun h=>absurd h h1⟩
set_option maxRecDepth 100000 in
set_option maxHeartbeats 4000000 in
theorem law4_p (l0:List JI) (hl0:l0.length≤140737488355328) (gone:St):B3 Try.prog 6 [.d (Pe l0),.d (AW gone)] (.raw (.bool true)):=by
 obtain ⟨l,hle⟩:∃l,l0.take 24=l:=⟨_,rfl⟩
 have hl:l.length≤24:=by rw [←hle,List.length_take];omega
 have hfew:=few_p l0 hl0;rw [hle] at hfew;have hInv:=Lo l l.length (Nat.le_refl _);rw [List.take_length] at hInv;have hplay:=play_c l (by omega)
 obtain ⟨w,hw⟩:∃w,opsW l=w:=⟨_,rfl⟩
 rw [hw] at hInv hplay;have hok:=hInv.ok;have hac:=hInv.acy;have hnK:=hInv.nK;have hK:w.K.length≤1000000:=by omega
 have hR4:=hok.few;have hInv2:=hInv.rem gone;have hok2:=hInv2.ok;have hnK2:=hInv2.nK;have hrc:=rem_cases (w:=w) (x:=gone);have hcl:=fun {a y:St} (ha:a∈w.R) (hax:a≠gone)=>rem_clo (y:=y) hok ha hax;have hrem:=fun {M:MF} {b:Nat} (h:B4 M b w)=>(Lg h hok hK gone).byX [(40,41)] rfl;have href:=HY w hok hK gone
 obtain ⟨v,hv⟩:∃v,(remW w gone).1=v:=⟨_,rfl⟩
 obtain ⟨e,he⟩:∃e,(remW w gone).2=e:=⟨_,rfl⟩
 simp only [hv,he] at hInv2 hok2 hnK2 hrc hcl hrem href;refine DA Try.func6 Z Z Try.ntmps6 Z Z Z fun F hF=>(AG (AH (AD Z Z (AF (AG (AG (AH (J (DL (known_p) Z Z) ?_))))))))
 first | refine J (ET Z Z) ?_ | refine J (EO Z Z) ?_
 refine AF (DX rfl (rfl) (Aj (AG (AH (AC Z Z (J (DL (hfew) Z Z) ?_))))));refine He (JF hplay rfl [40] ⟨rfl,trivial⟩ Z Z Z Z (fun r H' ⟨b,M,e1,e2,_⟩=>by subst e1 e2;exact ⟨rfl,rfl,rfl⟩) rfl) rfl ?_;rintro _ ⟨r,H',⟨b,M,e1,e2,hL⟩,rfl⟩;subst e1 e2;refine AC Z Z ?_
 first | refine J (B9 Z Z Z) ?_ | refine J (B8 Z Z Z) ?_
 first | refine J (B9 Z Z Z) ?_ | refine J (B8 Z Z Z) ?_
 refine U (HQ 25 Dm Z Z Z Z) (AD Z Z (U (Bq Z Z Z Z Z Z Z Be) (AF (AG (AH (AC Z Z ?_))))));refine He (JF (Nu hL) rfl [40,41] ⟨rfl,rfl,trivial⟩ Z Z Z Z (fun r H' ⟨b1,M1,e1,e2,_⟩=>by subst e1 e2;exact ⟨rfl,rfl,rfl⟩) rfl) rfl ?_;rintro _ ⟨r,H',⟨b1,M1,e1,e2,hC⟩,rfl⟩;subst e1 e2;refine AD Z Z (AF (AG (AH (AC Z Z (AC Z Z ?_)))));refine He (JF (hrem hC) rfl [41] ⟨rfl,trivial⟩ Z Z Z Z (fun r H' ⟨r0,H0,⟨M,e1,e2,_⟩,e3,e4⟩=>by subst e3 e4 e1 e2;exact ⟨rfl,rfl,rfl⟩) rfl) rfl ?_;rintro _ ⟨r,H',⟨r0,H0,⟨M2,e1,e2,hC2⟩,e3,e4⟩,rfl⟩;subst e3 e4 e1 e2;refine AD Z Z (AF (AG (AG (AH ?_))))
 first | refine J (BX Z Z AT rfl) ?_ | refine J (BY Z Z AT Z Z Z) ?_ | refine J (BZ Z Z (rfl) rfl AT rfl) ?_
 refine AC Z Z (J (DL (href) Z Z) (AC Z Z ?_))
 first | refine J (B9 Z Z Z) ?_ | refine J (B8 Z Z Z) ?_
 first | refine J (B9 Z Z Z) ?_ | refine J (B8 Z Z Z) ?_
 refine U (HQ 26 Dm Z Z Z Z) (U (Bq Z Z Z Z Z Z Z Be) (AD Z Z (AF (AG ?_))));have heq:=Q4 hC2 hL hok2 hok;have hre:=fun (h:e≠0)=>(hrc.resolve_left fun hh=>h hh.1).2;refine AH (AC Z Z (AC Z Z ?_))
 first | refine J (IP Z Z Z) ?_ | refine J (iOq Z Z Z) ?_ | refine J (Ho Z Z Z) ?_ | refine J (IJ Try.underlying3 Z Z Z) ?_ | refine J (IL Try.underlying3 Z Z Z) ?_ | refine J (st_neqN Try.underlying3 Z Z) ?_ | refine J (IN Try.underlying3 Z Z) ?_ | refine J (st_neqMz Try.underlying3 Z Z) ?_ | refine J (IK Try.underlying3 Z Z Z) ?_ | refine J (st_neqFN Try.underlying3 Z Z) ?_
 refine AC Z Z (E9 36 rfl (by simp) (A3 Z Z Z (AC Z Z (A3 Z Z Z ?_))))
 first | refine J (IP Z Z Z) ?_ | refine J (iOq Z Z Z) ?_ | refine J (Ho Z Z Z) ?_ | refine J (IJ Try.underlying3 Z Z Z) ?_ | refine J (IL Try.underlying3 Z Z Z) ?_ | refine J (st_neqN Try.underlying3 Z Z) ?_ | refine J (IN Try.underlying3 Z Z) ?_ | refine J (st_neqMz Try.underlying3 Z Z) ?_ | refine J (IK Try.underlying3 Z Z Z) ?_ | refine J (st_neqFN Try.underlying3 Z Z) ?_
 refine A3 Z Z Z (AC Z Z ?_)
 first | refine Hq 39 rfl (fun h39=>?_) (fun h39=>?_) | refine HP 39 rfl (fun h39=>?_) (fun h39=>?_)
 ·refine A3 Z Z Z (AC Z Z (A3 Z Z Z (AC Z Z (A3 Z Z Z (U (GR heq rfl [41,40] ⟨rfl,rfl,trivial⟩ Z Z Z Z Z Z Z Z Z) (A3 Z Z Z ?_))))))
  first | refine J (ET Z Z) ?_ | refine J (EO Z Z) ?_
  refine A3 Z Z Z (J (GS Z Z Z Z) (J (En Z Z Z Z) (AF ?_)));refine DX rfl (decide_eq_false (fun h=>h (by rw [hre h39];exact ⟨rfl,fun _=>Iff.rfl⟩))) (Aj (AG (AG (AH (AD Z Z (AF (B7 (Ex (α:=Nat) (fun i=>⟨98,[(1,.d (AW gone)),(5,(.d (pD b 0))),(6,(.ptr 25 0 0)),(7,(.d (pD b1 0))),(8,(.d (Bh e))),(11,(.d (natD i)))],[(25,[.blk 35 [.d (stsD w.R),.d (Kj w.K)]]),(40,[.multi M]),(41,[.multi M2])]⟩) (fun i=>i≤w.R.length) (fun i=>w.R.length - i) (0) (Nat.zero_le _) (BB hF [25,40,41] Z Z ⟨rfl,rfl,rfl,rfl,rfl,rfl,trivial⟩) ?_))))))));rintro i hi;refine AG (AG (AH (AC Z Z ?_)))
  first | refine J (A5 rfl A0 Z Z Z) ?_ | refine J (A7 rfl A0 Z Z Z) ?_ | refine J (A8 rfl A0 Z Z Z) ?_ | refine J (A6 rfl A0 Z Z Z) ?_ | refine J (A4 rfl A0 Z Z Z) ?_
  first | refine J (AZ Z Z AN rfl) ?_ | refine J (AX Z Z Z AN rfl) ?_ | refine J (AY Z Z (rfl) rfl AN rfl) ?_
  refine J (Cd rfl (List.length_map ..) Try.underlying32 rfl) ?_
  first | refine J (El Z Z Z) ?_ | refine J (Em Z Z Z) ?_
  refine AF ?_
  first | refine BC rfl (fun h50=>?_) (fun h50=>?_) | refine Ax rfl (fun h50=>?_) (fun h50=>?_)
  ·refine Aj (AG (B7 (AG (AG ?_))));have hil:i<w.R.length:=Gt h50;have hia:=List.getElem_mem hil;refine AH ?_
   first | refine J (A5 rfl A0 Z Z Z) ?_ | refine J (A7 rfl A0 Z Z Z) ?_ | refine J (A8 rfl A0 Z Z Z) ?_ | refine J (A6 rfl A0 Z Z Z) ?_ | refine J (A4 rfl A0 Z Z Z) ?_
   first | refine J (AZ Z Z AN rfl) ?_ | refine J (AX Z Z Z AN rfl) ?_ | refine J (AY Z Z (rfl) rfl AN rfl) ?_
   refine AC Z Z ?_
   first | refine J (BO (i) Z Z (rfl) (Ai hil) Try.underlying32 rfl Bl rfl) ?_ | refine J (BP (i) Z Z (rfl) (Ai hil) rfl Try.underlying32 Bl rfl) ?_
   first | refine J (AZ Z Z AQ rfl) ?_ | refine J (AX Z Z Z AQ rfl) ?_ | refine J (AY Z Z (rfl) rfl AQ rfl) ?_
   refine AC Z Z ?_
   first | refine J (EN Z Z Z) ?_ | refine J (EY Z Z Z) ?_ | refine J (Dy Z Z Z) ?_ | refine J (EP Try.underlying9 Z Z Z) ?_ | refine J (ES Try.underlying9 Z Z Z) ?_ | refine J (ER Try.underlying9 Z Z) ?_ | refine J (EX Try.underlying9 Z Z) ?_ | refine J (EW Try.underlying9 Z Z) ?_ | refine J (EQ Try.underlying9 Z Z Z) ?_ | refine J (EV Try.underlying9 Z Z) ?_
   refine AF ?_
   first | refine BC rfl (fun h59=>?_) (fun h59=>?_) | refine Ax rfl (fun h59=>?_) (fun h59=>?_)
   ·refine D3 (AH (AC Z Z (J (C5 Z Z (IntWalk.i64_in _ (by omega)) rfl) (AD Z Z (AF ?_)))));exact ⟨i+1,hil,by omega,BB hF [25,40,41] rfl (rfl) ⟨rfl,rfl,rfl,rfl,rfl,rfl,trivial⟩⟩
   ·refine Aj (AG ?_);have hcx:=fun {y:St}=>hcl (y:=y) hia h59;have hbf:=(FX hC2 hok2 (by omega) w.R[i]).by [(40,41)] rfl;rw [if_pos (hcx (y:=[])).1] at hbf;refine AH (AC Z Z ?_)
    first | refine J (A5 rfl A0 Z Z Z) ?_ | refine J (A7 rfl A0 Z Z Z) ?_ | refine J (A8 rfl A0 Z Z Z) ?_ | refine J (A6 rfl A0 Z Z Z) ?_ | refine J (A4 rfl A0 Z Z Z) ?_
    first | refine J (AZ Z Z AN rfl) ?_ | refine J (AX Z Z Z AN rfl) ?_ | refine J (AY Z Z (rfl) rfl AN rfl) ?_
    refine AC Z Z ?_
    first | refine J (BO (i) Z Z (rfl) (Ai hil) Try.underlying32 rfl Bl rfl) ?_ | refine J (BP (i) Z Z (rfl) (Ai hil) rfl Try.underlying32 Bl rfl) ?_
    first | refine J (AZ Z Z AQ rfl) ?_ | refine J (AX Z Z Z AQ rfl) ?_ | refine J (AY Z Z (rfl) rfl AQ rfl) ?_
    refine U (GR hbf rfl [41] ⟨rfl,trivial⟩ Z Z Z Z Z Z Z Z Z) (AD Z Z (AF (AG ?_)));have hlc:=IF hok2 w.R[i] false;have hb2:=FX hL hok hK w.R[i];rw [if_pos hia] at hb2;refine AH (AD Z Z (AF (B7 (Ex (α:=Nat) (fun j=>⟨98,[(1,.d (AW gone)),(5,(.d (pD b 0))),(6,(.ptr 25 0 0)),(7,(.d (pD b1 0))),(8,(.d (Bh e))),(11,(.d (natD i))),(12,(.d (stsD (cloW v w.R[i] false)))),(13,(.d (natD j)))],[(25,[.blk 35 [.d (stsD w.R),.d (Kj w.K)]]),(40,[.multi M]),(41,[.multi M2])]⟩) (fun j=>j≤(cloW v w.R[i] false).length) (fun j=>(cloW v w.R[i] false).length - j) (0) (Nat.zero_le _) (BB hF [25,40,41] Z Z ⟨rfl,rfl,rfl,rfl,rfl,rfl,rfl,rfl,trivial⟩) ?_))));rintro j hj;refine AG (AG (AH (AC Z Z (AC Z Z (J (Cd rfl (List.length_map ..) Try.underlying32 rfl) ?_)))))
    first | refine J (El Z Z Z) ?_ | refine J (Em Z Z Z) ?_
    refine AF ?_
    first | refine BC rfl (fun h70=>?_) (fun h70=>?_) | refine Ax rfl (fun h70=>?_) (fun h70=>?_)
    ·refine Aj (AG (B7 (AG ?_)));have hjl:j<(cloW v w.R[i] false).length:=Gt h70;have hjm:=List.getElem_mem hjl;obtain ⟨_,hy1,hy2⟩:=hcx (y:=(cloW v w.R[i] false)[j]);refine F1 [[],[],[1],[],[1,2,3],[1,2,3,4],[0,1,2,3,4,5],[],[],[7,8],[7,8,9],[0,1,2,3,4,5,6,7,8,9,10],[0,1,2,3,4,5,6,7,8,9,10,11],[0,1,2,3,4,5,6,7,8,9,10,11,12],[0,1,2,3,4,5,6,7,8,9,10,11,12,13],[0,1,2,3,4,5,6,7,8,9,10,11,12,13,14],[0,1,2,3,4,5,6,7,8,9,10,11,12,13,14,15],[0,1,2,3,4,5,6,7,8,9,10,11,12,13,14,15,16],[0,1,2,3,4,5,6,7,8,9,10,11,12,13,14,15,16],[0,1,2,3,4,5,6,7,8,9,10,11,12,13,14,15,16,17,18],[0,1,2,3,4,5,6,7,8,9,10,11,12,13,14,15,16,17,18,19],[0,1,2,3,4,5,6,7,8,9,10,11,12,13,14,15,16],[0,1,2,3,4,5,6,7,8,9,10,11,12,13,14,15,16,17,18,19,20,21],[0,1,2,3,4,5,6,7,8,9,10,11,12,13,14,15,16,17,18,19,20,21,22],[0,1,2,3,4,5,6,7,8,9,10,11,12,13,14,15,16,17,18,19,20,21,22,23]] mixed rfl (D1 ?_)
     first | refine AE [5] [] Z Z (fun _=>AB (Ac Z Z)) ?_ | refine AI [5] Z Z (fun _=>AB (Ac Z Z)) ?_
     first | refine AE [6] [] Z Z (fun _=>AB (A5 rfl A0 Z Z Z)) ?_ | refine AI [6] Z Z (fun _=>AB (A5 rfl A0 Z Z Z)) ?_ | refine AE [6] [] Z Z (fun _=>AB (A7 rfl A0 Z Z Z)) ?_ | refine AI [6] Z Z (fun _=>AB (A7 rfl A0 Z Z Z)) ?_ | refine AE [6] [] Z Z (fun _=>AB (A8 rfl A0 Z Z Z)) ?_ | refine AI [6] Z Z (fun _=>AB (A8 rfl A0 Z Z Z)) ?_ | refine AE [6] [] Z Z (fun _=>AB (A6 rfl A0 Z Z Z)) ?_ | refine AI [6] Z Z (fun _=>AB (A6 rfl A0 Z Z Z)) ?_ | refine AE [6] [] Z Z (fun _=>AB (A4 rfl A0 Z Z Z)) ?_ | refine AI [6] Z Z (fun _=>AB (A4 rfl A0 Z Z Z)) ?_
     first | refine AE [74] [25] Z Z (fun _=>AB (AZ Z Z AN rfl)) ?_ | refine AE [74] [25] Z Z (fun _=>AB (AX Z Z Z AN rfl)) ?_ | refine AE [74] [25] Z Z (fun _=>AB (AY Z Z (rfl) rfl AN rfl)) ?_
     first | refine AE [11] [] Z Z (fun _=>AB (Ac Z Z)) ?_ | refine AI [11] Z Z (fun _=>AB (Ac Z Z)) ?_
     first | refine AE [75,76] [] Z Z (fun _=>AB (BO (i) Z Z (rfl) (Ai hil) Try.underlying32 rfl Bl rfl)) ?_ | refine AI [75,76] Z Z (fun _=>AB (BO (i) Z Z (rfl) (Ai hil) Try.underlying32 rfl Bl rfl)) ?_ | refine AE [75,76] [] Z Z (fun _=>AB (BP (i) Z Z (rfl) (Ai hil) rfl Try.underlying32 Bl rfl)) ?_ | refine AI [75,76] Z Z (fun _=>AB (BP (i) Z Z (rfl) (Ai hil) rfl Try.underlying32 Bl rfl)) ?_
     first | refine AE [77] [] Z Z (fun _=>AB (AZ Z Z AQ rfl)) ?_ | refine AI [77] Z Z (fun _=>AB (AZ Z Z AQ rfl)) ?_ | refine AE [77] [] Z Z (fun _=>AB (AX Z Z Z AQ rfl)) ?_ | refine AI [77] Z Z (fun _=>AB (AX Z Z Z AQ rfl)) ?_ | refine AE [77] [] Z Z (fun _=>AB (AY Z Z (rfl) rfl AQ rfl)) ?_ | refine AI [77] Z Z (fun _=>AB (AY Z Z (rfl) rfl AQ rfl)) ?_
     refine Bt [73,78] [40] [(79,_)] Z Z (fun _=>Hf (GR hb2 rfl [40] ⟨rfl,trivial⟩ Z Z Z Z Z Z Z Z Z)) (.inr ⟨79,_,rfl,rfl,rfl,rfl,rfl⟩) Z Z Z Z Z ?_
     first | refine AE [12] [] Z Z (fun _=>AB (Ac Z Z)) ?_ | refine AI [12] Z Z (fun _=>AB (Ac Z Z)) ?_
     first | refine AE [13] [] Z Z (fun _=>AB (Ac Z Z)) ?_ | refine AI [13] Z Z (fun _=>AB (Ac Z Z)) ?_
     first | refine AE [80,81] [] Z Z (fun _=>AB (BO (j) Z Z (rfl) (Ai hjl) Try.underlying32 rfl Bl rfl)) ?_ | refine AI [80,81] Z Z (fun _=>AB (BO (j) Z Z (rfl) (Ai hjl) Try.underlying32 rfl Bl rfl)) ?_ | refine AE [80,81] [] Z Z (fun _=>AB (BP (j) Z Z (rfl) (Ai hjl) rfl Try.underlying32 Bl rfl)) ?_ | refine AI [80,81] Z Z (fun _=>AB (BP (j) Z Z (rfl) (Ai hjl) rfl Try.underlying32 Bl rfl)) ?_
     first | refine AE [82] [] Z Z (fun _=>AB (AZ Z Z AQ rfl)) ?_ | refine AI [82] Z Z (fun _=>AB (AZ Z Z AQ rfl)) ?_ | refine AE [82] [] Z Z (fun _=>AB (AX Z Z Z AQ rfl)) ?_ | refine AI [82] Z Z (fun _=>AB (AX Z Z Z AQ rfl)) ?_ | refine AE [82] [] Z Z (fun _=>AB (AY Z Z (rfl) rfl AQ rfl)) ?_ | refine AI [82] Z Z (fun _=>AB (AY Z Z (rfl) rfl AQ rfl)) ?_
     refine D2 11 Z Z Z (BQ 12 Z Z (J (DL (Ix (cloW w w.R[i] false) (cloW v w.R[i] false)[j] (IF hok _ _)) Z Z) (AF ⟨rfl,?_⟩)));refine BQ 13 Z Z ?_
     first | refine J (ET Z Z) ?_ | refine J (EO Z Z) ?_
     refine AF ⟨rfl,?_⟩;refine BQ 14 Z Z (AC Z Z (E9 86 rfl (by simp [hy1 hjm]) (AF ⟨rfl,?_⟩)));refine BQ 15 Z Z (A3 Z Z Z (AC Z Z (AF ⟨rfl,?_⟩)));refine BQ 16 Z Z (A3 Z Z Z ?_)
     first | refine J (EN Z Z Z) ?_ | refine J (EY Z Z Z) ?_ | refine J (Dy Z Z Z) ?_ | refine J (EP Try.underlying25 Z Z Z) ?_ | refine J (ES Try.underlying25 Z Z Z) ?_ | refine J (ER Try.underlying25 Z Z) ?_ | refine J (EX Try.underlying25 Z Z) ?_ | refine J (EW Try.underlying25 Z Z) ?_ | refine J (EQ Try.underlying25 Z Z Z) ?_ | refine J (EV Try.underlying25 Z Z) ?_
     refine AF ⟨rfl,?_⟩;refine BQ 17 Z Z (A3 Z Z Z (AC Z Z ?_))
     first | refine Hq 89 rfl (fun h89=>?_) (fun h89=>?_) | refine HP 89 rfl (fun h89=>?_) (fun h89=>?_)
     ·refine AF ⟨rfl,?_⟩;refine D1 ?_
      first | refine AE [12,89] [] Z Z (fun _=>Bu Z Z Z (Ac Z Z)) ?_ | refine AI [12,89] Z Z (fun _=>Bu Z Z Z (Ac Z Z)) ?_
      first | refine AE [13,89] [] Z Z (fun _=>Bu Z Z Z (Ac Z Z)) ?_ | refine AI [13,89] Z Z (fun _=>Bu Z Z Z (Ac Z Z)) ?_
      first | refine AE [90,91,89] [] Z Z (fun _=>Bu Z Z Z (BO (j) Z Z (rfl) (Ai hjl) Try.underlying32 rfl Bl rfl)) ?_ | refine AI [90,91,89] Z Z (fun _=>Bu Z Z Z (BO (j) Z Z (rfl) (Ai hjl) Try.underlying32 rfl Bl rfl)) ?_ | refine AE [90,91,89] [] Z Z (fun _=>Bu Z Z Z (BP (j) Z Z (rfl) (Ai hjl) rfl Try.underlying32 Bl rfl)) ?_ | refine AI [90,91,89] Z Z (fun _=>Bu Z Z Z (BP (j) Z Z (rfl) (Ai hjl) rfl Try.underlying32 Bl rfl)) ?_
      first | refine AE [92,89] [] Z Z (fun _=>Bu Z Z Z (AZ Z Z AQ rfl)) ?_ | refine AI [92,89] Z Z (fun _=>Bu Z Z Z (AZ Z Z AQ rfl)) ?_ | refine AE [92,89] [] Z Z (fun _=>Bu Z Z Z (AX Z Z Z AQ rfl)) ?_ | refine AI [92,89] Z Z (fun _=>Bu Z Z Z (AX Z Z Z AQ rfl)) ?_ | refine AE [92,89] [] Z Z (fun _=>Bu Z Z Z (AY Z Z (rfl) rfl AQ rfl)) ?_ | refine AI [92,89] Z Z (fun _=>Bu Z Z Z (AY Z Z (rfl) rfl AQ rfl)) ?_
      first | refine AE [1,89] [] Z Z (fun _=>Bu Z Z Z (Ac Z Z)) ?_ | refine AI [1,89] Z Z (fun _=>Bu Z Z Z (Ac Z Z)) ?_
      refine D2 22 Z Z Z (BQ 23 Z Z (A3 Z Z Z ?_))
      first | refine J (EN Z Z Z) ?_ | refine J (EY Z Z Z) ?_ | refine J (Dy Z Z Z) ?_ | refine J (EP Try.underlying9 Z Z Z) ?_ | refine J (ES Try.underlying9 Z Z Z) ?_ | refine J (ER Try.underlying9 Z Z) ?_ | refine J (EX Try.underlying9 Z Z) ?_ | refine J (EW Try.underlying9 Z Z) ?_ | refine J (EQ Try.underlying9 Z Z Z) ?_ | refine J (EV Try.underlying9 Z Z) ?_
      refine AF ⟨rfl,?_⟩;refine BQ 24 Z Z (A3 Z Z Z (J (GS Z Z Z Z) (AF ⟨rfl,?_⟩)));refine BQ 25 Z Z (J (En Z Z Z Z) (AF ⟨rfl,?_⟩));refine Ei (DX rfl (by first | exact decide_eq_false (hy2 h89 hjm) | simp) (Aj (AH (AC Z Z (J (C5 Z Z (IntWalk.i64_in _ (by omega)) rfl) (AD Z Z (AF ?_)))))));exact ⟨j+1,hjl,by omega,BB hF [25,40,41] rfl (rfl) ⟨rfl,rfl,rfl,rfl,rfl,rfl,rfl,rfl,trivial⟩⟩
     ·refine AF ⟨rfl,?_⟩;refine D1 ?_;refine AE [12,89] [] Z Z (fun _=>GU Z Z Z Z) (AE [13,89] [] Z Z (fun _=>GU Z Z Z Z) (AE [90,91,89] [] Z Z (fun _=>GU Z Z Z Z) (AE [92,89] [] Z Z (fun _=>GU Z Z Z Z) (AE [1,89] [] Z Z (fun _=>GU Z Z Z Z) (D2 22 Z Z Z (BQ 23 Z Z (Aw Z Z Z Z (AF ⟨rfl,?_⟩))))))));refine BQ 24 Z Z (A3 Z Z Z (J (En Z Z Z Z) (AF ⟨rfl,?_⟩)));refine BQ 25 Z Z (J (En Z Z Z Z) (AF ⟨rfl,?_⟩));refine Ei (DX Z Z (Aj (AH (AC Z Z (J (C5 Z Z (IntWalk.i64_in _ (by omega)) rfl) (AD Z Z (AF ?_)))))));exact ⟨j+1,hjl,by omega,BB hF [25,40,41] rfl (rfl) ⟨rfl,rfl,rfl,rfl,rfl,rfl,rfl,rfl,trivial⟩⟩
    ·refine D3 (AH (AC Z Z (J (C5 Z Z (IntWalk.i64_in _ (by omega)) rfl) (AD Z Z (AF ?_)))));exact ⟨i+1,hil,by omega,BB hF [25,40,41] rfl (rfl) ⟨rfl,rfl,rfl,rfl,rfl,rfl,trivial⟩⟩
  ·refine D3 (AG (AH (AD Z Z (AF (At ?_)))));exact ⟨_,[],[],As rfl,rfl,rfl,rfl,rfl⟩
 ·refine Aw Z Z Z Z (Aw Z Z Z Z (Aw Z Z Z Z (Aw Z Z Z Z (A3 Z Z Z (J (En Z Z Z Z) (J (En Z Z Z Z) (AF ?_)))))));refine DX Z Z (Aj (AG (AG (AH (AD Z Z (AF (B7 (Ex (α:=Nat) (fun i=>⟨98,[(1,.d (AW gone)),(5,(.d (pD b 0))),(6,(.ptr 25 0 0)),(7,(.d (pD b1 0))),(8,(.d (Bh e))),(11,(.d (natD i)))],[(25,[.blk 35 [.d (stsD w.R),.d (Kj w.K)]]),(40,[.multi M]),(41,[.multi M2])]⟩) (fun i=>i≤w.R.length) (fun i=>w.R.length - i) (0) (Nat.zero_le _) (BB hF [25,40,41] Z Z ⟨rfl,rfl,rfl,rfl,rfl,rfl,trivial⟩) ?_))))))));rintro i hi;refine AG (AG (AH (AC Z Z ?_)))
  first | refine J (A5 rfl A0 Z Z Z) ?_ | refine J (A7 rfl A0 Z Z Z) ?_ | refine J (A8 rfl A0 Z Z Z) ?_ | refine J (A6 rfl A0 Z Z Z) ?_ | refine J (A4 rfl A0 Z Z Z) ?_
  first | refine J (AZ Z Z AN rfl) ?_ | refine J (AX Z Z Z AN rfl) ?_ | refine J (AY Z Z (rfl) rfl AN rfl) ?_
  refine J (Cd rfl (List.length_map ..) Try.underlying32 rfl) ?_
  first | refine J (El Z Z Z) ?_ | refine J (Em Z Z Z) ?_
  refine AF ?_
  first | refine BC rfl (fun h50=>?_) (fun h50=>?_) | refine Ax rfl (fun h50=>?_) (fun h50=>?_)
  ·refine Aj (AG (B7 (AG (AG ?_))));have hil:i<w.R.length:=Gt h50;have hia:=List.getElem_mem hil;refine AH ?_
   first | refine J (A5 rfl A0 Z Z Z) ?_ | refine J (A7 rfl A0 Z Z Z) ?_ | refine J (A8 rfl A0 Z Z Z) ?_ | refine J (A6 rfl A0 Z Z Z) ?_ | refine J (A4 rfl A0 Z Z Z) ?_
   first | refine J (AZ Z Z AN rfl) ?_ | refine J (AX Z Z Z AN rfl) ?_ | refine J (AY Z Z (rfl) rfl AN rfl) ?_
   refine AC Z Z ?_
   first | refine J (BO (i) Z Z (rfl) (Ai hil) Try.underlying32 rfl Bl rfl) ?_ | refine J (BP (i) Z Z (rfl) (Ai hil) rfl Try.underlying32 Bl rfl) ?_
   first | refine J (AZ Z Z AQ rfl) ?_ | refine J (AX Z Z Z AQ rfl) ?_ | refine J (AY Z Z (rfl) rfl AQ rfl) ?_
   refine AC Z Z ?_
   first | refine J (EN Z Z Z) ?_ | refine J (EY Z Z Z) ?_ | refine J (Dy Z Z Z) ?_ | refine J (EP Try.underlying9 Z Z Z) ?_ | refine J (ES Try.underlying9 Z Z Z) ?_ | refine J (ER Try.underlying9 Z Z) ?_ | refine J (EX Try.underlying9 Z Z) ?_ | refine J (EW Try.underlying9 Z Z) ?_ | refine J (EQ Try.underlying9 Z Z Z) ?_ | refine J (EV Try.underlying9 Z Z) ?_
   refine AF ?_
   first | refine BC rfl (fun h59=>?_) (fun h59=>?_) | refine Ax rfl (fun h59=>?_) (fun h59=>?_)
   ·refine D3 (AH (AC Z Z (J (C5 Z Z (IntWalk.i64_in _ (by omega)) rfl) (AD Z Z (AF ?_)))));exact ⟨i+1,hil,by omega,BB hF [25,40,41] rfl (rfl) ⟨rfl,rfl,rfl,rfl,rfl,rfl,trivial⟩⟩
   ·refine Aj (AG ?_);have hcx:=fun {y:St}=>hcl (y:=y) hia h59;have hbf:=(FX hC2 hok2 (by omega) w.R[i]).by [(40,41)] rfl;rw [if_pos (hcx (y:=[])).1] at hbf;refine AH (AC Z Z ?_)
    first | refine J (A5 rfl A0 Z Z Z) ?_ | refine J (A7 rfl A0 Z Z Z) ?_ | refine J (A8 rfl A0 Z Z Z) ?_ | refine J (A6 rfl A0 Z Z Z) ?_ | refine J (A4 rfl A0 Z Z Z) ?_
    first | refine J (AZ Z Z AN rfl) ?_ | refine J (AX Z Z Z AN rfl) ?_ | refine J (AY Z Z (rfl) rfl AN rfl) ?_
    refine AC Z Z ?_
    first | refine J (BO (i) Z Z (rfl) (Ai hil) Try.underlying32 rfl Bl rfl) ?_ | refine J (BP (i) Z Z (rfl) (Ai hil) rfl Try.underlying32 Bl rfl) ?_
    first | refine J (AZ Z Z AQ rfl) ?_ | refine J (AX Z Z Z AQ rfl) ?_ | refine J (AY Z Z (rfl) rfl AQ rfl) ?_
    refine U (GR hbf rfl [41] ⟨rfl,trivial⟩ Z Z Z Z Z Z Z Z Z) (AD Z Z (AF (AG ?_)));have hlc:=IF hok2 w.R[i] false;have hb2:=FX hL hok hK w.R[i];rw [if_pos hia] at hb2;refine AH (AD Z Z (AF (B7 (Ex (α:=Nat) (fun j=>⟨98,[(1,.d (AW gone)),(5,(.d (pD b 0))),(6,(.ptr 25 0 0)),(7,(.d (pD b1 0))),(8,(.d (Bh e))),(11,(.d (natD i))),(12,(.d (stsD (cloW v w.R[i] false)))),(13,(.d (natD j)))],[(25,[.blk 35 [.d (stsD w.R),.d (Kj w.K)]]),(40,[.multi M]),(41,[.multi M2])]⟩) (fun j=>j≤(cloW v w.R[i] false).length) (fun j=>(cloW v w.R[i] false).length - j) (0) (Nat.zero_le _) (BB hF [25,40,41] Z Z ⟨rfl,rfl,rfl,rfl,rfl,rfl,rfl,rfl,trivial⟩) ?_))));rintro j hj;refine AG (AG (AH (AC Z Z (AC Z Z (J (Cd rfl (List.length_map ..) Try.underlying32 rfl) ?_)))))
    first | refine J (El Z Z Z) ?_ | refine J (Em Z Z Z) ?_
    refine AF ?_
    first | refine BC rfl (fun h70=>?_) (fun h70=>?_) | refine Ax rfl (fun h70=>?_) (fun h70=>?_)
    ·refine Aj (AG (B7 (AG ?_)));have hjl:j<(cloW v w.R[i] false).length:=Gt h70;have hjm:=List.getElem_mem hjl;obtain ⟨_,hy1,hy2⟩:=hcx (y:=(cloW v w.R[i] false)[j]);refine F1 [[],[],[1],[],[1,2,3],[1,2,3,4],[0,1,2,3,4,5],[],[],[7,8],[7,8,9],[0,1,2,3,4,5,6,7,8,9,10],[0,1,2,3,4,5,6,7,8,9,10,11],[0,1,2,3,4,5,6,7,8,9,10,11,12],[0,1,2,3,4,5,6,7,8,9,10,11,12,13],[0,1,2,3,4,5,6,7,8,9,10,11,12,13,14],[0,1,2,3,4,5,6,7,8,9,10,11,12,13,14,15],[0,1,2,3,4,5,6,7,8,9,10,11,12,13,14,15,16],[0,1,2,3,4,5,6,7,8,9,10,11,12,13,14,15,16],[0,1,2,3,4,5,6,7,8,9,10,11,12,13,14,15,16,17,18],[0,1,2,3,4,5,6,7,8,9,10,11,12,13,14,15,16,17,18,19],[0,1,2,3,4,5,6,7,8,9,10,11,12,13,14,15,16],[0,1,2,3,4,5,6,7,8,9,10,11,12,13,14,15,16,17,18,19,20,21],[0,1,2,3,4,5,6,7,8,9,10,11,12,13,14,15,16,17,18,19,20,21,22],[0,1,2,3,4,5,6,7,8,9,10,11,12,13,14,15,16,17,18,19,20,21,22,23]] mixed rfl (D1 ?_)
     first | refine AE [5] [] Z Z (fun _=>AB (Ac Z Z)) ?_ | refine AI [5] Z Z (fun _=>AB (Ac Z Z)) ?_
     first | refine AE [6] [] Z Z (fun _=>AB (A5 rfl A0 Z Z Z)) ?_ | refine AI [6] Z Z (fun _=>AB (A5 rfl A0 Z Z Z)) ?_ | refine AE [6] [] Z Z (fun _=>AB (A7 rfl A0 Z Z Z)) ?_ | refine AI [6] Z Z (fun _=>AB (A7 rfl A0 Z Z Z)) ?_ | refine AE [6] [] Z Z (fun _=>AB (A8 rfl A0 Z Z Z)) ?_ | refine AI [6] Z Z (fun _=>AB (A8 rfl A0 Z Z Z)) ?_ | refine AE [6] [] Z Z (fun _=>AB (A6 rfl A0 Z Z Z)) ?_ | refine AI [6] Z Z (fun _=>AB (A6 rfl A0 Z Z Z)) ?_ | refine AE [6] [] Z Z (fun _=>AB (A4 rfl A0 Z Z Z)) ?_ | refine AI [6] Z Z (fun _=>AB (A4 rfl A0 Z Z Z)) ?_
     first | refine AE [74] [25] Z Z (fun _=>AB (AZ Z Z AN rfl)) ?_ | refine AE [74] [25] Z Z (fun _=>AB (AX Z Z Z AN rfl)) ?_ | refine AE [74] [25] Z Z (fun _=>AB (AY Z Z (rfl) rfl AN rfl)) ?_
     first | refine AE [11] [] Z Z (fun _=>AB (Ac Z Z)) ?_ | refine AI [11] Z Z (fun _=>AB (Ac Z Z)) ?_
     first | refine AE [75,76] [] Z Z (fun _=>AB (BO (i) Z Z (rfl) (Ai hil) Try.underlying32 rfl Bl rfl)) ?_ | refine AI [75,76] Z Z (fun _=>AB (BO (i) Z Z (rfl) (Ai hil) Try.underlying32 rfl Bl rfl)) ?_ | refine AE [75,76] [] Z Z (fun _=>AB (BP (i) Z Z (rfl) (Ai hil) rfl Try.underlying32 Bl rfl)) ?_ | refine AI [75,76] Z Z (fun _=>AB (BP (i) Z Z (rfl) (Ai hil) rfl Try.underlying32 Bl rfl)) ?_
     first | refine AE [77] [] Z Z (fun _=>AB (AZ Z Z AQ rfl)) ?_ | refine AI [77] Z Z (fun _=>AB (AZ Z Z AQ rfl)) ?_ | refine AE [77] [] Z Z (fun _=>AB (AX Z Z Z AQ rfl)) ?_ | refine AI [77] Z Z (fun _=>AB (AX Z Z Z AQ rfl)) ?_ | refine AE [77] [] Z Z (fun _=>AB (AY Z Z (rfl) rfl AQ rfl)) ?_ | refine AI [77] Z Z (fun _=>AB (AY Z Z (rfl) rfl AQ rfl)) ?_
     refine Bt [73,78] [40] [(79,_)] Z Z (fun _=>Hf (GR hb2 rfl [40] ⟨rfl,trivial⟩ Z Z Z Z Z Z Z Z Z)) (.inr ⟨79,_,rfl,rfl,rfl,rfl,rfl⟩) Z Z Z Z Z ?_
     first | refine AE [12] [] Z Z (fun _=>AB (Ac Z Z)) ?_ | refine AI [12] Z Z (fun _=>AB (Ac Z Z)) ?_
     first | refine AE [13] [] Z Z (fun _=>AB (Ac Z Z)) ?_ | refine AI [13] Z Z (fun _=>AB (Ac Z Z)) ?_
     first | refine AE [80,81] [] Z Z (fun _=>AB (BO (j) Z Z (rfl) (Ai hjl) Try.underlying32 rfl Bl rfl)) ?_ | refine AI [80,81] Z Z (fun _=>AB (BO (j) Z Z (rfl) (Ai hjl) Try.underlying32 rfl Bl rfl)) ?_ | refine AE [80,81] [] Z Z (fun _=>AB (BP (j) Z Z (rfl) (Ai hjl) rfl Try.underlying32 Bl rfl)) ?_ | refine AI [80,81] Z Z (fun _=>AB (BP (j) Z Z (rfl) (Ai hjl) rfl Try.underlying32 Bl rfl)) ?_
     first | refine AE [82] [] Z Z (fun _=>AB (AZ Z Z AQ rfl)) ?_ | refine AI [82] Z Z (fun _=>AB (AZ Z Z AQ rfl)) ?_ | refine AE [82] [] Z Z (fun _=>AB (AX Z Z Z AQ rfl)) ?_ | refine AI [82] Z Z (fun _=>AB (AX Z Z Z AQ rfl)) ?_ | refine AE [82] [] Z Z (fun _=>AB (AY Z Z (rfl) rfl AQ rfl)) ?_ | refine AI [82] Z Z (fun _=>AB (AY Z Z (rfl) rfl AQ rfl)) ?_
     refine D2 11 Z Z Z (BQ 12 Z Z (J (DL (Ix (cloW w w.R[i] false) (cloW v w.R[i] false)[j] (IF hok _ _)) Z Z) (AF ⟨rfl,?_⟩)));refine BQ 13 Z Z ?_
     first | refine J (ET Z Z) ?_ | refine J (EO Z Z) ?_
     refine AF ⟨rfl,?_⟩;refine BQ 14 Z Z (AC Z Z (E9 86 rfl (by simp [hy1 hjm]) (AF ⟨rfl,?_⟩)));refine BQ 15 Z Z (A3 Z Z Z (AC Z Z (AF ⟨rfl,?_⟩)));refine BQ 16 Z Z (A3 Z Z Z ?_)
     first | refine J (EN Z Z Z) ?_ | refine J (EY Z Z Z) ?_ | refine J (Dy Z Z Z) ?_ | refine J (EP Try.underlying25 Z Z Z) ?_ | refine J (ES Try.underlying25 Z Z Z) ?_ | refine J (ER Try.underlying25 Z Z) ?_ | refine J (EX Try.underlying25 Z Z) ?_ | refine J (EW Try.underlying25 Z Z) ?_ | refine J (EQ Try.underlying25 Z Z Z) ?_ | refine J (EV Try.underlying25 Z Z) ?_
     refine AF ⟨rfl,?_⟩;refine BQ 17 Z Z (A3 Z Z Z (AC Z Z ?_))
     first | refine Hq 89 rfl (fun h89=>?_) (fun h89=>?_) | refine HP 89 rfl (fun h89=>?_) (fun h89=>?_)
     ·refine AF ⟨rfl,?_⟩;refine D1 ?_
      first | refine AE [12,89] [] Z Z (fun _=>Bu Z Z Z (Ac Z Z)) ?_ | refine AI [12,89] Z Z (fun _=>Bu Z Z Z (Ac Z Z)) ?_
      first | refine AE [13,89] [] Z Z (fun _=>Bu Z Z Z (Ac Z Z)) ?_ | refine AI [13,89] Z Z (fun _=>Bu Z Z Z (Ac Z Z)) ?_
      first | refine AE [90,91,89] [] Z Z (fun _=>Bu Z Z Z (BO (j) Z Z (rfl) (Ai hjl) Try.underlying32 rfl Bl rfl)) ?_ | refine AI [90,91,89] Z Z (fun _=>Bu Z Z Z (BO (j) Z Z (rfl) (Ai hjl) Try.underlying32 rfl Bl rfl)) ?_ | refine AE [90,91,89] [] Z Z (fun _=>Bu Z Z Z (BP (j) Z Z (rfl) (Ai hjl) rfl Try.underlying32 Bl rfl)) ?_ | refine AI [90,91,89] Z Z (fun _=>Bu Z Z Z (BP (j) Z Z (rfl) (Ai hjl) rfl Try.underlying32 Bl rfl)) ?_
      first | refine AE [92,89] [] Z Z (fun _=>Bu Z Z Z (AZ Z Z AQ rfl)) ?_ | refine AI [92,89] Z Z (fun _=>Bu Z Z Z (AZ Z Z AQ rfl)) ?_ | refine AE [92,89] [] Z Z (fun _=>Bu Z Z Z (AX Z Z Z AQ rfl)) ?_ | refine AI [92,89] Z Z (fun _=>Bu Z Z Z (AX Z Z Z AQ rfl)) ?_ | refine AE [92,89] [] Z Z (fun _=>Bu Z Z Z (AY Z Z (rfl) rfl AQ rfl)) ?_ | refine AI [92,89] Z Z (fun _=>Bu Z Z Z (AY Z Z (rfl) rfl AQ rfl)) ?_
      first | refine AE [1,89] [] Z Z (fun _=>Bu Z Z Z (Ac Z Z)) ?_ | refine AI [1,89] Z Z (fun _=>Bu Z Z Z (Ac Z Z)) ?_
      refine D2 22 Z Z Z (BQ 23 Z Z (A3 Z Z Z ?_))
      first | refine J (EN Z Z Z) ?_ | refine J (EY Z Z Z) ?_ | refine J (Dy Z Z Z) ?_ | refine J (EP Try.underlying9 Z Z Z) ?_ | refine J (ES Try.underlying9 Z Z Z) ?_ | refine J (ER Try.underlying9 Z Z) ?_ | refine J (EX Try.underlying9 Z Z) ?_ | refine J (EW Try.underlying9 Z Z) ?_ | refine J (EQ Try.underlying9 Z Z Z) ?_ | refine J (EV Try.underlying9 Z Z) ?_
      refine AF ⟨rfl,?_⟩;refine BQ 24 Z Z (A3 Z Z Z (J (GS Z Z Z Z) (AF ⟨rfl,?_⟩)));refine BQ 25 Z Z (J (En Z Z Z Z) (AF ⟨rfl,?_⟩));refine Ei (DX rfl (by first | exact decide_eq_false (hy2 h89 hjm) | simp) (Aj (AH (AC Z Z (J (C5 Z Z (IntWalk.i64_in _ (by omega)) rfl) (AD Z Z (AF ?_)))))));exact ⟨j+1,hjl,by omega,BB hF [25,40,41] rfl (rfl) ⟨rfl,rfl,rfl,rfl,rfl,rfl,rfl,rfl,trivial⟩⟩
     ·refine AF ⟨rfl,?_⟩;refine D1 ?_;refine AE [12,89] [] Z Z (fun _=>GU Z Z Z Z) (AE [13,89] [] Z Z (fun _=>GU Z Z Z Z) (AE [90,91,89] [] Z Z (fun _=>GU Z Z Z Z) (AE [92,89] [] Z Z (fun _=>GU Z Z Z Z) (AE [1,89] [] Z Z (fun _=>GU Z Z Z Z) (D2 22 Z Z Z (BQ 23 Z Z (Aw Z Z Z Z (AF ⟨rfl,?_⟩))))))));refine BQ 24 Z Z (A3 Z Z Z (J (En Z Z Z Z) (AF ⟨rfl,?_⟩)));refine BQ 25 Z Z (J (En Z Z Z Z) (AF ⟨rfl,?_⟩));refine Ei (DX Z Z (Aj (AH (AC Z Z (J (C5 Z Z (IntWalk.i64_in _ (by omega)) rfl) (AD Z Z (AF ?_)))))));exact ⟨j+1,hjl,by omega,BB hF [25,40,41] rfl (rfl) ⟨rfl,rfl,rfl,rfl,rfl,rfl,rfl,rfl,trivial⟩⟩
    ·refine D3 (AH (AC Z Z (J (C5 Z Z (IntWalk.i64_in _ (by omega)) rfl) (AD Z Z (AF ?_)))));exact ⟨i+1,hil,by omega,BB hF [25,40,41] rfl (rfl) ⟨rfl,rfl,rfl,rfl,rfl,rfl,trivial⟩⟩
  ·refine D3 (AG (AH (AD Z Z (AF (At ?_)))));exact ⟨_,[],[],As rfl,rfl,rfl,rfl,rfl⟩
end Go.Proofs.Ytlmedakidpaeeaa
namespace Go.Proofs.Ytlmedakidpaeeaa
open Go.ChangeShapes Go.WideShapes Go.ChangeAt Go.RowKit
set_option maxRecDepth 100000 in
theorem linkRemoval_lifted (os:Os) (started:os.Started) (H:Type) (enc:TypeId×Value ->H):
  ReturnsInHanded {} Try.checked os 6 .any (Rows.linkRemovalSpec.pre6 enc Try.prog Try.f6 Rows.linkRemovalRow.domain false) (Rows.linkRemovalSpec.post enc Try.prog Try.f6 false true false false):=by
 refine returnsInHanded_of_change_sized (C:=Try.checked) Try.own started (by kernel_rfl) Try.func6
  (ChangeSpec.witness6 (enc:=enc) (C:=Try.checked) false ⟨#[], #[.slice none 0 0,.string ⟨#[]⟩],[]⟩ 8 (by kernel_rfl) (by kernel_rfl) (by kernel_rfl) (by kernel_rfl)) ?_
 intro W base args ds gs before hval0 hW _ hwt _;have hW':=hW;obtain ⟨p,q,hA0,hV,rfl,_,_⟩:=hW;have hlt:∀x∈p++q,x.block<W.heap.size:=fun x hx=>hW'.lt x hx;have hA:DataW.TrodAll enc Try.prog W 0 (fun _=>true) true Try.f6.params.toList args.toList ds p:=hA0;rw [Try.params6] at hA;obtain ⟨v0,v1,d0,d1,p0,p1,rfl,rfl,rfl,h0,h1⟩:=trodAll_two hA;obtain ⟨rfl,rfl⟩:=trodVars_none hV;have hwz:∀n∈DataW.weightsEach Try.prog ([30,9]:List TypeId) ([d0,d1]),n≤reachBytes:=fun n hn=>of_decide_eq_true (List.all_eq_true.1 hwt n (by rw [Try.params6];exact hn));have hval:∀(j:Nat) t v,Try.f6.params[j]?=some t ->(#[v0,v1]:Array Value)[j]?=some v ->Value.okWide Try.prog W .any base t v:=hval0;rw [Try.params6] at hval;obtain ⟨n0,g0⟩:=h0;have hv0:v0.oneCell'=true:=by obtain ⟨_,_,_,e⟩:=okWide_slice Try.underlying30 (hval 0 30 v0 Z Z);rw [e];rfl
 obtain ⟨a0,q0,_,r0⟩:=(openSl Try.underlying30 (by kernel_rfl) (by omega) (b:=48) (by kernel_rfl) (oOp)) _ _ _ g0 (fun x hx=>hlt x (by simp [hx])) (fun n hn=>hwz n (DataW.weights_mem_each (j:=0) (t:=30) rfl rfl n hn));obtain ⟨n1,g1⟩:=h1;have hv1:v1.oneCell'=true:=by obtain ⟨_,e⟩:=okWide_string Try.underlying9 (hval 1 9 v1 Z Z);rw [e];rfl
 obtain ⟨a1,q1,_,r1⟩:=(Ic Try.underlying9) _ _ _ g1 (fun x hx=>hlt x (by simp [hx])) (fun n hn=>hwz n (DataW.weights_mem_each (j:=1) (t:=9) rfl rfl n hn));refine (Oh (law4_p a0 (by have:=q0;unfold reachBytes at this;omega) a1) (vs:=[v0,v1]) rfl (fun i a v ha hv=>?_)).mono fun e W' ⟨he,hb⟩=>?_
 ·rcases i with _ | _ | i
  ·simp at ha hv;subst ha hv;exact J7.arg1 Z Z hv0 r0
  ·simp at ha hv;subst ha hv;exact J7.arg1 Z Z hv1 r1
  ·simp at ha
 subst he;exact ⟨_,rfl,QP (tb:=4) Try.laidOut (by kernel_rfl) Z Z Try.underlying4 hW' ⟨rfl,rfl,rfl⟩ hb⟩
theorem linkRemoval_holds:Rows.LinkRemovalSaid:=
 OpenClaim.holds_of_wide 6 Try.f6 Z Z Z Z Z Z Z ⟨rfl,rfl,rfl,rfl,rfl⟩ Z Z Z Z Z (by kernel_rfl) Try.func6 (by kernel_rfl)
  (of_decide_eq_true (by kernel_rfl)) (by unfold Func.isWrapper;first | (rw [if_pos (by decide+kernel)];kernel_rfl) | (rw [if_neg (by decide+kernel)];exact ⟨rfl,rfl⟩))
  (fun os started H enc _=>linkRemoval_lifted os started H enc)
#print axioms linkRemoval_holds
end Go.Proofs.Ytlmedakidpaeeaa
